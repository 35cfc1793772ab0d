import JvmDerived
import JvmDerived.Pilot.@@N@@Statement
import JvmDerived.Pilot.@@N@@Code
set_option linter.unusedVariables false
set_option linter.unusedSimpArgs false
namespace Jvm.Ow
open Sem ClassFile Op Lib Jvm.Stand Jvm.Free Jvm.LawKit Jvm.RoadKit
/-- what one invocation runs over -/
abbrev Cx : Type := Program × Launch × Env × State × MethodId × Array Value × List Frame × Method × Code
def Cx.p (x : Cx) : Program := x.1
def Cx.l (x : Cx) : Launch := x.2.1
def Cx.e (x : Cx) : Env := x.2.2.1
def Cx.s (x : Cx) : State := x.2.2.2.1
def Cx.m (x : Cx) : MethodId := x.2.2.2.2.1
def Cx.args (x : Cx) : Array Value := x.2.2.2.2.2.1
def Cx.below (x : Cx) : List Frame := x.2.2.2.2.2.2.1
def Cx.meth (x : Cx) : Method := x.2.2.2.2.2.2.2.1
def Cx.c (x : Cx) : Code := x.2.2.2.2.2.2.2.2
/-- a body: its name, bytes, max_locals, return type, room, and the table words of the case -/
abbrev Bd : Type := MethodName × ByteArray × Nat × Option FieldType × Room × List Cond
abbrev Bd.y (b : Bd) : MethodName := b.1
abbrev Bd.by (b : Bd) : ByteArray := b.2.1
abbrev Bd.ml (b : Bd) : Nat := b.2.2.1
abbrev Bd.rt (b : Bd) : Option FieldType := b.2.2.2.1
abbrev Bd.R (b : Bd) : Room := b.2.2.2.2.1
abbrev Bd.tb (b : Bd) : List Cond := b.2.2.2.2.2
def Wd (Z : State) (tb : List Cond) : Prop := ∃ a0 : Array Value, ∀ d ∈ tb, d.before a0 Z = true
def En (Z : State) (x : Cx) (B : Bd) : Prop := x.p.tables.exec = Jvm.exec ∧ x.c.code = B.by ∧ x.c.maxLocals = B.ml ∧ x.s.vm.findClass B.y.cls = some x.m.cls ∧ x.meth.name = B.y.name ∧ x.meth.sig.returnType = B.rt ∧ Z.Warmed39 x.s.vm ∧ x.meth.locks = false ∧ Wd Z B.tb
/-- the invocation stands at T, whose heap is h; k cells and n slots were made; nothing of the start's heap was written -/
def Sp (Z : State) (x : Cx) (B : Bd) (T : State) (k n : Nat) (h : Heap) : Prop := En Z x B ∧ Ext Z.heap h ∧ ∃ locs, Stand x.p x.l x.e B.R x.s x.m x.args x.below x.meth x.c T locs k n ∧ T.heap = h ∧ Fr Z.heap.size locs
/-- from T with this frame the invocation ends as Q says -/
def Rn (Q : Option Value → Heap → Prop) (Z : State) (x : Cx) (B : Bd) (T : State) (pc : Nat) (Ls : Array Slot) (st : List Value) : Prop :=
  ∃ t o, Steps x.p.tables x.e x.below (T.setTop (mkF x.m pc Ls st)) t ∧ t.status = .running ∧ Ended t x.below o ∧ ∃ v L, o = .returned v ∧ (Q v t.heap ∧ Ext Z.heap t.heap ∧ Fr Z.heap.size L) ∧ FrameEnd x.s o t L B.R.cells B.R.slots
/-- from every point with this heap and this frame the invocation ends as Q says -/
def Go (Q : Option Value → Heap → Prop) (Z : State) (B : Bd) (k n : Nat) (h : Heap) (pc : Nat) (Ls : Array Slot) (st : List Value) : Prop := ∀ (x : Cx) (T : State), Sp Z x B T k n h → Rn Q Z x B T pc Ls st
/-- a body's contract: from the heap h0, with the arguments as, it returns v at a heap h with Q v h -/
def Con (Z : State) (B : Bd) (as : Array Value) (h0 : Heap) (Q : Option Value → Heap → Prop) : Prop :=
  Ext Z.heap h0 → ∀ (l : Launch) (ws : List Cond), MetFree l B.y (head1 (Cond.code B.y B.by B.ml B.rt :: ws) B.R) (fun a U => a = as ∧ Z.Warmed39 U.vm ∧ U.heap = h0) (fun _ _ _ _ _ => True)
    (fun _ U o U' => ∃ v L, o = .returned v ∧ (Q v U'.heap ∧ Ext Z.heap U'.heap ∧ Fr Z.heap.size L) ∧ FrameEnd U o U' L B.R.cells B.R.slots)
/-- an array: its values -/
def Ary (Z : State) (h : Heap) (a : Addr) (ty : FieldType) (vs : List Value) : Prop := ∃ c : Cell, Arr Z h a c ty ∧ c.slots.toList = vs ∧ vs.length < 2 ^ 31 ∧ ∀ v ∈ vs, fits ty v = true
/-- an array over objects of class C -/
def Aov (Z : State) (h : Heap) (a : Addr) (C : String) : Prop := ∃ c : Cell, h[a]? = some c ∧ Ovr Z c.cls C
section St
variable {Q : Option Value → Heap → Prop} {Z : State} {x : Cx} {B : Bd} {T : State} {k n : Nat} {h h' : Heap} {pc : Nat} {Ls Ls' : Array Slot} {st rest : List Value}
theorem Wd.w {tb : List Cond} (W : Wd Z tb) : ∃ a0 : Array Value, ∀ {i : Nat} {d : Cond}, tb[i]? = some d → d.before a0 Z = true := by
  obtain ⟨a0, hw⟩ := W; exact ⟨a0, fun hi => hw _ (List.mem_of_getElem? hi)⟩
theorem Con.mk {as : Array Value} {h0 : Heap} (hw : Wd Z B.tb) (hpn : plainName B.y.cls = true) (hef : ∀ m, entryFrame m as B.ml = mkF m 0 Ls [])
    (body : Go Q Z B 0 0 h0 0 Ls []) : Con Z B as h0 Q := by
  intro hE l ws
  refine MetFree.of_bodySF (plainFor_of_name hpn) hisR ?_
  intro p e s m args below meth c s₁ Bd hml0 hP hK
  obtain ⟨rfl, hZ, hh⟩ := hP
  have X0 : Stand p l e B.R s m args below meth c s₁ [] 0 0 := Stand.of_body Bd
  have e0 : s₁.heap = h0 := by rw [← hh, Bd.state]; rfl
  obtain ⟨t, o, h1, h2, h3, h4⟩ := body (p, l, e, s, m, args, below, meth, c) s₁ ⟨⟨Bd.exec, Bd.bytes, hml0, findClass_of_methodNamed Bd.named, (name_of_methodNamed Bd.named Bd.method).1, Bd.returns, hZ, Bd.notSynchronized, hw⟩, hE, [], X0, e0, Fr.nil _⟩
  exact ⟨t, o, castTop (hef m) h1, h2, h3, h4⟩
theorem Con.post {as : Array Value} {h0 : Heap} {Q' : Option Value → Heap → Prop} (C : Con Z B as h0 Q) (q : ∀ v h, Q v h → Q' v h) : Con Z B as h0 Q' := fun hE l ws =>
  (C hE l ws).mono (fun _ _ h => h) (fun _ _ _ _ _ h => h) fun _ _ _ _ _ ⟨v, L, h1, h2, h3⟩ => ⟨v, L, h1, ⟨q _ _ h2.1, h2.2⟩, h3⟩
theorem Sp.here (P : Sp Z x B T k n h) : At T x.m x.c x.below := by obtain ⟨_, _, _, X, _⟩ := P; exact X.here
theorem Sp.ex (P : Sp Z x B T k n h) : x.p.tables.exec = Jvm.exec := P.1.1
theorem Sp.d (P : Sp Z x B T k n h) {r : Except DecodeError (Instr × Nat)} (hd : decode B.by pc = r) : decode x.c.code pc = r := by rw [P.1.2.1]; exact hd
theorem Sp.old (P : Sp Z x B T k n h) : Ext Z.heap h := P.2.1
theorem Sp.wd (P : Sp Z x B T k n h) : Wd Z B.tb := P.1.2.2.2.2.2.2.2.2
theorem Sp.le (P : Sp Z x B T k n h) : Z.heap.size ≤ h.size := P.2.1.1
theorem lift {T' : State} {pc' : Nat} {st' : List Value} (f : ∀ t, Steps x.p.tables x.e x.below (T'.setTop (mkF x.m pc' Ls' st')) t → Steps x.p.tables x.e x.below (T.setTop (mkF x.m pc Ls st)) t) (r : Rn Q Z x B T' pc' Ls' st') : Rn Q Z x B T pc Ls st := by
  obtain ⟨t, o, h1, h2⟩ := r; exact ⟨t, o, f t h1, h2⟩
theorem liftS {T' : State} {pc' : Nat} {st' : List Value} (f : Steps x.p.tables x.e x.below (T.setTop (mkF x.m pc Ls st)) (T'.setTop (mkF x.m pc' Ls' st'))) (r : Rn Q Z x B T' pc' Ls' st') : Rn Q Z x B T pc Ls st := by
  obtain ⟨t, o, h1, h2⟩ := r; exact ⟨t, o, f.trans h1, h2⟩
theorem Go.nameI {z : Int32} (r : ∀ v, z = v → Go Q Z B k n h pc Ls (.int v :: st)) : Go Q Z B k n h pc Ls (.int z :: st) := r z rfl
theorem Go.nameJ {z : Int64} (r : ∀ v, z = v → Go Q Z B k n h pc Ls (.long v :: st)) : Go Q Z B k n h pc Ls (.long z :: st) := r z rfl
theorem Go.nameD {z : UInt64} (r : ∀ v, z = v → Go Q Z B k n h pc Ls (.double v :: st)) : Go Q Z B k n h pc Ls (.double z :: st) := r z rfl
theorem Go.eqI {z w : Int32} (e : z = w) (r : Go Q Z B k n h pc Ls (.int w :: st)) : Go Q Z B k n h pc Ls (.int z :: st) := e ▸ r
theorem Go.eqJ {z w : Int64} (e : z = w) (r : Go Q Z B k n h pc Ls (.long w :: st)) : Go Q Z B k n h pc Ls (.long z :: st) := e ▸ r
theorem Go.eqD {z w : UInt64} (e : z = w) (r : Go Q Z B k n h pc Ls (.double w :: st)) : Go Q Z B k n h pc Ls (.double z :: st) := e ▸ r
theorem Go.joinI {pcJ : Nat} {LsJ : Array Slot} {stJ : List Value} (G : Int32 → Prop) (s : (∀ v, G v → Go Q Z B k n h pcJ LsJ (.int v :: stJ)) → Go Q Z B k n h pc Ls st) (r : ∀ v, G v → Go Q Z B k n h pcJ LsJ (.int v :: stJ)) : Go Q Z B k n h pc Ls st := s r
theorem cut {G : Prop} (X : Prop) (s : X → G) (r : X) : G := s r
theorem Go.old (r : Ext Z.heap h → Go Q Z B k n h pc Ls st) : Go Q Z B k n h pc Ls st := fun x T P => r P.old x T P
theorem Go.more {k' n' : Nat} (hk : k ≤ k') (hn : n ≤ n') (r : Go Q Z B k' n' h pc Ls st) : Go Q Z B k n h pc Ls st := fun x T P => r x T (by
  obtain ⟨E, O, locs, X, e, N⟩ := P
  exact ⟨E, O, locs, { X with same := X.same.mono hk hn }, e, N⟩)
theorem Go.iload (pc' : Nat) (hp : pc + 2 = pc') {i : Nat} {v : Int32} (hd : decode B.by pc = .ok (.iload i, 2)) (hl : Ls[i]? = some (.val (.int v))) (r : Go Q Z B k n h pc' Ls (.int v :: st)) : Go Q Z B k n h pc Ls (st) := fun x T P => by
  subst hp; exact lift (fun t q => XS.iload P.here P.ex rfl (P.d hd) hl q) (r x T P)
theorem Go.iloadN (pc' : Nat) (hp : pc + 1 = pc') {i : Fin 4} {v : Int32} (hd : decode B.by pc = .ok (.iload_n i, 1)) (hl : Ls[i.val]? = some (.val (.int v))) (r : Go Q Z B k n h pc' Ls (.int v :: st)) : Go Q Z B k n h pc Ls (st) := fun x T P => by
  subst hp; exact lift (fun t q => XS.iloadN P.here P.ex rfl (P.d hd) hl q) (r x T P)
theorem Go.istore (pc' : Nat) (hp : pc + 2 = pc') {i : Nat} {v : Int32} (hd : decode B.by pc = .ok (.istore i, 2))  (hl : storeLocals Ls i (.int v) = some Ls') (r : Go Q Z B k n h pc' Ls' (st)) : Go Q Z B k n h pc Ls (.int v :: st) := fun x T P => by
  subst hp; exact lift (fun t q => XS.istore P.here P.ex rfl (P.d hd) rfl hl q) (r x T P)
theorem Go.istoreN (pc' : Nat) (hp : pc + 1 = pc') {i : Fin 4} {v : Int32} (hd : decode B.by pc = .ok (.istore_n i, 1))  (hl : storeLocals Ls i.val (.int v) = some Ls') (r : Go Q Z B k n h pc' Ls' (st)) : Go Q Z B k n h pc Ls (.int v :: st) := fun x T P => by
  subst hp; exact lift (fun t q => XS.istoreN P.here P.ex rfl (P.d hd) rfl hl q) (r x T P)
theorem Go.lload (pc' : Nat) (hp : pc + 2 = pc') {i : Nat} {v : Int64} (hd : decode B.by pc = .ok (.lload i, 2)) (hl : Ls[i]? = some (.val (.long v))) (r : Go Q Z B k n h pc' Ls (.long v :: st)) : Go Q Z B k n h pc Ls (st) := fun x T P => by
  subst hp; exact lift (fun t q => XT.lload P.here P.ex rfl (P.d hd) hl q) (r x T P)
theorem Go.lloadN (pc' : Nat) (hp : pc + 1 = pc') {i : Fin 4} {v : Int64} (hd : decode B.by pc = .ok (.lload_n i, 1)) (hl : Ls[i.val]? = some (.val (.long v))) (r : Go Q Z B k n h pc' Ls (.long v :: st)) : Go Q Z B k n h pc Ls (st) := fun x T P => by
  subst hp; exact lift (fun t q => XT.lloadN P.here P.ex rfl (P.d hd) hl q) (r x T P)
theorem Go.lstore (pc' : Nat) (hp : pc + 2 = pc') {i : Nat} {v : Int64} (hd : decode B.by pc = .ok (.lstore i, 2))  (hl : storeLocals Ls i (.long v) = some Ls') (r : Go Q Z B k n h pc' Ls' (st)) : Go Q Z B k n h pc Ls (.long v :: st) := fun x T P => by
  subst hp; exact lift (fun t q => XT.lstore P.here P.ex rfl (P.d hd) rfl hl q) (r x T P)
theorem Go.lstoreN (pc' : Nat) (hp : pc + 1 = pc') {i : Fin 4} {v : Int64} (hd : decode B.by pc = .ok (.lstore_n i, 1))  (hl : storeLocals Ls i.val (.long v) = some Ls') (r : Go Q Z B k n h pc' Ls' (st)) : Go Q Z B k n h pc Ls (.long v :: st) := fun x T P => by
  subst hp; exact lift (fun t q => XT.lstoreN P.here P.ex rfl (P.d hd) rfl hl q) (r x T P)
theorem Go.aload (pc' : Nat) (hp : pc + 2 = pc') {i : Nat} {v : Value} (hd : decode B.by pc = .ok (.aload i, 2)) (hl : Ls[i]? = some (.val (v))) (hv : v.isRef = true) (r : Go Q Z B k n h pc' Ls (v :: st)) : Go Q Z B k n h pc Ls (st) := fun x T P => by
  subst hp; exact lift (fun t q => XS.aload P.here P.ex rfl (P.d hd) hl hv q) (r x T P)
theorem Go.aloadN (pc' : Nat) (hp : pc + 1 = pc') {i : Fin 4} {v : Value} (hd : decode B.by pc = .ok (.aload_n i, 1)) (hl : Ls[i.val]? = some (.val (v))) (hv : v.isRef = true) (r : Go Q Z B k n h pc' Ls (v :: st)) : Go Q Z B k n h pc Ls (st) := fun x T P => by
  subst hp; exact lift (fun t q => XS.aloadN P.here P.ex rfl (P.d hd) hl hv q) (r x T P)
theorem Go.astore (pc' : Nat) (hp : pc + 2 = pc') {i : Nat} {v : Value} (hd : decode B.by pc = .ok (.astore i, 2))  (hv : v.isRef = true) (hl : storeLocals Ls i (v) = some Ls') (r : Go Q Z B k n h pc' Ls' (st)) : Go Q Z B k n h pc Ls (v :: st) := fun x T P => by
  subst hp; exact lift (fun t q => XS.astore P.here P.ex rfl (P.d hd) rfl hv hl q) (r x T P)
theorem Go.astoreN (pc' : Nat) (hp : pc + 1 = pc') {i : Fin 4} {v : Value} (hd : decode B.by pc = .ok (.astore_n i, 1))  (hv : v.isRef = true) (hl : storeLocals Ls i.val (v) = some Ls') (r : Go Q Z B k n h pc' Ls' (st)) : Go Q Z B k n h pc Ls (v :: st) := fun x T P => by
  subst hp; exact lift (fun t q => XS.astoreN P.here P.ex rfl (P.d hd) rfl hv hl q) (r x T P)
theorem Go.dload (pc' : Nat) (hp : pc + 2 = pc') {i : Nat} {v : UInt64} (hd : decode B.by pc = .ok (.dload i, 2)) (hl : Ls[i]? = some (.val (.double v))) (r : Go Q Z B k n h pc' Ls (.double v :: st)) : Go Q Z B k n h pc Ls (st) := fun x T P => by
  subst hp; exact lift (fun t q => XS.dload P.here P.ex rfl (P.d hd) hl q) (r x T P)
theorem Go.dloadN (pc' : Nat) (hp : pc + 1 = pc') {i : Fin 4} {v : UInt64} (hd : decode B.by pc = .ok (.dload_n i, 1)) (hl : Ls[i.val]? = some (.val (.double v))) (r : Go Q Z B k n h pc' Ls (.double v :: st)) : Go Q Z B k n h pc Ls (st) := fun x T P => by
  subst hp; exact lift (fun t q => XS.dloadN P.here P.ex rfl (P.d hd) hl q) (r x T P)
theorem Go.dstore (pc' : Nat) (hp : pc + 2 = pc') {i : Nat} {v : UInt64} (hd : decode B.by pc = .ok (.dstore i, 2))  (hl : storeLocals Ls i (.double v) = some Ls') (r : Go Q Z B k n h pc' Ls' (st)) : Go Q Z B k n h pc Ls (.double v :: st) := fun x T P => by
  subst hp; exact lift (fun t q => XS.dstore P.here P.ex rfl (P.d hd) rfl hl q) (r x T P)
theorem Go.dstoreN (pc' : Nat) (hp : pc + 1 = pc') {i : Fin 4} {v : UInt64} (hd : decode B.by pc = .ok (.dstore_n i, 1))  (hl : storeLocals Ls i.val (.double v) = some Ls') (r : Go Q Z B k n h pc' Ls' (st)) : Go Q Z B k n h pc Ls (.double v :: st) := fun x T P => by
  subst hp; exact lift (fun t q => XS.dstoreN P.here P.ex rfl (P.d hd) rfl hl q) (r x T P)
theorem Go.iconst (pc' : Nat) (hp : pc + 1 = pc') {i : Int} (v : Int32) (hd : decode B.by pc = .ok (.iconst i, 1)) (hv : Int32.ofInt i = v) (r : Go Q Z B k n h pc' Ls (.int v :: st)) : Go Q Z B k n h pc Ls (st) := fun x T P => by
  subst hp; exact lift (fun t q => XT.iconstV P.here P.ex rfl v (P.d hd) hv q) (r x T P)
theorem Go.bipush (pc' : Nat) (hp : pc + 2 = pc') {i : Int} (v : Int32) (hd : decode B.by pc = .ok (.bipush i, 2)) (hv : (Int8.ofInt i).toInt32 = v) (r : Go Q Z B k n h pc' Ls (.int v :: st)) : Go Q Z B k n h pc Ls (st) := fun x T P => by
  subst hp; exact lift (fun t q => XT.bipushV P.here P.ex rfl v (P.d hd) hv q) (r x T P)
theorem Go.sipush (pc' : Nat) (hp : pc + 3 = pc') {i : Int} (v : Int32) (hd : decode B.by pc = .ok (.sipush i, 3)) (hv : (Int16.ofInt i).toInt32 = v) (r : Go Q Z B k n h pc' Ls (.int v :: st)) : Go Q Z B k n h pc Ls (st) := fun x T P => by
  subst hp; exact lift (fun t q => XT.sipushV P.here P.ex rfl v (P.d hd) hv q) (r x T P)
theorem Go.lconst (pc' : Nat) (hp : pc + 1 = pc') {i : Fin 2} (v : Int64) (hd : decode B.by pc = .ok (.lconst i, 1)) (hv : Int64.ofNat i = v) (r : Go Q Z B k n h pc' Ls (.long v :: st)) : Go Q Z B k n h pc Ls (st) := fun x T P => by
  subst hp; exact lift (fun t q => XT.lconstV P.here P.ex rfl v (P.d hd) hv q) (r x T P)
theorem Go.aconstNull (pc' : Nat) (hp : pc + 1 = pc')  (hd : decode B.by pc = .ok (.aconst_null, 1))  (r : Go Q Z B k n h pc' Ls (.null :: st)) : Go Q Z B k n h pc Ls (st) := fun x T P => by
  subst hp; exact lift (fun t q => XS.aconstNull P.here P.ex rfl (P.d hd) q) (r x T P)
theorem Go.iadd (pc' : Nat) (hp : pc + 1 = pc') {x1 y1 : Int32} (hd : decode B.by pc = .ok (.iadd, 1))  (r : Go Q Z B k n h pc' Ls (.int (x1 + y1) :: st)) : Go Q Z B k n h pc Ls (.int y1 :: .int x1 :: st) := fun x T P => by
  subst hp; exact lift (fun t q => XS.iadd P.here P.ex rfl (P.d hd) rfl q) (r x T P)
theorem Go.isub (pc' : Nat) (hp : pc + 1 = pc') {x1 y1 : Int32} (hd : decode B.by pc = .ok (.isub, 1))  (r : Go Q Z B k n h pc' Ls (.int (x1 - y1) :: st)) : Go Q Z B k n h pc Ls (.int y1 :: .int x1 :: st) := fun x T P => by
  subst hp; exact lift (fun t q => XS.isub P.here P.ex rfl (P.d hd) rfl q) (r x T P)
theorem Go.iand (pc' : Nat) (hp : pc + 1 = pc') {x1 y1 : Int32} (hd : decode B.by pc = .ok (.iand, 1))  (r : Go Q Z B k n h pc' Ls (.int (x1 &&& y1) :: st)) : Go Q Z B k n h pc Ls (.int y1 :: .int x1 :: st) := fun x T P => by
  subst hp; exact lift (fun t q => XS.iand P.here P.ex rfl (P.d hd) rfl q) (r x T P)
theorem Go.imul (pc' : Nat) (hp : pc + 1 = pc') {x1 y1 : Int32} (hd : decode B.by pc = .ok (.imul, 1))  (r : Go Q Z B k n h pc' Ls (.int (x1 * y1) :: st)) : Go Q Z B k n h pc Ls (.int y1 :: .int x1 :: st) := fun x T P => by
  subst hp; exact lift (fun t q => XS.imul P.here P.ex rfl (P.d hd) rfl q) (r x T P)
theorem Go.ixor (pc' : Nat) (hp : pc + 1 = pc') {x1 y1 : Int32} (hd : decode B.by pc = .ok (.ixor, 1))  (r : Go Q Z B k n h pc' Ls (.int (x1 ^^^ y1) :: st)) : Go Q Z B k n h pc Ls (.int y1 :: .int x1 :: st) := fun x T P => by
  subst hp; exact lift (fun t q => XT.ixor P.here P.ex rfl (P.d hd) rfl q) (r x T P)
theorem Go.ior (pc' : Nat) (hp : pc + 1 = pc') {x1 y1 : Int32} (hd : decode B.by pc = .ok (.ior, 1))  (r : Go Q Z B k n h pc' Ls (.int (x1 ||| y1) :: st)) : Go Q Z B k n h pc Ls (.int y1 :: .int x1 :: st) := fun x T P => by
  subst hp; exact lift (fun t q => XT.ior P.here P.ex rfl (P.d hd) rfl q) (r x T P)
theorem Go.ishl (pc' : Nat) (hp : pc + 1 = pc') {x1 y1 : Int32} (hd : decode B.by pc = .ok (.ishl, 1))  (r : Go Q Z B k n h pc' Ls (.int (x1 <<< (y1 &&& 31)) :: st)) : Go Q Z B k n h pc Ls (.int y1 :: .int x1 :: st) := fun x T P => by
  subst hp; exact lift (fun t q => XT.ishl P.here P.ex rfl (P.d hd) rfl q) (r x T P)
theorem Go.ishr (pc' : Nat) (hp : pc + 1 = pc') {x1 y1 : Int32} (hd : decode B.by pc = .ok (.ishr, 1))  (r : Go Q Z B k n h pc' Ls (.int (x1 >>> (y1 &&& 31)) :: st)) : Go Q Z B k n h pc Ls (.int y1 :: .int x1 :: st) := fun x T P => by
  subst hp; exact lift (fun t q => XT.ishr P.here P.ex rfl (P.d hd) rfl q) (r x T P)
theorem Go.iushr (pc' : Nat) (hp : pc + 1 = pc') {x1 y1 : Int32} (hd : decode B.by pc = .ok (.iushr, 1))  (r : Go Q Z B k n h pc' Ls (.int (XT.ushr x1 y1) :: st)) : Go Q Z B k n h pc Ls (.int y1 :: .int x1 :: st) := fun x T P => by
  subst hp; exact lift (fun t q => XT.iushr P.here P.ex rfl (P.d hd) rfl q) (r x T P)
theorem Go.idiv (pc' : Nat) (hp : pc + 1 = pc') {x1 y1 : Int32} (hd : decode B.by pc = .ok (.idiv, 1)) (hy : y1 ≠ 0) (r : Go Q Z B k n h pc' Ls (.int (x1 / y1) :: st)) : Go Q Z B k n h pc Ls (.int y1 :: .int x1 :: st) := fun x T P => by
  subst hp; exact lift (fun t q => XS.idiv P.here P.ex rfl (P.d hd) rfl hy q) (r x T P)
theorem Go.ladd (pc' : Nat) (hp : pc + 1 = pc') {x1 y1 : Int64} (hd : decode B.by pc = .ok (.ladd, 1))  (r : Go Q Z B k n h pc' Ls (.long (x1 + y1) :: st)) : Go Q Z B k n h pc Ls (.long y1 :: .long x1 :: st) := fun x T P => by
  subst hp; exact lift (fun t q => XT.ladd P.here P.ex rfl (P.d hd) rfl q) (r x T P)
theorem Go.lsub (pc' : Nat) (hp : pc + 1 = pc') {x1 y1 : Int64} (hd : decode B.by pc = .ok (.lsub, 1))  (r : Go Q Z B k n h pc' Ls (.long (x1 - y1) :: st)) : Go Q Z B k n h pc Ls (.long y1 :: .long x1 :: st) := fun x T P => by
  subst hp; exact lift (fun t q => XT.lsub P.here P.ex rfl (P.d hd) rfl q) (r x T P)
theorem Go.land (pc' : Nat) (hp : pc + 1 = pc') {x1 y1 : Int64} (hd : decode B.by pc = .ok (.land, 1))  (r : Go Q Z B k n h pc' Ls (.long (x1 &&& y1) :: st)) : Go Q Z B k n h pc Ls (.long y1 :: .long x1 :: st) := fun x T P => by
  subst hp; exact lift (fun t q => XT.land P.here P.ex rfl (P.d hd) rfl q) (r x T P)
theorem Go.lmul (pc' : Nat) (hp : pc + 1 = pc') {x1 y1 : Int64} (hd : decode B.by pc = .ok (.lmul, 1))  (r : Go Q Z B k n h pc' Ls (.long (x1 * y1) :: st)) : Go Q Z B k n h pc Ls (.long y1 :: .long x1 :: st) := fun x T P => by
  subst hp; exact lift (fun t q => XT.lmul P.here P.ex rfl (P.d hd) rfl q) (r x T P)
theorem Go.lxor (pc' : Nat) (hp : pc + 1 = pc') {x1 y1 : Int64} (hd : decode B.by pc = .ok (.lxor, 1))  (r : Go Q Z B k n h pc' Ls (.long (x1 ^^^ y1) :: st)) : Go Q Z B k n h pc Ls (.long y1 :: .long x1 :: st) := fun x T P => by
  subst hp; exact lift (fun t q => XT.lxor P.here P.ex rfl (P.d hd) rfl q) (r x T P)
theorem Go.lor (pc' : Nat) (hp : pc + 1 = pc') {x1 y1 : Int64} (hd : decode B.by pc = .ok (.lor, 1))  (r : Go Q Z B k n h pc' Ls (.long (x1 ||| y1) :: st)) : Go Q Z B k n h pc Ls (.long y1 :: .long x1 :: st) := fun x T P => by
  subst hp; exact lift (fun t q => XT.lor P.here P.ex rfl (P.d hd) rfl q) (r x T P)
theorem Go.lshl (pc' : Nat) (hp : pc + 1 = pc') {x1 : Int64} {y1 : Int32} (hd : decode B.by pc = .ok (.lshl, 1))  (r : Go Q Z B k n h pc' Ls (.long (x1 <<< (y1.toInt64 &&& 63)) :: st)) : Go Q Z B k n h pc Ls (.int y1 :: .long x1 :: st) := fun x T P => by
  subst hp; exact lift (fun t q => XT.lshl P.here P.ex rfl (P.d hd) rfl q) (r x T P)
theorem Go.lshr (pc' : Nat) (hp : pc + 1 = pc') {x1 : Int64} {y1 : Int32} (hd : decode B.by pc = .ok (.lshr, 1))  (r : Go Q Z B k n h pc' Ls (.long (x1 >>> (y1.toInt64 &&& 63)) :: st)) : Go Q Z B k n h pc Ls (.int y1 :: .long x1 :: st) := fun x T P => by
  subst hp; exact lift (fun t q => XT.lshr P.here P.ex rfl (P.d hd) rfl q) (r x T P)
theorem Go.lushr (pc' : Nat) (hp : pc + 1 = pc') {x1 : Int64} {y1 : Int32} (hd : decode B.by pc = .ok (.lushr, 1))  (r : Go Q Z B k n h pc' Ls (.long (XT.ushrL x1 y1) :: st)) : Go Q Z B k n h pc Ls (.int y1 :: .long x1 :: st) := fun x T P => by
  subst hp; exact lift (fun t q => XT.lushr P.here P.ex rfl (P.d hd) rfl q) (r x T P)
theorem Go.ldiv (pc' : Nat) (hp : pc + 1 = pc') {x1 y1 : Int64} (hd : decode B.by pc = .ok (.ldiv, 1)) (hy : y1 ≠ 0) (r : Go Q Z B k n h pc' Ls (.long (x1 / y1) :: st)) : Go Q Z B k n h pc Ls (.long y1 :: .long x1 :: st) := fun x T P => by
  subst hp; exact lift (fun t q => XT.ldiv P.here P.ex rfl (P.d hd) rfl hy q) (r x T P)
theorem Go.lrem (pc' : Nat) (hp : pc + 1 = pc') {x1 y1 : Int64} (hd : decode B.by pc = .ok (.lrem, 1)) (hy : y1 ≠ 0) (r : Go Q Z B k n h pc' Ls (.long (x1 % y1) :: st)) : Go Q Z B k n h pc Ls (.long y1 :: .long x1 :: st) := fun x T P => by
  subst hp; exact lift (fun t q => XT.lrem P.here P.ex rfl (P.d hd) rfl hy (by rw [lrem_mod]; exact q)) (r x T P)
theorem Go.lneg (pc' : Nat) (hp : pc + 1 = pc') {x1 : Int64} (hd : decode B.by pc = .ok (.lneg, 1))  (r : Go Q Z B k n h pc' Ls (.long (-x1) :: st)) : Go Q Z B k n h pc Ls (.long x1 :: st) := fun x T P => by
  subst hp; exact lift (fun t q => XT.lneg P.here P.ex rfl (P.d hd) rfl q) (r x T P)
theorem Go.ineg (pc' : Nat) (hp : pc + 1 = pc') {x1 : Int32} (hd : decode B.by pc = .ok (.ineg, 1))  (r : Go Q Z B k n h pc' Ls (.int (-x1) :: st)) : Go Q Z B k n h pc Ls (.int x1 :: st) := fun x T P => by
  subst hp; exact lift (fun t q => XS.ineg P.here P.ex rfl (P.d hd) rfl q) (r x T P)
theorem Go.i2l (pc' : Nat) (hp : pc + 1 = pc') {x1 : Int32} (hd : decode B.by pc = .ok (.i2l, 1))  (r : Go Q Z B k n h pc' Ls (.long x1.toInt64 :: st)) : Go Q Z B k n h pc Ls (.int x1 :: st) := fun x T P => by
  subst hp; exact lift (fun t q => XT.i2l P.here P.ex rfl (P.d hd) rfl q) (r x T P)
theorem Go.l2i (pc' : Nat) (hp : pc + 1 = pc') {x1 : Int64} (hd : decode B.by pc = .ok (.l2i, 1))  (r : Go Q Z B k n h pc' Ls (.int x1.toInt32 :: st)) : Go Q Z B k n h pc Ls (.long x1 :: st) := fun x T P => by
  subst hp; exact lift (fun t q => XT.l2i P.here P.ex rfl (P.d hd) rfl q) (r x T P)
theorem Go.i2b (pc' : Nat) (hp : pc + 1 = pc') {x1 : Int32} (hd : decode B.by pc = .ok (.i2b, 1))  (r : Go Q Z B k n h pc' Ls (.int x1.toInt8.toInt32 :: st)) : Go Q Z B k n h pc Ls (.int x1 :: st) := fun x T P => by
  subst hp; exact lift (fun t q => XT.i2b P.here P.ex rfl (P.d hd) rfl q) (r x T P)
theorem Go.i2c (pc' : Nat) (hp : pc + 1 = pc') {x1 : Int32} (hd : decode B.by pc = .ok (.i2c, 1))  (r : Go Q Z B k n h pc' Ls (.int x1.toUInt32.toUInt16.toUInt32.toInt32 :: st)) : Go Q Z B k n h pc Ls (.int x1 :: st) := fun x T P => by
  subst hp; exact lift (fun t q => XT.i2c P.here P.ex rfl (P.d hd) rfl q) (r x T P)
theorem Go.i2s (pc' : Nat) (hp : pc + 1 = pc') {x1 : Int32} (hd : decode B.by pc = .ok (.i2s, 1))  (r : Go Q Z B k n h pc' Ls (.int x1.toInt16.toInt32 :: st)) : Go Q Z B k n h pc Ls (.int x1 :: st) := fun x T P => by
  subst hp; exact lift (fun t q => XT.i2s P.here P.ex rfl (P.d hd) rfl q) (r x T P)
theorem Go.lcmp (pc' : Nat) (hp : pc + 1 = pc') {x1 y1 : Int64} (hd : decode B.by pc = .ok (.lcmp, 1))  (r : Go Q Z B k n h pc' Ls (.int (XT.cmpL x1 y1) :: st)) : Go Q Z B k n h pc Ls (.long y1 :: .long x1 :: st) := fun x T P => by
  subst hp; exact lift (fun t q => XT.lcmp P.here P.ex rfl (P.d hd) rfl q) (r x T P)
theorem Go.i2d (pc' : Nat) (hp : pc + 1 = pc') {x1 : Int32} (hd : decode B.by pc = .ok (.i2d, 1))  (r : Go Q Z B k n h pc' Ls (.double (FP.i2d x1) :: st)) : Go Q Z B k n h pc Ls (.int x1 :: st) := fun x T P => by
  subst hp; exact lift (fun t q => XS.i2dS P.here P.ex rfl (P.d hd) rfl rfl q) (r x T P)
theorem Go.l2d (pc' : Nat) (hp : pc + 1 = pc') {x1 : Int64} (hd : decode B.by pc = .ok (.l2d, 1))  (r : Go Q Z B k n h pc' Ls (.double (FP.l2d x1) :: st)) : Go Q Z B k n h pc Ls (.long x1 :: st) := fun x T P => by
  subst hp; exact lift (fun t q => XS.l2dS P.here P.ex rfl (P.d hd) rfl rfl q) (r x T P)
theorem Go.dcmp (pc' : Nat) (hp : pc + 1 = pc') {o : CmpOp} {x1 y1 : UInt64} (v : Int32) (hd : decode B.by pc = .ok (.dcmp o, 1)) (hv : cmpValue (FP.dcmp x1 y1) o = v) (r : Go Q Z B k n h pc' Ls (.int v :: st)) : Go Q Z B k n h pc Ls (.double y1 :: .double x1 :: st) := fun x T P => by
  subst hp; exact lift (fun t q => XS.dcmpS P.here P.ex rfl (P.d hd) rfl hv q) (r x T P)
theorem Go.ddiv (pc' : Nat) (hp : pc + 1 = pc') {x1 y1 : UInt64} (hd : decode B.by pc = .ok (.ddiv, 1)) (hn : Jvm.Free.Fl.NoNaN64 (FP.ddiv x1 y1)) (r : Go Q Z B k n h pc' Ls (.double (FP.ddiv x1 y1) :: st)) : Go Q Z B k n h pc Ls (.double y1 :: .double x1 :: st) := fun x T P => by
  subst hp; exact lift (fun t q => XS.ddivS P.here P.ex rfl (P.d hd) rfl hn rfl q) (r x T P)
theorem Go.dup (pc' : Nat) (hp : pc + 1 = pc') {v : Value} (hd : decode B.by pc = .ok (.dup, 1)) (hc : v.category = 1) (r : Go Q Z B k n h pc' Ls (v :: v :: st)) : Go Q Z B k n h pc Ls (v :: st) := fun x T P => by
  subst hp; exact lift (fun t q => XS.dup P.here P.ex rfl (P.d hd) rfl hc q) (r x T P)
theorem Go.pop (pc' : Nat) (hp : pc + 1 = pc') {v : Value} (hd : decode B.by pc = .ok (.pop, 1)) (hc : v.category = 1) (r : Go Q Z B k n h pc' Ls (st)) : Go Q Z B k n h pc Ls (v :: st) := fun x T P => by
  subst hp; exact lift (fun t q => XT.pop P.here P.ex rfl (P.d hd) rfl hc q) (r x T P)
theorem Go.dupX1 (pc' : Nat) (hp : pc + 1 = pc') {v w : Value} (hd : decode B.by pc = .ok (.dup_x1, 1)) (hc : v.category = 1) (hc' : w.category = 1) (r : Go Q Z B k n h pc' Ls (v :: w :: v :: st)) : Go Q Z B k n h pc Ls (v :: w :: st) := fun x T P => by
  subst hp; exact lift (fun t q => XT.dupX1 P.here P.ex rfl (P.d hd) rfl hc hc' q) (r x T P)
theorem Go.dup2 (pc' : Nat) (hp : pc + 1 = pc') {v w : Value} (hd : decode B.by pc = .ok (.dup2, 1)) (hc : v.category = 1) (hc' : w.category = 1) (r : Go Q Z B k n h pc' Ls (v :: w :: v :: w :: st)) : Go Q Z B k n h pc Ls (v :: w :: st) := fun x T P => by
  subst hp; exact lift (fun t q => XT.dup2 P.here P.ex rfl (P.d hd) rfl hc hc' q) (r x T P)
theorem Go.dup2L (pc' : Nat) (hp : pc + 1 = pc') {v : Int64} (hd : decode B.by pc = .ok (.dup2, 1))  (r : Go Q Z B k n h pc' Ls (.long v :: .long v :: st)) : Go Q Z B k n h pc Ls (.long v :: st) := fun x T P => by
  subst hp; exact lift (fun t q => XT.dup2L P.here P.ex rfl (P.d hd) rfl q) (r x T P)
theorem Go.iinc (pc' : Nat) (hp : pc + 3 = pc') {i : Nat} {cst : Int} {x1 : Int32} (v : Int32) (hd : decode B.by pc = .ok (.iinc i cst, 3)) (hv : Int32.ofInt cst = v) (hl : Ls[i]? = some (.val (.int x1))) (hl' : storeLocals Ls i (.int (x1 + v)) = some Ls') (r : Go Q Z B k n h pc' Ls' (st)) : Go Q Z B k n h pc Ls (st) := fun x T P => by
  subst hp; exact lift (fun t q => XT.iincV P.here P.ex rfl v (P.d hd) hv hl hl' q) (r x T P)
theorem Go.irem (pc' : Nat) (hp : pc + 1 = pc') {x1 y1 : Int32} (hd : decode B.by pc = .ok (.irem, 1)) (hy : y1 ≠ 0) (r : Go Q Z B k n h pc' Ls (.int (x1 % y1) :: st)) : Go Q Z B k n h pc Ls (.int y1 :: .int x1 :: st) := fun x T P => by
  subst hp; obtain ⟨_, _, _, X, _⟩ := id P; exact lift (fun t q => iremM X P.ex rfl (P.d hd) rfl hy q) (r x T P)
theorem Go.goto (pc' : Nat) {o : Int} (hd : decode B.by pc = .ok (.goto o, 3)) (h0 : 0 ≤ (pc : Int) + o) (hp : ((pc : Int) + o).toNat = pc') (r : Go Q Z B k n h pc' Ls st) : Go Q Z B k n h pc Ls st := fun x T P =>
  lift (fun t q => XS.goto P.here P.ex rfl (pc0 := pc) rfl (P.d hd) h0 hp q) (r x T P)
theorem Go.icmp_lt (pT pF : Nat) {x1 y1 : Int32} {o : Int} (hd : decode B.by pc = .ok (.if_icmp .lt o, 3)) (h0 : 0 ≤ (pc : Int) + o) (hT : ((pc : Int) + o).toNat = pT) (hF : pc + 3 = pF) (rT : x1 < y1 → Go Q Z B k n h pT Ls st) (rF : ¬ x1 < y1 → Go Q Z B k n h pF Ls st) : Go Q Z B k n h pc Ls (.int y1 :: .int x1 :: st) := fun x T P => by
  subst hF
  by_cases c : x1 < y1
  · exact lift (fun t q => XS.icmpYes P.here P.ex rfl (pc0 := pc) rfl (P.d hd) rfl (tlt c).1 h0 hT q) (rT c x T P)
  · exact lift (fun t q => XS.icmpNo P.here P.ex rfl (P.d hd) rfl (flt c).1 q) (rF c x T P)
theorem Go.if_lt (pT pF : Nat) {x1 : Int32} {o : Int} (hd : decode B.by pc = .ok (.ifCond .lt o, 3)) (h0 : 0 ≤ (pc : Int) + o) (hT : ((pc : Int) + o).toNat = pT) (hF : pc + 3 = pF) (rT : x1 < 0 → Go Q Z B k n h pT Ls st) (rF : ¬ x1 < 0 → Go Q Z B k n h pF Ls st) : Go Q Z B k n h pc Ls (.int x1 :: st) := fun x T P => by
  subst hF
  by_cases c : x1 < 0
  · exact lift (fun t q => XS.ifYes P.here P.ex rfl (pc0 := pc) rfl (P.d hd) rfl ((if0 _ _).trans (tlt c).1) h0 hT q) (rT c x T P)
  · exact lift (fun t q => XS.ifNo P.here P.ex rfl (P.d hd) rfl ((if0 _ _).trans (flt c).1) q) (rF c x T P)
theorem Go.icmp_ge (pT pF : Nat) {x1 y1 : Int32} {o : Int} (hd : decode B.by pc = .ok (.if_icmp .ge o, 3)) (h0 : 0 ≤ (pc : Int) + o) (hT : ((pc : Int) + o).toNat = pT) (hF : pc + 3 = pF) (rT : ¬ x1 < y1 → Go Q Z B k n h pT Ls st) (rF : x1 < y1 → Go Q Z B k n h pF Ls st) : Go Q Z B k n h pc Ls (.int y1 :: .int x1 :: st) := fun x T P => by
  subst hF
  by_cases c : ¬ x1 < y1
  · exact lift (fun t q => XS.icmpYes P.here P.ex rfl (pc0 := pc) rfl (P.d hd) rfl (flt c).2.1 h0 hT q) (rT c x T P)
  · replace c := Decidable.not_not.mp c
    exact lift (fun t q => XS.icmpNo P.here P.ex rfl (P.d hd) rfl (tlt c).2.1 q) (rF c x T P)
theorem Go.if_ge (pT pF : Nat) {x1 : Int32} {o : Int} (hd : decode B.by pc = .ok (.ifCond .ge o, 3)) (h0 : 0 ≤ (pc : Int) + o) (hT : ((pc : Int) + o).toNat = pT) (hF : pc + 3 = pF) (rT : ¬ x1 < 0 → Go Q Z B k n h pT Ls st) (rF : x1 < 0 → Go Q Z B k n h pF Ls st) : Go Q Z B k n h pc Ls (.int x1 :: st) := fun x T P => by
  subst hF
  by_cases c : ¬ x1 < 0
  · exact lift (fun t q => XS.ifYes P.here P.ex rfl (pc0 := pc) rfl (P.d hd) rfl ((if0 _ _).trans (flt c).2.1) h0 hT q) (rT c x T P)
  · replace c := Decidable.not_not.mp c
    exact lift (fun t q => XS.ifNo P.here P.ex rfl (P.d hd) rfl ((if0 _ _).trans (tlt c).2.1) q) (rF c x T P)
theorem Go.icmp_gt (pT pF : Nat) {x1 y1 : Int32} {o : Int} (hd : decode B.by pc = .ok (.if_icmp .gt o, 3)) (h0 : 0 ≤ (pc : Int) + o) (hT : ((pc : Int) + o).toNat = pT) (hF : pc + 3 = pF) (rT : y1 < x1 → Go Q Z B k n h pT Ls st) (rF : ¬ y1 < x1 → Go Q Z B k n h pF Ls st) : Go Q Z B k n h pc Ls (.int y1 :: .int x1 :: st) := fun x T P => by
  subst hF
  by_cases c : y1 < x1
  · exact lift (fun t q => XS.icmpYes P.here P.ex rfl (pc0 := pc) rfl (P.d hd) rfl (tlt c).2.2.1 h0 hT q) (rT c x T P)
  · exact lift (fun t q => XS.icmpNo P.here P.ex rfl (P.d hd) rfl (flt c).2.2.1 q) (rF c x T P)
theorem Go.if_gt (pT pF : Nat) {x1 : Int32} {o : Int} (hd : decode B.by pc = .ok (.ifCond .gt o, 3)) (h0 : 0 ≤ (pc : Int) + o) (hT : ((pc : Int) + o).toNat = pT) (hF : pc + 3 = pF) (rT : 0 < x1 → Go Q Z B k n h pT Ls st) (rF : ¬ 0 < x1 → Go Q Z B k n h pF Ls st) : Go Q Z B k n h pc Ls (.int x1 :: st) := fun x T P => by
  subst hF
  by_cases c : 0 < x1
  · exact lift (fun t q => XS.ifYes P.here P.ex rfl (pc0 := pc) rfl (P.d hd) rfl ((if0 _ _).trans (tlt c).2.2.1) h0 hT q) (rT c x T P)
  · exact lift (fun t q => XS.ifNo P.here P.ex rfl (P.d hd) rfl ((if0 _ _).trans (flt c).2.2.1) q) (rF c x T P)
theorem Go.icmp_le (pT pF : Nat) {x1 y1 : Int32} {o : Int} (hd : decode B.by pc = .ok (.if_icmp .le o, 3)) (h0 : 0 ≤ (pc : Int) + o) (hT : ((pc : Int) + o).toNat = pT) (hF : pc + 3 = pF) (rT : ¬ y1 < x1 → Go Q Z B k n h pT Ls st) (rF : y1 < x1 → Go Q Z B k n h pF Ls st) : Go Q Z B k n h pc Ls (.int y1 :: .int x1 :: st) := fun x T P => by
  subst hF
  by_cases c : ¬ y1 < x1
  · exact lift (fun t q => XS.icmpYes P.here P.ex rfl (pc0 := pc) rfl (P.d hd) rfl (flt c).2.2.2 h0 hT q) (rT c x T P)
  · replace c := Decidable.not_not.mp c
    exact lift (fun t q => XS.icmpNo P.here P.ex rfl (P.d hd) rfl (tlt c).2.2.2 q) (rF c x T P)
theorem Go.if_le (pT pF : Nat) {x1 : Int32} {o : Int} (hd : decode B.by pc = .ok (.ifCond .le o, 3)) (h0 : 0 ≤ (pc : Int) + o) (hT : ((pc : Int) + o).toNat = pT) (hF : pc + 3 = pF) (rT : ¬ 0 < x1 → Go Q Z B k n h pT Ls st) (rF : 0 < x1 → Go Q Z B k n h pF Ls st) : Go Q Z B k n h pc Ls (.int x1 :: st) := fun x T P => by
  subst hF
  by_cases c : ¬ 0 < x1
  · exact lift (fun t q => XS.ifYes P.here P.ex rfl (pc0 := pc) rfl (P.d hd) rfl ((if0 _ _).trans (flt c).2.2.2) h0 hT q) (rT c x T P)
  · replace c := Decidable.not_not.mp c
    exact lift (fun t q => XS.ifNo P.here P.ex rfl (P.d hd) rfl ((if0 _ _).trans (tlt c).2.2.2) q) (rF c x T P)
theorem Go.icmp_eq (pT pF : Nat) {x1 y1 : Int32} {o : Int} (hd : decode B.by pc = .ok (.if_icmp .eq o, 3)) (h0 : 0 ≤ (pc : Int) + o) (hT : ((pc : Int) + o).toNat = pT) (hF : pc + 3 = pF) (rT : x1 = y1 → Go Q Z B k n h pT Ls st) (rF : ¬ x1 = y1 → Go Q Z B k n h pF Ls st) : Go Q Z B k n h pc Ls (.int y1 :: .int x1 :: st) := fun x T P => by
  subst hF
  by_cases c : x1 = y1
  · exact lift (fun t q => XS.icmpYes P.here P.ex rfl (pc0 := pc) rfl (P.d hd) rfl (teq c).1 h0 hT q) (rT c x T P)
  · exact lift (fun t q => XS.icmpNo P.here P.ex rfl (P.d hd) rfl (feq c).1 q) (rF c x T P)
theorem Go.if_eq (pT pF : Nat) {x1 : Int32} {o : Int} (hd : decode B.by pc = .ok (.ifCond .eq o, 3)) (h0 : 0 ≤ (pc : Int) + o) (hT : ((pc : Int) + o).toNat = pT) (hF : pc + 3 = pF) (rT : x1 = 0 → Go Q Z B k n h pT Ls st) (rF : ¬ x1 = 0 → Go Q Z B k n h pF Ls st) : Go Q Z B k n h pc Ls (.int x1 :: st) := fun x T P => by
  subst hF
  by_cases c : x1 = 0
  · exact lift (fun t q => XS.ifYes P.here P.ex rfl (pc0 := pc) rfl (P.d hd) rfl ((if0 _ _).trans (teq c).1) h0 hT q) (rT c x T P)
  · exact lift (fun t q => XS.ifNo P.here P.ex rfl (P.d hd) rfl ((if0 _ _).trans (feq c).1) q) (rF c x T P)
theorem Go.icmp_ne (pT pF : Nat) {x1 y1 : Int32} {o : Int} (hd : decode B.by pc = .ok (.if_icmp .ne o, 3)) (h0 : 0 ≤ (pc : Int) + o) (hT : ((pc : Int) + o).toNat = pT) (hF : pc + 3 = pF) (rT : ¬ x1 = y1 → Go Q Z B k n h pT Ls st) (rF : x1 = y1 → Go Q Z B k n h pF Ls st) : Go Q Z B k n h pc Ls (.int y1 :: .int x1 :: st) := fun x T P => by
  subst hF
  by_cases c : ¬ x1 = y1
  · exact lift (fun t q => XS.icmpYes P.here P.ex rfl (pc0 := pc) rfl (P.d hd) rfl (feq c).2 h0 hT q) (rT c x T P)
  · replace c := Decidable.not_not.mp c
    exact lift (fun t q => XS.icmpNo P.here P.ex rfl (P.d hd) rfl (teq c).2 q) (rF c x T P)
theorem Go.if_ne (pT pF : Nat) {x1 : Int32} {o : Int} (hd : decode B.by pc = .ok (.ifCond .ne o, 3)) (h0 : 0 ≤ (pc : Int) + o) (hT : ((pc : Int) + o).toNat = pT) (hF : pc + 3 = pF) (rT : ¬ x1 = 0 → Go Q Z B k n h pT Ls st) (rF : x1 = 0 → Go Q Z B k n h pF Ls st) : Go Q Z B k n h pc Ls (.int x1 :: st) := fun x T P => by
  subst hF
  by_cases c : ¬ x1 = 0
  · exact lift (fun t q => XS.ifYes P.here P.ex rfl (pc0 := pc) rfl (P.d hd) rfl ((if0 _ _).trans (feq c).2) h0 hT q) (rT c x T P)
  · replace c := Decidable.not_not.mp c
    exact lift (fun t q => XS.ifNo P.here P.ex rfl (P.d hd) rfl ((if0 _ _).trans (teq c).2) q) (rF c x T P)
theorem Go.ifnull_r (pF : Nat) {o : Int} {b : Addr} (hd : decode B.by pc = .ok (.ifnull o, 3)) (hF : pc + 3 = pF) (r : Go Q Z B k n h pF Ls st) : Go Q Z B k n h pc Ls (.ref b :: st) := fun x T P => by
  subst hF; exact lift (fun t q => XS.ifnullNo P.here P.ex rfl (P.d hd) rfl q) (r x T P)
theorem Go.ifnull_n (pT : Nat) {o : Int} (hd : decode B.by pc = .ok (.ifnull o, 3)) (h0 : 0 ≤ (pc : Int) + o) (hT : ((pc : Int) + o).toNat = pT) (r : Go Q Z B k n h pT Ls st) : Go Q Z B k n h pc Ls (.null :: st) := fun x T P =>
  lift (fun t q => XS.ifnullYes P.here P.ex rfl (pc0 := pc) rfl (P.d hd) rfl h0 hT q) (r x T P)
theorem Go.ifnonnull_r (pT : Nat) {o : Int} {b : Addr} (hd : decode B.by pc = .ok (.ifnonnull o, 3)) (h0 : 0 ≤ (pc : Int) + o) (hT : ((pc : Int) + o).toNat = pT) (r : Go Q Z B k n h pT Ls st) : Go Q Z B k n h pc Ls (.ref b :: st) := fun x T P =>
  lift (fun t q => XT.ifnonnullYes P.here P.ex rfl (pc0 := pc) rfl (P.d hd) rfl h0 hT q) (r x T P)
theorem Go.ifnonnull_n (pF : Nat) {o : Int} (hd : decode B.by pc = .ok (.ifnonnull o, 3)) (hF : pc + 3 = pF) (r : Go Q Z B k n h pF Ls st) : Go Q Z B k n h pc Ls (.null :: st) := fun x T P => by
  subst hF; exact lift (fun t q => XT.ifnonnullNo P.here P.ex rfl (P.d hd) rfl q) (r x T P)
theorem Go.acmp_eq (pT pF : Nat) {v w : Value} {o : Int} (hd : decode B.by pc = .ok (.if_acmp .eq o, 3)) (h0 : 0 ≤ (pc : Int) + o) (hT : ((pc : Int) + o).toNat = pT) (hF : pc + 3 = pF) (hv : v.isRef = true) (hw : w.isRef = true) (rT : v = w → Go Q Z B k n h pT Ls st) (rF : ¬ v = w → Go Q Z B k n h pF Ls st) : Go Q Z B k n h pc Ls (w :: v :: st) := fun x T P => by
  subst hF
  by_cases c : v = w
  · exact lift (fun t q => XT.acmpYes P.here P.ex rfl (pc0 := pc) rfl (P.d hd) rfl hv hw (XT.aa_eq_t c) h0 hT q) (rT c x T P)
  · exact lift (fun t q => XT.acmpNo P.here P.ex rfl (P.d hd) rfl hv hw (XT.aa_eq_f c) q) (rF c x T P)
theorem Go.acmp_ne (pT pF : Nat) {v w : Value} {o : Int} (hd : decode B.by pc = .ok (.if_acmp .ne o, 3)) (h0 : 0 ≤ (pc : Int) + o) (hT : ((pc : Int) + o).toNat = pT) (hF : pc + 3 = pF) (hv : v.isRef = true) (hw : w.isRef = true) (rT : ¬ v = w → Go Q Z B k n h pT Ls st) (rF : v = w → Go Q Z B k n h pF Ls st) : Go Q Z B k n h pc Ls (w :: v :: st) := fun x T P => by
  subst hF
  by_cases c : ¬ v = w
  · exact lift (fun t q => XT.acmpYes P.here P.ex rfl (pc0 := pc) rfl (P.d hd) rfl hv hw (XT.aa_ne_t c) h0 hT q) (rT c x T P)
  · replace c := Decidable.not_not.mp c
    exact lift (fun t q => XT.acmpNo P.here P.ex rfl (P.d hd) rfl hv hw (XT.aa_ne_f c) q) (rF c x T P)
theorem En.zz (E : En Z x B) : Z.Warmed39 x.s.vm := E.2.2.2.2.2.2.1
theorem En.own (E : En Z x B) : x.s.vm.findClass B.y.cls = some x.m.cls := E.2.2.2.1
theorem En.ml (E : En Z x B) : x.c.maxLocals = B.ml := E.2.2.1
theorem En.rt (E : En Z x B) : x.meth.sig.returnType = B.rt := E.2.2.2.2.2.1
theorem En.nl (E : En Z x B) : x.meth.locks = false := E.2.2.2.2.2.2.2.1
/-! ## constants of the pool -/
theorem Go.ldcI (pc' : Nat) (hp : pc + 2 = pc') {ix : Nat} {v : Int32} (i : Nat) (hd : decode B.by pc = .ok (.ldc ix, 2)) (w : B.tb[i]? = some (.constant B.y.cls ix v)) (r : Go Q Z B k n h pc' Ls (.int v :: st)) : Go Q Z B k n h pc Ls st := fun x T P => by
  subst hp
  obtain ⟨a0, hw⟩ := P.wd.w
  obtain ⟨E, _, _, X, _⟩ := id P
  exact lift (fun t q => X.ldcI P.ex E.own (mv E.zz (hw w)) rfl (P.d hd) q) (r x T P)
theorem Go.ldcWI (pc' : Nat) (hp : pc + 3 = pc') {ix : Nat} {v : Int32} (i : Nat) (hd : decode B.by pc = .ok (.ldc_w ix, 3)) (w : B.tb[i]? = some (.constant B.y.cls ix v)) (r : Go Q Z B k n h pc' Ls (.int v :: st)) : Go Q Z B k n h pc Ls st := fun x T P => by
  subst hp
  obtain ⟨a0, hw⟩ := P.wd.w
  obtain ⟨E, _, _, X, _⟩ := id P
  exact lift (fun t q => X.ldcWI P.ex E.own (mv E.zz (hw w)) rfl (P.d hd) q) (r x T P)
theorem Go.ldc2J (pc' : Nat) (hp : pc + 3 = pc') {ix : Nat} {v : Int64} (i : Nat) (hd : decode B.by pc = .ok (.ldc2_w ix, 3)) (w : B.tb[i]? = some (.constantLong B.y.cls ix v)) (r : Go Q Z B k n h pc' Ls (.long v :: st)) : Go Q Z B k n h pc Ls st := fun x T P => by
  subst hp
  obtain ⟨a0, hw⟩ := P.wd.w
  obtain ⟨E, _, _, X, _⟩ := id P
  exact lift (fun t q => X.ldc2J P.ex E.own (mv E.zz (hw w)) rfl (P.d hd) q) (r x T P)
theorem Go.ldc2D (pc' : Nat) (hp : pc + 3 = pc') {ix : Nat} {v : UInt64} (i : Nat) (hd : decode B.by pc = .ok (.ldc2_w ix, 3)) (w : B.tb[i]? = some (.constantDouble B.y.cls ix v)) (r : Go Q Z B k n h pc' Ls (.double v :: st)) : Go Q Z B k n h pc Ls st := fun x T P => by
  subst hp
  obtain ⟨a0, hw⟩ := P.wd.w
  obtain ⟨E, _, _, X, _⟩ := id P
  exact lift (fun t q => X.ldc2DoubleC P.ex E.own (mv E.zz (hw w)) (g := mkF x.m pc Ls st) rfl (P.d hd) t q) (r x T P)
/-! ## objects -/
theorem ltN {a : Addr} {m : Nat} (q : @LT.lt Nat instLTNat a m) : @LT.lt Nat instLTNat a m := q
theorem keep_ext (E : Ext h h') : Keep h h' [] := (Keep.refl h []).ext E
theorem keep_wr {a : Addr} {sl : Nat} {v : Value} (W : Wr h h' a sl v) : Keep h h' [a] := Keep.of_wr W
theorem ext_keep {H : Heap} {ws : List Addr} (E : Ext H h) (K : Keep h h' ws) (q : ∀ y ∈ ws, H.size ≤ y) : Ext H h' :=
  ⟨Nat.le_trans E.1 K.1, fun y c r => K.2.1 y c (E.2 y c r) fun z => absurd (Array.getElem?_eq_some_iff.mp r).1 (Nat.not_lt.mpr (q y z))⟩
theorem ge1 {H : Nat} {a : Addr} (q : H ≤ a) : ∀ y ∈ [a], H ≤ y := allS q all0
theorem fr_snoc {K : Nat} {locs : List Loc} {a : Addr} {sl : Nat} (N : Fr K locs) (q : K ≤ a) : Fr K (locs ++ [⟨a, sl⟩]) := N.app fun y hy => by cases List.mem_singleton.mp hy; exact q
theorem Go.newO (pc' : Nat) (hp : pc + 3 = pc') {C : String} {ix sz : Nat} (i1 i2 i3 : Nat) (hd : decode B.by pc = .ok (.new ix, 3)) (w1 : B.tb[i1]? = some (.classLink B.y.cls ix C)) (w2 : B.tb[i2]? = some (.instantiable C sz)) (w3 : B.tb[i3]? = some (.initialized C)) (hc : k + 1 ≤ B.R.cells) (hl : n + sz ≤ B.R.slots)
    (r : ∀ (h' : Heap) (a : Addr), @Eq Nat a h.size → Z.heap.size ≤ a → Keep h h' [] → Exa Z h' a C → (∀ (i : Nat) {O nm d : String} {ty : FieldType}, B.tb[i]? = some (.lays C O nm d) ∨ B.tb[i]? = some (.laysFinal C O nm d) → parseFieldDescriptor d = some ty → Fld Z h' a O nm d (defaultValue ty)) → Go Q Z B (k + 1) (n + sz) h' pc' Ls (.ref a :: st)) : Go Q Z B k n h pc Ls st := fun x T P => by
  subst hp
  obtain ⟨a0, hw⟩ := P.wd.w
  obtain ⟨E, O', locs, X, e, N⟩ := id P
  obtain ⟨T', h', X', e', Ex, A, D, -, s'⟩ := RoadKit.newO X P.ex E.zz E.own (hw w1) (hw w2) (hw w3) e (g := mkF x.m pc Ls st) rfl (P.d hd) hc hl
  exact lift s' (r h' h.size rfl P.le (keep_ext Ex) A (fun i {O nm d ty} q ht => D (q.imp (fun z => hw z) (fun z => hw z)) ht) x T' ⟨E, ⟨Nat.le_trans O'.1 Ex.1, fun y c q => Ex.2 y c (O'.2 y c q)⟩, locs, X', e', N⟩)
theorem Go.getF (pc' : Nat) (hp : pc + 3 = pc') {O nm d : String} {ix : Nat} {a : Addr} {v : Value} (i : Nat) (hd : decode B.by pc = .ok (.getfield ix, 3)) (w : B.tb[i]? = some (.fieldLink B.y.cls ix O nm d)) (F : Fld Z h a O nm d v) (r : Go Q Z B k n h pc' Ls (v :: st)) : Go Q Z B k n h pc Ls (.ref a :: st) := fun x T P => by
  subst hp
  obtain ⟨a0, hw⟩ := P.wd.w
  obtain ⟨E, O', locs, X, e, N⟩ := id P
  obtain ⟨T', X', e', s'⟩ := RoadKit.getF X P.ex E.zz E.own (host := "") (Or.inl (hw w)) Via.refl e F (g := mkF x.m pc Ls (.ref a :: st)) rfl rfl (P.d hd)
  exact lift s' (r x T' ⟨E, O', locs, X', e', N⟩)
theorem Go.getFN (pc' : Nat) (hp : pc + 3 = pc') {O nm d host : String} {ix : Nat} {a : Addr} {v : Value} (i : Nat) (hd : decode B.by pc = .ok (.getfield ix, 3)) (w : B.tb[i]? = some (.fieldLinkNest B.y.cls ix O nm d host)) (F : Fld Z h a O nm d v) (r : Go Q Z B k n h pc' Ls (v :: st)) : Go Q Z B k n h pc Ls (.ref a :: st) := fun x T P => by
  subst hp
  obtain ⟨a0, hw⟩ := P.wd.w
  obtain ⟨E, O', locs, X, e, N⟩ := id P
  obtain ⟨T', X', e', s'⟩ := RoadKit.getF X P.ex E.zz E.own (host := host) (Or.inr (hw w)) Via.refl e F (g := mkF x.m pc Ls (.ref a :: st)) rfl rfl (P.d hd)
  exact lift s' (r x T' ⟨E, O', locs, X', e', N⟩)
theorem Go.getFV (pc' : Nat) (hp : pc + 3 = pc') {R0 O nm d : String} {ix : Nat} {a : Addr} {v : Value} (i j : Nat) (hd : decode B.by pc = .ok (.getfield ix, 3)) (w : B.tb[i]? = some (.fieldLink B.y.cls ix R0 nm d)) (w2 : B.tb[j]? = some (.sameField R0 O nm d)) (F : Fld Z h a O nm d v) (r : Go Q Z B k n h pc' Ls (v :: st)) : Go Q Z B k n h pc Ls (.ref a :: st) := fun x T P => by
  subst hp
  obtain ⟨a0, hw⟩ := P.wd.w
  obtain ⟨E, O', locs, X, e, N⟩ := id P
  obtain ⟨T', X', e', s'⟩ := RoadKit.getF X P.ex E.zz E.own (host := "") (Or.inl (hw w)) (Via.of (hw w2)) e F (g := mkF x.m pc Ls (.ref a :: st)) rfl rfl (P.d hd)
  exact lift s' (r x T' ⟨E, O', locs, X', e', N⟩)
theorem Go.putF (pc' : Nat) (hp : pc + 3 = pc') {C O nm d : String} {ix sz : Nat} {ty : FieldType} {a : Addr} {v v' old : Value} (i1 i2 i3 : Nat) (hd : decode B.by pc = .ok (.putfield ix, 3)) (w1 : B.tb[i1]? = some (.fieldLink B.y.cls ix O nm d)) (F : Fld Z h a O nm d old) (Ea : Exa Z h a C)
    (L : B.tb[i2]? = some (.lays C O nm d) ∨ (B.tb[i2]? = some (.laysFinal C O nm d) ∧ B.y.cls = O ∧ B.y.name = "<init>")) (w3 : B.tb[i3]? = some (.instantiable C sz)) (hty : parseFieldDescriptor d = some ty) (hn : narrow ty v = v') (hf : fits ty v' = true) (ge : Z.heap.size ≤ a)
    (r : ∀ h' : Heap, Keep h h' [a] → Wr h h' a (RoadKit.slotOf Z O nm d) v' → Fld Z h' a O nm d v' → Go Q Z B k n h' pc' Ls st) : Go Q Z B k n h pc Ls (v :: .ref a :: st) := fun x T P => by
  subst hp
  obtain ⟨a0, hw⟩ := P.wd.w
  obtain ⟨E, O', locs, X, e, N⟩ := id P
  obtain ⟨T', h', X', e', W, s'⟩ := putFN X P.ex E.zz E.own (hw w1) Via.refl e F Ea (L.imp (fun z => hw z) (fun z => ⟨hw z.1, z.2.1, E.2.2.2.2.1.trans z.2.2⟩)) (hw w3) hty hn hf (g := mkF x.m pc Ls (v :: .ref a :: st)) rfl rfl (P.d hd)
  exact lift s' (r h' (keep_wr W) W (F.same W) x T' ⟨E, ext_keep O' (keep_wr W) (ge1 ge), _, X', e', fr_snoc N ge⟩)
theorem Go.putFV (pc' : Nat) (hp : pc + 3 = pc') {R0 C O nm d : String} {ix sz : Nat} {ty : FieldType} {a : Addr} {v v' old : Value} (i1 i2 i3 i4 : Nat) (hd : decode B.by pc = .ok (.putfield ix, 3)) (w1 : B.tb[i1]? = some (.fieldLink B.y.cls ix R0 nm d)) (w4 : B.tb[i4]? = some (.sameField R0 O nm d)) (F : Fld Z h a O nm d old) (Ea : Exa Z h a C)
    (L : B.tb[i2]? = some (.lays C O nm d) ∨ (B.tb[i2]? = some (.laysFinal C O nm d) ∧ B.y.cls = O ∧ B.y.name = "<init>")) (w3 : B.tb[i3]? = some (.instantiable C sz)) (hty : parseFieldDescriptor d = some ty) (hn : narrow ty v = v') (hf : fits ty v' = true) (ge : Z.heap.size ≤ a)
    (r : ∀ h' : Heap, Keep h h' [a] → Wr h h' a (RoadKit.slotOf Z O nm d) v' → Fld Z h' a O nm d v' → Go Q Z B k n h' pc' Ls st) : Go Q Z B k n h pc Ls (v :: .ref a :: st) := fun x T P => by
  subst hp
  obtain ⟨a0, hw⟩ := P.wd.w
  obtain ⟨E, O', locs, X, e, N⟩ := id P
  obtain ⟨T', h', X', e', W, s'⟩ := putFN X P.ex E.zz E.own (hw w1) (Via.of (hw w4)) e F Ea (L.imp (fun z => hw z) (fun z => ⟨hw z.1, z.2.1, E.2.2.2.2.1.trans z.2.2⟩)) (hw w3) hty hn hf (g := mkF x.m pc Ls (v :: .ref a :: st)) rfl rfl (P.d hd)
  exact lift s' (r h' (keep_wr W) W (F.same W) x T' ⟨E, ext_keep O' (keep_wr W) (ge1 ge), _, X', e', fr_snoc N ge⟩)
/-- another field of the object that was written -/
theorem Fld.oth {C O nm d O2 nm2 d2 : String} {tb : List Cond} {a b : Addr} {v w : Value} {t t' : FieldType} (hw : Wd Z tb) (F : Fld Z h b O nm d w) (W : Wr h h' a (RoadKit.slotOf Z O2 nm2 d2) v) (i j : Nat) (L1 : tb[i]? = some (.lays C O nm d) ∨ tb[i]? = some (.laysFinal C O nm d)) (L2 : tb[j]? = some (.lays C O2 nm2 d2) ∨ tb[j]? = some (.laysFinal C O2 nm2 d2))
    (hn : nm ≠ nm2) (ht : parseFieldDescriptor d = some t) (ht' : parseFieldDescriptor d2 = some t') : Fld Z h' b O nm d w := by
  obtain ⟨a0, hw⟩ := hw.w
  exact F.other W (Or.inr (RoadKit.slot_ne (a0 := a0) (L1.imp (fun z => hw z) (fun z => hw z)) (L2.imp (fun z => hw z) (fun z => hw z)) hn ht ht'))
theorem Go.getS (pc' : Nat) (hp : pc + 3 = pc') {O nm d : String} {ix : Nat} {v : Value} (i : Nat) (hd : decode B.by pc = .ok (.getstatic ix, 3)) (w : B.tb[i]? = some (.fieldLink B.y.cls ix O nm d)) (F : Sta Z Z.heap O nm d v) (r : Go Q Z B k n h pc' Ls (v :: st)) : Go Q Z B k n h pc Ls st := fun x T P => by
  subst hp
  obtain ⟨a0, hw⟩ := P.wd.w
  obtain ⟨E, O', locs, X, e, N⟩ := id P
  obtain ⟨T', X', e', s'⟩ := RoadKit.getS X P.ex E.zz (host := "") E.own (hw w) Via.refl e (F.ext O') (g := mkF x.m pc Ls st) rfl (P.d hd)
  exact lift s' (r x T' ⟨E, O', locs, X', e', N⟩)
theorem Go.getSN (pc' : Nat) (hp : pc + 3 = pc') {O nm d host : String} {ix : Nat} {v : Value} (i : Nat) (hd : decode B.by pc = .ok (.getstatic ix, 3)) (w : B.tb[i]? = some (.fieldLinkNest B.y.cls ix O nm d host)) (F : Sta Z Z.heap O nm d v) (r : Go Q Z B k n h pc' Ls (v :: st)) : Go Q Z B k n h pc Ls st := fun x T P => by
  subst hp
  obtain ⟨a0, hw⟩ := P.wd.w
  obtain ⟨E, O', locs, X, e, N⟩ := id P
  obtain ⟨T', X', e', s'⟩ := getS2 X P.ex E.zz (host := host) E.own (Or.inr (hw w)) Via.refl e (F.ext O') (g := mkF x.m pc Ls st) rfl (P.d hd)
  exact lift s' (r x T' ⟨E, O', locs, X', e', N⟩)
theorem Go.castY (pc' : Nat) (hp : pc + 3 = pc') {K : String} {ix : Nat} {a : Addr} (i : Nat) (hd : decode B.by pc = .ok (.checkcast ix, 3)) (w : B.tb[i]? = some (.classLink B.y.cls ix K)) (F : Ins Z h a K true) (r : Go Q Z B k n h pc' Ls (.ref a :: st)) : Go Q Z B k n h pc Ls (.ref a :: st) := fun x T P => by
  subst hp
  obtain ⟨a0, hw⟩ := P.wd.w
  obtain ⟨E, O', locs, X, e, N⟩ := id P
  obtain ⟨T', X', e', s'⟩ := RoadKit.castY X P.ex E.zz E.own (hw w) e F (g := mkF x.m pc Ls (.ref a :: st)) rfl rfl (P.d hd)
  exact lift s' (r x T' ⟨E, O', locs, X', e', N⟩)
theorem Go.instY (pc' : Nat) (hp : pc + 3 = pc') {K : String} {ix : Nat} {a : Addr} (i : Nat) (hd : decode B.by pc = .ok (.instanceof ix, 3)) (w : B.tb[i]? = some (.classLink B.y.cls ix K)) (F : Ins Z h a K true) (r : Go Q Z B k n h pc' Ls (.int 1 :: st)) : Go Q Z B k n h pc Ls (.ref a :: st) := fun x T P => by
  subst hp
  obtain ⟨a0, hw⟩ := P.wd.w
  obtain ⟨E, O', locs, X, e, N⟩ := id P
  obtain ⟨T', X', e', s'⟩ := RoadKit.instY X P.ex E.zz E.own (hw w) e F (g := mkF x.m pc Ls (.ref a :: st)) rfl rfl (P.d hd)
  exact lift s' (r x T' ⟨E, O', locs, X', e', N⟩)
theorem Go.instNo (pc' : Nat) (hp : pc + 3 = pc') {C K : String} {ix : Nat} {a : Addr} (i : Nat) (hd : decode B.by pc = .ok (.instanceof ix, 3)) (w : B.tb[i]? = some (.classLink B.y.cls ix K)) (Ea : Exa Z h a C) (F : ∃ c t, Z.vm.findClass C = some c ∧ Z.vm.findClass K = some t ∧ Z.vm.assignable c t = false) (r : Go Q Z B k n h pc' Ls (.int 0 :: st)) : Go Q Z B k n h pc Ls (.ref a :: st) := fun x T P => by
  subst hp
  obtain ⟨a0, hw⟩ := P.wd.w
  obtain ⟨E, O', locs, X, e, N⟩ := id P
  obtain ⟨T', X', e', s'⟩ := RoadKit.instNo X P.ex E.zz E.own (hw w) e Ea F (g := mkF x.m pc Ls (.ref a :: st)) rfl rfl (P.d hd)
  exact lift s' (r x T' ⟨E, O', locs, X', e', N⟩)
theorem Go.initO (pc' : Nat) (hp : pc + 3 = pc') {ix : Nat} {a : Addr} (i1 i2 i3 : Nat) (hd : decode B.by pc = .ok (.invokespecial ix, 3)) (w1 : B.tb[i1]? = some (.methodLink B.y.cls ix Lib.objectInit)) (w2 : B.tb[i2]? = some (.instanceMethod Lib.objectInit)) (w3 : B.tb[i3]? = some (.code Lib.objectInit ⟨#[0xb1]⟩ 1 none)) (hs : Ls.size = B.ml) (hf : 1 ≤ B.R.frames) {W : Nat} (hW : (st.map fun v => v.category).sum ≤ W) (hl : W + 12 ≤ B.R.locals)
    (r : Go Q Z B k n h pc' Ls st) : Go Q Z B k n h pc Ls (.ref a :: st) := fun x T P => by
  subst hp
  obtain ⟨a0, hw⟩ := P.wd.w
  obtain ⟨E, O', locs, X, e, N⟩ := id P
  obtain ⟨T', X', e', s'⟩ := RoadKit.initO X P.ex E.zz E.own (hw w1) (hw w2) (hw w3) e (g := mkF x.m pc Ls (.ref a :: st)) rfl (by rw [E.ml]; exact hs) rfl (P.d hd) hf (W := W) (by show 2 * 0 + _ ≤ _; omega) hl
  exact lift s' (r x T' ⟨E, O', locs, X', e', N⟩)
/-! ## arrays -/
theorem Ary.lt {a : Addr} {ty : FieldType} {vs : List Value} (A : Ary Z h a ty vs) : a < h.size := by obtain ⟨c, A, -⟩ := A; exact A.lt
theorem Ary.len {a : Addr} {ty : FieldType} {vs : List Value} (A : Ary Z h a ty vs) : vs.length < 2 ^ 31 := by obtain ⟨c, -, -, r, -⟩ := A; exact r
theorem len_ofNat {m : Nat} (hm : m < 2 ^ 31) : (Int32.ofNat m).toInt = m := Int32.toInt_ofNat_of_lt hm
theorem ofNat_zero {m : Nat} (hm : m < 2 ^ 31) : Int32.ofNat m = 0 ↔ m = 0 := by
  constructor
  · intro q; have := len_ofNat hm; rw [q] at this; have z : (0 : Int32).toInt = 0 := rfl; omega
  · intro q; subst q; rfl
theorem Ary.keep {a : Addr} {ty : FieldType} {vs : List Value} {ws : List Addr} (A : Ary Z h a ty vs) (K : Keep h h' ws) (q : a ∉ ws) : Ary Z h' a ty vs := by
  obtain ⟨c, A, r⟩ := A; exact ⟨c, ⟨K.2.1 a c A.1 q, A.2⟩, r⟩
theorem Ary.ext {a : Addr} {ty : FieldType} {vs : List Value} (E : Ext h h') (A : Ary Z h a ty vs) : Ary Z h' a ty vs := by
  obtain ⟨c, A, r⟩ := A; exact ⟨c, A.ext E, r⟩
theorem Aov.keep {a : Addr} {C : String} {ws : List Addr} (A : Aov Z h a C) (K : Keep h h' ws) : Aov Z h' a C := by
  obtain ⟨c, A, r⟩ := A; obtain ⟨c', q1, q2, -⟩ := K.2.2 a c A; exact ⟨c', q1, q2 ▸ r⟩
theorem Ins.keep {a : Addr} {C : String} {b : Bool} {ws : List Addr} (A : Ins Z h a C b) (K : Keep h h' ws) : Ins Z h' a C b := by
  obtain ⟨c, cT, A, r1, r2⟩ := A; obtain ⟨c', q1, q2, q3, -⟩ := K.2.2 a c A; exact ⟨c', cT, q1, r1, by rw [q2, q3]; exact r2⟩
theorem Sta.keepO {C nm d : String} {w : Value} (E : Ext Z.heap h) (F : Sta Z Z.heap C nm d w) : Sta Z h C nm d w := F.ext E
theorem ix_in {m : Nat} {j : Int32} (h0 : 0 ≤ j.toInt) (h1 : j.toInt < m) : ¬ (j < 0 ∨ m ≤ j.toNatClampNeg) := by
  intro q
  rcases q with q | q
  · rw [Int32.lt_iff_toInt_lt] at q; have : (0 : Int32).toInt = 0 := rfl; omega
  · have := nat_of (j := j) (by rw [Int32.lt_iff_toInt_lt]; have : (0 : Int32).toInt = 0 := rfl; omega); omega
theorem ix_nat {m : Nat} {j : Int32} (h0 : j.toInt = m) : j.toNatClampNeg = m := by
  have := nat_of (j := j) (by rw [Int32.lt_iff_toInt_lt]; have : (0 : Int32).toInt = 0 := rfl; omega); omega
theorem len_nat {m : Nat} (h : m < 2 ^ 31) : m.toInt32.toInt = m := len_toInt h
theorem slots_at {c : Cell} {vs : List Value} (e : c.slots.toList = vs) (j : Nat) : c.slots[j]? = vs[j]? := by rw [← e]; simp
theorem Go.newA (pc' : Nat) (hp : pc + 2 = pc') {aty : ArrayType} {m : Int32} (i cap N : Nat) (hd : decode B.by pc = .ok (.newarray aty, 2)) (w : B.tb[i]? = some (.arrayClass (newarray.typeOf aty))) (hN : m.toInt = N) (hcap : N ≤ cap) (hb : cap * 8 ≤ 536870912) (hc : k + 1 ≤ B.R.cells) (hl : n + cap ≤ B.R.slots)
    (r : ∀ (h' : Heap) (a : Addr), @Eq Nat a h.size → Z.heap.size ≤ a → Keep h h' [] → Ary Z h' a (newarray.typeOf aty) (List.replicate N (defaultValue (newarray.typeOf aty))) → Exa Z h' a ("[" ++ (newarray.typeOf aty).toString) → Go Q Z B (k + 1) (n + cap) h' pc' Ls (.ref a :: st)) : Go Q Z B k n h pc Ls (.int m :: st) := fun x T P => by
  subst hp
  obtain ⟨a0, hw⟩ := P.wd.w
  obtain ⟨E, O', locs, X, e, N'⟩ := id P
  have hm : ¬ m < 0 := by rw [Int32.lt_iff_toInt_lt]; have : (0 : Int32).toInt = 0 := rfl; omega
  obtain ⟨T', h', cA, X', e', Ex, A, A', s'⟩ := newPE X P.ex E.zz (hw w) e (g := mkF x.m pc Ls (.int m :: st)) rfl (P.d hd) rfl hm (cap := cap) (by rw [ix_nat hN]; exact hcap) hb hc hl rfl
  have hlen : N < 2 ^ 31 := by have := m.toInt_lt; omega
  refine lift s' (r h' h.size rfl P.le (keep_ext Ex) ⟨_, A, ?_, ?_, ?_⟩ A' x T' ⟨E, ⟨Nat.le_trans O'.1 Ex.1, fun y c q => Ex.2 y c (O'.2 y c q)⟩, locs, X', e', N'⟩)
  · show (Array.replicate _ _).toList = _
    rw [ix_nat hN, Array.toList_replicate]
  · rw [List.length_replicate]; exact hlen
  · intro v hv
    rw [List.eq_of_mem_replicate hv]
    cases aty <;> rfl
theorem Go.newR (pc' : Nat) (hp : pc + 3 = pc') {C : String} {ix : Nat} {m : Int32} (i1 i2 cap N : Nat) (hd : decode B.by pc = .ok (.anewarray ix, 3)) (w1 : B.tb[i1]? = some (.classLink B.y.cls ix C)) (w2 : B.tb[i2]? = some (.arrayOver (.object C))) (hN : m.toInt = N) (hcap : N ≤ cap) (hb : cap * 8 ≤ 536870912) (hc : k + 1 ≤ B.R.cells) (hl : n + cap ≤ B.R.slots)
    (r : ∀ (h' : Heap) (a : Addr), @Eq Nat a h.size → Z.heap.size ≤ a → Keep h h' [] → Ary Z h' a (.object C) (List.replicate N .null) → Exa Z h' a ("[" ++ (FieldType.object C).toString) → Aov Z h' a C → Go Q Z B (k + 1) (n + cap) h' pc' Ls (.ref a :: st)) : Go Q Z B k n h pc Ls (.int m :: st) := fun x T P => by
  subst hp
  obtain ⟨a0, hw⟩ := P.wd.w
  obtain ⟨E, O', locs, X, e, N'⟩ := id P
  have hm : ¬ m < 0 := by rw [Int32.lt_iff_toInt_lt]; have : (0 : Int32).toInt = 0 := rfl; omega
  obtain ⟨T', h', cA, X', e', Ex, A, A', O1, s'⟩ := newRE X P.ex E.zz E.own (hw w1) (hw w2) e (g := mkF x.m pc Ls (.int m :: st)) rfl (P.d hd) rfl hm (cap := cap) (by rw [ix_nat hN]; exact hcap) hb hc hl rfl
  have hlen : N < 2 ^ 31 := by have := m.toInt_lt; omega
  refine lift s' (r h' h.size rfl P.le (keep_ext Ex) ⟨_, A, ?_, ?_, ?_⟩ A' ⟨_, A.1, O1⟩ x T' ⟨E, ⟨Nat.le_trans O'.1 Ex.1, fun y c q => Ex.2 y c (O'.2 y c q)⟩, locs, X', e', N'⟩)
  · show (Array.replicate _ _).toList = _
    rw [ix_nat hN, Array.toList_replicate]; rfl
  · rw [List.length_replicate]; exact hlen
  · intro v hv
    rw [List.eq_of_mem_replicate hv]; rfl
theorem Go.alen (pc' : Nat) (hp : pc + 1 = pc') {ty : FieldType} {a : Addr} {vs : List Value} (v : Int32) (hd : decode B.by pc = .ok (.arraylength, 1)) (A : Ary Z h a ty vs) (hv : v.toInt = vs.length) (r : Go Q Z B k n h pc' Ls (.int v :: st)) : Go Q Z B k n h pc Ls (.ref a :: st) := fun x T P => by
  subst hp
  obtain ⟨E, O', locs, X, e, N'⟩ := id P
  obtain ⟨c, A, e1, e2, e3⟩ := A
  have : c.slots.size.toInt32 = v := by
    have q : c.slots.size = vs.length := by rw [← e1]; simp
    apply Int32.toInt_inj.mp
    rw [q, hv, len_toInt e2]
  exact lift (fun t q => X.arraylength P.ex (by rw [e]; exact A.1) (State.isArrayOf_alike E.zz.alike A.2.1) (g := mkF x.m pc Ls (.ref a :: st)) rfl rfl (P.d hd) t (by rw [this]; exact q)) (r x T P)
theorem Go.iaload (pc' : Nat) (hp : pc + 1 = pc') {a : Addr} {vs : List Value} {j : Int32} (v : Int32) (hd : decode B.by pc = .ok (.iaload, 1)) (A : Ary Z h a .int vs) (jn : Nat) (hj : j.toInt = jn) (hv : vs[jn]? = some (.int v)) (r : Go Q Z B k n h pc' Ls (.int v :: st)) : Go Q Z B k n h pc Ls (.int j :: .ref a :: st) := fun x T P => by
  subst hp
  obtain ⟨E, O', locs, X, e, N'⟩ := id P
  obtain ⟨c, A, e1, e2, e3⟩ := A
  have q : c.slots.size = vs.length := by rw [← e1]; simp
  have hlt := (List.getElem?_eq_some_iff.mp hv).1
  exact lift (fun t q' => X.iaload P.ex (j := j) (v := .int v) (by rw [e]; exact A.1) (State.isArrayOf_alike E.zz.alike A.2.1) A.2.2 (ix_in (by omega) (by omega)) (by rw [ix_nat hj, slots_at e1]; exact hv) (g := mkF x.m pc Ls (.int j :: .ref a :: st)) rfl rfl (P.d hd) t q') (r x T P)
theorem Go.laload (pc' : Nat) (hp : pc + 1 = pc') {a : Addr} {vs : List Value} {j : Int32} (v : Int64) (hd : decode B.by pc = .ok (.laload, 1)) (A : Ary Z h a .long vs) (jn : Nat) (hj : j.toInt = jn) (hv : vs[jn]? = some (.long v)) (r : Go Q Z B k n h pc' Ls (.long v :: st)) : Go Q Z B k n h pc Ls (.int j :: .ref a :: st) := fun x T P => by
  subst hp
  obtain ⟨E, O', locs, X, e, N'⟩ := id P
  obtain ⟨c, A, e1, e2, e3⟩ := A
  have q : c.slots.size = vs.length := by rw [← e1]; simp
  have hlt := (List.getElem?_eq_some_iff.mp hv).1
  exact lift (fun t q' => X.laload P.ex (j := j) (v := .long v) (by rw [e]; exact A.1) (State.isArrayOf_alike E.zz.alike A.2.1) A.2.2 (ix_in (by omega) (by omega)) (by rw [ix_nat hj, slots_at e1]; exact hv) (g := mkF x.m pc Ls (.int j :: .ref a :: st)) rfl rfl (P.d hd) t q') (r x T P)
theorem Go.caload (pc' : Nat) (hp : pc + 1 = pc') {a : Addr} {vs : List Value} {j : Int32} (v : Int32) (hd : decode B.by pc = .ok (.caload, 1)) (A : Ary Z h a .char vs) (jn : Nat) (hj : j.toInt = jn) (hv : vs[jn]? = some (.int v)) (r : Go Q Z B k n h pc' Ls (.int v :: st)) : Go Q Z B k n h pc Ls (.int j :: .ref a :: st) := fun x T P => by
  subst hp
  obtain ⟨E, O', locs, X, e, N'⟩ := id P
  obtain ⟨c, A, e1, e2, e3⟩ := A
  have q : c.slots.size = vs.length := by rw [← e1]; simp
  have hlt := (List.getElem?_eq_some_iff.mp hv).1
  exact lift (fun t q' => X.caload P.ex (j := j) (v := .int v) (by rw [e]; exact A.1) (State.isArrayOf_alike E.zz.alike A.2.1) A.2.2 (ix_in (by omega) (by omega)) (by rw [ix_nat hj, slots_at e1]; exact hv) (g := mkF x.m pc Ls (.int j :: .ref a :: st)) rfl rfl (P.d hd) t q') (r x T P)
theorem Go.saload (pc' : Nat) (hp : pc + 1 = pc') {a : Addr} {vs : List Value} {j : Int32} (v : Int32) (hd : decode B.by pc = .ok (.saload, 1)) (A : Ary Z h a .short vs) (jn : Nat) (hj : j.toInt = jn) (hv : vs[jn]? = some (.int v)) (r : Go Q Z B k n h pc' Ls (.int v :: st)) : Go Q Z B k n h pc Ls (.int j :: .ref a :: st) := fun x T P => by
  subst hp
  obtain ⟨E, O', locs, X, e, N'⟩ := id P
  obtain ⟨c, A, e1, e2, e3⟩ := A
  have q : c.slots.size = vs.length := by rw [← e1]; simp
  have hlt := (List.getElem?_eq_some_iff.mp hv).1
  exact lift (fun t q' => X.saload P.ex (j := j) (v := .int v) (by rw [e]; exact A.1) (State.isArrayOf_alike E.zz.alike A.2.1) A.2.2 (ix_in (by omega) (by omega)) (by rw [ix_nat hj, slots_at e1]; exact hv) (g := mkF x.m pc Ls (.int j :: .ref a :: st)) rfl rfl (P.d hd) t q') (r x T P)
theorem Go.baload (pc' : Nat) (hp : pc + 1 = pc') {a : Addr} {vs : List Value} {j : Int32} (v : Int32) (hd : decode B.by pc = .ok (.baload, 1)) (A : Ary Z h a .byte vs) (jn : Nat) (hj : j.toInt = jn) (hv : vs[jn]? = some (.int v)) (r : Go Q Z B k n h pc' Ls (.int v :: st)) : Go Q Z B k n h pc Ls (.int j :: .ref a :: st) := fun x T P => by
  subst hp
  obtain ⟨E, O', locs, X, e, N'⟩ := id P
  obtain ⟨c, A, e1, e2, e3⟩ := A
  have q : c.slots.size = vs.length := by rw [← e1]; simp
  have hlt := (List.getElem?_eq_some_iff.mp hv).1
  exact lift (fun t q' => X.baloadBytes P.ex (j := j) (v := .int v) (by rw [e]; exact A.1) (State.isArrayOf_alike E.zz.alike A.2.1) A.2.2 (ix_in (by omega) (by omega)) (by rw [ix_nat hj, slots_at e1]; exact hv) (g := mkF x.m pc Ls (.int j :: .ref a :: st)) rfl rfl (P.d hd) t q') (r x T P)
theorem Go.zaload (pc' : Nat) (hp : pc + 1 = pc') {a : Addr} {vs : List Value} {j : Int32} (v : Int32) (hd : decode B.by pc = .ok (.baload, 1)) (A : Ary Z h a .boolean vs) (jn : Nat) (hj : j.toInt = jn) (hv : vs[jn]? = some (.int v)) (r : Go Q Z B k n h pc' Ls (.int v :: st)) : Go Q Z B k n h pc Ls (.int j :: .ref a :: st) := fun x T P => by
  subst hp
  obtain ⟨E, O', locs, X, e, N'⟩ := id P
  obtain ⟨c, A, e1, e2, e3⟩ := A
  have q : c.slots.size = vs.length := by rw [← e1]; simp
  have hlt := (List.getElem?_eq_some_iff.mp hv).1
  exact lift (fun t q' => X.baloadBooleans P.ex (j := j) (v := .int v) (by rw [e]; exact A.1) (State.isArrayOf_alike E.zz.alike A.2.1) A.2.2 (ix_in (by omega) (by omega)) (by rw [ix_nat hj, slots_at e1]; exact hv) (g := mkF x.m pc Ls (.int j :: .ref a :: st)) rfl rfl (P.d hd) t q') (r x T P)
theorem Go.aaload (pc' : Nat) (hp : pc + 1 = pc') {ty : FieldType} {a : Addr} {vs : List Value} {j : Int32} (v : Value) (hd : decode B.by pc = .ok (.aaload, 1)) (hty : ty.isReference = true) (A : Ary Z h a ty vs) (jn : Nat) (hj : j.toInt = jn) (hv : vs[jn]? = some v) (r : Go Q Z B k n h pc' Ls (v :: st)) : Go Q Z B k n h pc Ls (.int j :: .ref a :: st) := fun x T P => by
  subst hp
  obtain ⟨E, O', locs, X, e, N'⟩ := id P
  obtain ⟨c, A, e1, e2, e3⟩ := A
  have q : c.slots.size = vs.length := by rw [← e1]; simp
  have hlt := (List.getElem?_eq_some_iff.mp hv).1
  exact lift (fun t q' => X.aaload P.ex (j := j) (v := v) (by rw [e]; exact A.1) (State.isArrayOf_alike E.zz.alike A.2.1) hty A.2.2 (ix_in (by omega) (by omega)) (by rw [ix_nat hj, slots_at e1]; exact hv) (g := mkF x.m pc Ls (.int j :: .ref a :: st)) rfl rfl (P.d hd) t q') (r x T P)
/-- a store into an array -/
theorem Ary.set {a : Addr} {ty : FieldType} {vs : List Value} {j : Nat} {v : Value} {c : Cell} (A : Arr Z h a c ty) (e1 : c.slots.toList = vs) (e2 : vs.length < 2 ^ 31) (e3 : ∀ v ∈ vs, fits ty v = true) (W : Wr h h' a j v) (hv : fits ty v = true) : Ary Z h' a ty (vs.set j v) := by
  refine ⟨c.setSlot j v, A.same W, ?_, by rw [List.length_set]; exact e2, fun w hw => ?_⟩
  · show (c.slots.setIfInBounds j v).toList = _
    rw [Array.toList_setIfInBounds, e1]
  · rcases List.mem_or_eq_of_mem_set hw with q | rfl
    · exact e3 _ q
    · exact hv
theorem Go.stI (pc' : Nat) (hp : pc + 1 = pc') {a : Addr} {vs : List Value} {j : Int32} {v : Int32} (hd : decode B.by pc = .ok (.iastore, 1)) (A : Ary Z h a .int vs) (jn : Nat) (hj : j.toInt = jn) (hlt : jn < vs.length) (ge : Z.heap.size ≤ a)
    (r : ∀ h' : Heap, Keep h h' [a] → Ary Z h' a .int (vs.set jn (.int v)) → Go Q Z B k n h' pc' Ls st) : Go Q Z B k n h pc Ls (.int v :: .int j :: .ref a :: st) := fun x T P => by
  subst hp
  obtain ⟨E, O', locs, X, e, N⟩ := id P
  obtain ⟨c, A, e1, e2, e3⟩ := A
  have q : c.slots.size = vs.length := by rw [← e1]; simp
  obtain ⟨T', h', X', e', W, s'⟩ := RoadKit.stI X P.ex E.zz e A (j := j) (ix_in (by omega) (by omega)) (g := mkF x.m pc Ls (.int v :: .int j :: .ref a :: st)) rfl rfl (P.d hd)
  rw [ix_nat hj] at W
  exact lift s' (r h' (keep_wr W) (Ary.set A e1 e2 e3 W (rfl)) x T' ⟨E, ext_keep O' (keep_wr W) (ge1 ge), _, X', e', fr_snoc N ge⟩)
theorem Go.stJ (pc' : Nat) (hp : pc + 1 = pc') {a : Addr} {vs : List Value} {j : Int32} {v : Int64} (hd : decode B.by pc = .ok (.lastore, 1)) (A : Ary Z h a .long vs) (jn : Nat) (hj : j.toInt = jn) (hlt : jn < vs.length) (ge : Z.heap.size ≤ a)
    (r : ∀ h' : Heap, Keep h h' [a] → Ary Z h' a .long (vs.set jn (.long v)) → Go Q Z B k n h' pc' Ls st) : Go Q Z B k n h pc Ls (.long v :: .int j :: .ref a :: st) := fun x T P => by
  subst hp
  obtain ⟨E, O', locs, X, e, N⟩ := id P
  obtain ⟨c, A, e1, e2, e3⟩ := A
  have q : c.slots.size = vs.length := by rw [← e1]; simp
  obtain ⟨T', h', X', e', W, s'⟩ := RoadKit.stJ X P.ex E.zz e A (j := j) (ix_in (by omega) (by omega)) (g := mkF x.m pc Ls (.long v :: .int j :: .ref a :: st)) rfl rfl (P.d hd)
  rw [ix_nat hj] at W
  exact lift s' (r h' (keep_wr W) (Ary.set A e1 e2 e3 W (rfl)) x T' ⟨E, ext_keep O' (keep_wr W) (ge1 ge), _, X', e', fr_snoc N ge⟩)
theorem Go.stC (pc' : Nat) (hp : pc + 1 = pc') {a : Addr} {vs : List Value} {j : Int32} {v : Int32} (hd : decode B.by pc = .ok (.castore, 1)) (A : Ary Z h a .char vs) (jn : Nat) (hj : j.toInt = jn) (hlt : jn < vs.length) (ge : Z.heap.size ≤ a)
    (r : ∀ h' : Heap, Keep h h' [a] → Ary Z h' a .char (vs.set jn (.int (nar .char v))) → Go Q Z B k n h' pc' Ls st) : Go Q Z B k n h pc Ls (.int v :: .int j :: .ref a :: st) := fun x T P => by
  subst hp
  obtain ⟨E, O', locs, X, e, N⟩ := id P
  obtain ⟨c, A, e1, e2, e3⟩ := A
  have q : c.slots.size = vs.length := by rw [← e1]; simp
  obtain ⟨T', h', X', e', W, s'⟩ := RoadKit.stC X P.ex E.zz e A (j := j) (ix_in (by omega) (by omega)) (g := mkF x.m pc Ls (.int v :: .int j :: .ref a :: st)) rfl rfl (P.d hd)
  rw [ix_nat hj] at W
  exact lift s' (r h' (keep_wr W) (Ary.set A e1 e2 e3 W (fits_nar_char v)) x T' ⟨E, ext_keep O' (keep_wr W) (ge1 ge), _, X', e', fr_snoc N ge⟩)
theorem Go.stS (pc' : Nat) (hp : pc + 1 = pc') {a : Addr} {vs : List Value} {j : Int32} {v : Int32} (hd : decode B.by pc = .ok (.sastore, 1)) (A : Ary Z h a .short vs) (jn : Nat) (hj : j.toInt = jn) (hlt : jn < vs.length) (ge : Z.heap.size ≤ a)
    (r : ∀ h' : Heap, Keep h h' [a] → Ary Z h' a .short (vs.set jn (.int (nar .short v))) → Go Q Z B k n h' pc' Ls st) : Go Q Z B k n h pc Ls (.int v :: .int j :: .ref a :: st) := fun x T P => by
  subst hp
  obtain ⟨E, O', locs, X, e, N⟩ := id P
  obtain ⟨c, A, e1, e2, e3⟩ := A
  have q : c.slots.size = vs.length := by rw [← e1]; simp
  obtain ⟨T', h', X', e', W, s'⟩ := RoadKit.stS X P.ex E.zz e A (j := j) (ix_in (by omega) (by omega)) (g := mkF x.m pc Ls (.int v :: .int j :: .ref a :: st)) rfl rfl (P.d hd)
  rw [ix_nat hj] at W
  exact lift s' (r h' (keep_wr W) (Ary.set A e1 e2 e3 W (fits_nar_short v)) x T' ⟨E, ext_keep O' (keep_wr W) (ge1 ge), _, X', e', fr_snoc N ge⟩)
theorem Go.stB (pc' : Nat) (hp : pc + 1 = pc') {a : Addr} {vs : List Value} {j : Int32} {v : Int32} (hd : decode B.by pc = .ok (.bastore, 1)) (A : Ary Z h a .byte vs) (jn : Nat) (hj : j.toInt = jn) (hlt : jn < vs.length) (ge : Z.heap.size ≤ a)
    (r : ∀ h' : Heap, Keep h h' [a] → Ary Z h' a .byte (vs.set jn (.int (nar .byte v))) → Go Q Z B k n h' pc' Ls st) : Go Q Z B k n h pc Ls (.int v :: .int j :: .ref a :: st) := fun x T P => by
  subst hp
  obtain ⟨E, O', locs, X, e, N⟩ := id P
  obtain ⟨c, A, e1, e2, e3⟩ := A
  have q : c.slots.size = vs.length := by rw [← e1]; simp
  obtain ⟨T', h', X', e', W, s'⟩ := RoadKit.stB X P.ex E.zz e A (j := j) (ix_in (by omega) (by omega)) (g := mkF x.m pc Ls (.int v :: .int j :: .ref a :: st)) rfl rfl (P.d hd)
  rw [ix_nat hj] at W
  exact lift s' (r h' (keep_wr W) (Ary.set A e1 e2 e3 W (fits_nar_byte v)) x T' ⟨E, ext_keep O' (keep_wr W) (ge1 ge), _, X', e', fr_snoc N ge⟩)
theorem Go.stZ (pc' : Nat) (hp : pc + 1 = pc') {a : Addr} {vs : List Value} {j : Int32} {v : Int32} (hd : decode B.by pc = .ok (.bastore, 1)) (A : Ary Z h a .boolean vs) (jn : Nat) (hj : j.toInt = jn) (hlt : jn < vs.length) (ge : Z.heap.size ≤ a)
    (r : ∀ h' : Heap, Keep h h' [a] → Ary Z h' a .boolean (vs.set jn (.int (nar .boolean v))) → Go Q Z B k n h' pc' Ls st) : Go Q Z B k n h pc Ls (.int v :: .int j :: .ref a :: st) := fun x T P => by
  subst hp
  obtain ⟨E, O', locs, X, e, N⟩ := id P
  obtain ⟨c, A, e1, e2, e3⟩ := A
  have q : c.slots.size = vs.length := by rw [← e1]; simp
  obtain ⟨T', h', X', e', W, s'⟩ := RoadKit.stZ X P.ex E.zz e A (j := j) (ix_in (by omega) (by omega)) (g := mkF x.m pc Ls (.int v :: .int j :: .ref a :: st)) rfl rfl (P.d hd)
  rw [ix_nat hj] at W
  exact lift s' (r h' (keep_wr W) (Ary.set A e1 e2 e3 W (fits_nar_bool v)) x T' ⟨E, ext_keep O' (keep_wr W) (ge1 ge), _, X', e', fr_snoc N ge⟩)
theorem Go.stR (pc' : Nat) (hp : pc + 1 = pc') {C : String} {a b : Addr} {vs : List Value} {j : Int32} (hd : decode B.by pc = .ok (.aastore, 1)) (A : Ary Z h a (.object C) vs) (O : Aov Z h a C) (I : Ins Z h b C true) (jn : Nat) (hj : j.toInt = jn) (hlt : jn < vs.length) (ge : Z.heap.size ≤ a)
    (r : ∀ h' : Heap, Keep h h' [a] → Ary Z h' a (.object C) (vs.set jn (.ref b)) → Go Q Z B k n h' pc' Ls st) : Go Q Z B k n h pc Ls (.ref b :: .int j :: .ref a :: st) := fun x T P => by
  subst hp
  obtain ⟨E, O', locs, X, e, N⟩ := id P
  obtain ⟨c, A, e1, e2, e3⟩ := A
  obtain ⟨c', q1, q2⟩ := O
  cases q1.symm.trans A.1
  have q : c.slots.size = vs.length := by rw [← e1]; simp
  obtain ⟨T', h', X', e', W, s'⟩ := RoadKit.stR X P.ex E.zz e A (j := j) (v := .ref b) (ix_in (by omega) (by omega)) rfl (Sto.of A q2 I) (g := mkF x.m pc Ls (.ref b :: .int j :: .ref a :: st)) rfl rfl (P.d hd)
  rw [ix_nat hj] at W
  exact lift s' (r h' (keep_wr W) (Ary.set A e1 e2 e3 W rfl) x T' ⟨E, ext_keep O' (keep_wr W) (ge1 ge), _, X', e', fr_snoc N ge⟩)
/-! ## returns -/
theorem ret_core {v : Option Value} {T : State} {locs : List Loc} {fs : List Frame} (E : En Z x B) (O' : Ext Z.heap h) (e : T.heap = h) (N : Fr Z.heap.size locs) (hk : k ≤ B.R.cells) (hn : n ≤ B.R.slots) (hQ : Q v h)
    (hs : Steps x.p.tables x.e x.below (T.setTop (mkF x.m pc Ls st)) (T.setFrames fs)) (hrun : (T.setFrames fs).status = .running) (hended : Ended (T.setFrames fs) x.below (.returned v)) (hW : x.s.WarmedH (T.setFrames fs).vm) (hsame : x.s.sameButNew ({ T.setFrames fs with vm := x.s.vm } : State) locs k n) : Rn Q Z x B T pc Ls st := by
  subst e
  exact ⟨T.setFrames fs, _, hs, hrun, hended, _, locs, rfl, ⟨hQ, O', N⟩, ⟨_, rfl⟩, hW, hsame.mono hk hn⟩
theorem Go.retV (hd : decode B.by pc = .ok (.return_, 1)) (ht : B.rt = none) (hk : k ≤ B.R.cells) (hn : n ≤ B.R.slots) (hQ : Q none h) : Go Q Z B k n h pc Ls [] := fun x T P => by
  obtain ⟨E, O', locs, X, e, N⟩ := id P
  obtain ⟨fs, hr, hrun, hended, hW, hsame⟩ := X.leave (v := none) (fun _ => rfl) E.nl
  exact ret_core E O' e N hk hn hQ (X.returnOut P.ex (E.rt.trans ht) (P.d hd) hr) hrun hended hW hsame
theorem Go.retI {z : Int32} (hd : decode B.by pc = .ok (.ireturn, 1)) (ht : B.rt = some .int) (hk : k ≤ B.R.cells) (hn : n ≤ B.R.slots) (hQ : Q (some (.int z)) h) : Go Q Z B k n h pc Ls [.int z] := fun x T P => by
  obtain ⟨E, O', locs, X, e, N⟩ := id P
  obtain ⟨fs, hr, hrun, hended, hW, hsame⟩ := X.leave (v := some (.int z)) (fun q => by rw [E.rt, ht] at q; cases q) E.nl
  exact ret_core E O' e N hk hn hQ (X.ireturnOut P.ex (E.rt.trans ht) rfl (Or.inl rfl) (P.d hd) hr) hrun hended hW hsame
theorem Go.retN {z z' : Int32} {t : FieldType} (hd : decode B.by pc = .ok (.ireturn, 1)) (ht : B.rt = some t) (hz : t = .boolean ∨ t = .byte ∨ t = .char ∨ t = .short) (hq : nar t z = z') (hk : k ≤ B.R.cells) (hn : n ≤ B.R.slots) (hQ : Q (some (.int z')) h) : Go Q Z B k n h pc Ls (.int z :: st) := fun x T P => by
  subst hq
  obtain ⟨E, O', locs, X, e, N⟩ := id P
  obtain ⟨fs, hr, hrun, hended, hW, hsame⟩ := X.leave (v := some (.int (nar t z))) (fun q => by rw [E.rt, ht] at q; cases q) E.nl
  exact ret_core E O' e N hk hn hQ (RoadKit.retN X P.ex (E.rt.trans ht) hz (P.d hd) hr) hrun hended hW hsame
theorem Go.retJ {z : Int64} (hd : decode B.by pc = .ok (.lreturn, 1)) (ht : B.rt = some .long) (hk : k ≤ B.R.cells) (hn : n ≤ B.R.slots) (hQ : Q (some (.long z)) h) : Go Q Z B k n h pc Ls [.long z] := fun x T P => by
  obtain ⟨E, O', locs, X, e, N⟩ := id P
  obtain ⟨fs, hr, hrun, hended, hW, hsame⟩ := X.leave (v := some (.long z)) (fun q => by rw [E.rt, ht] at q; cases q) E.nl
  exact ret_core E O' e N hk hn hQ (X.lreturnOut P.ex (E.rt.trans ht) (P.d hd) hr) hrun hended hW hsame
theorem Go.retD {z : UInt64} (hd : decode B.by pc = .ok (.dreturn, 1)) (ht : B.rt = some .double) (hk : k ≤ B.R.cells) (hn : n ≤ B.R.slots) (hQ : Q (some (.double z)) h) : Go Q Z B k n h pc Ls (.double z :: st) := fun x T P => by
  obtain ⟨E, O', locs, X, e, N⟩ := id P
  obtain ⟨fs, hr, hrun, hended, hW, hsame⟩ := X.leave (v := some (.double z)) (fun q => by rw [E.rt, ht] at q; cases q) E.nl
  exact ret_core E O' e N hk hn hQ (retOut X P.ex (i := .dreturn) (E.rt.trans ht) rfl (Or.inr (Or.inr (Or.inl ⟨rfl, rfl, _, rfl⟩))) (P.d hd) hr) hrun hended hW hsame
theorem Go.retA {z : Value} {t : FieldType} (hd : decode B.by pc = .ok (.areturn, 1)) (ht : B.rt = some t) (hr' : t.isReference = true) (hz : z.isRef = true) (hk : k ≤ B.R.cells) (hn : n ≤ B.R.slots) (hQ : Q (some z) h) : Go Q Z B k n h pc Ls [z] := fun x T P => by
  obtain ⟨E, O', locs, X, e, N⟩ := id P
  obtain ⟨fs, hr, hrun, hended, hW, hsame⟩ := X.leave (v := some z) (fun q => by rw [E.rt, ht] at q; cases q) E.nl
  exact ret_core E O' e N hk hn hQ (X.areturnOut P.ex hz (E.rt.trans ht) hr' (P.d hd) hr) hrun hended hW hsame
/-! ## calls -/
theorem Con.back {C : Bd} {as : Array Value} {Qc : Option Value → Heap → Prop} {len W : Nat} (K : Con Z C as h Qc) (P : Sp Z x B T k n h) (i j : Nat) (wc : B.tb[i]? = some (.code C.y C.by C.ml C.rt)) (wz : B.tb[j]? = some (.initialized C.y.cls)) (hf : C.R.frames + 1 ≤ B.R.frames) (hl : W + (C.ml + 11) + C.R.locals ≤ B.R.locals) :
    Back x.l B.R x.p x.e x.below x.s x.args C.y len W (fun A a => a = as ∧ A.U.heap = h ∧ A.cells + C.R.cells ≤ B.R.cells ∧ A.slots + C.R.slots ≤ B.R.slots)
      (fun A _ v D => ∃ L, (Qc v D.U.heap ∧ Ext Z.heap D.U.heap ∧ Fr Z.heap.size L) ∧ D.locs = A.locs ++ L ∧ D.cells = A.cells + C.R.cells ∧ D.slots = A.slots + C.R.slots) := by
  obtain ⟨a0, hw⟩ := P.wd.w
  exact backOf (a0 := a0) (Q := fun v h' L => Qc v h' ∧ Ext Z.heap h' ∧ Fr Z.heap.size L) (K P.old x.l []) P.1.zz (hw wc) (hw wz) hf hl
theorem Go.callS (pc' : Nat) (hp : pc + 3 = pc') {C : Bd} {Qc : Option Value → Heap → Prop} {ix : Nat} (argsL : List Value) {st : List Value} (i1 i2 i3 i4 : Nat) (K : Con Z C argsL.toArray h Qc) (hd : decode B.by pc = .ok (.invokestatic ix, 3)) (w1 : B.tb[i1]? = some (.methodLink B.y.cls ix C.y)) (w2 : B.tb[i2]? = some (.static C.y)) (w3 : B.tb[i3]? = some (.initialized C.y.cls)) (w4 : B.tb[i4]? = some (.code C.y C.by C.ml C.rt))
    (hy : C.y.cls ≠ "java/lang/invoke/MethodHandle" ∧ C.y.cls ≠ "java/lang/invoke/VarHandle") {ps : List FieldType} {rt : Option FieldType} (hpd : parseMethodDescriptor C.y.desc = some ⟨ps, rt⟩) (hlen : argsL.length = ps.length) (hs : Ls.size = B.ml) (hst : st = argsL.reverse ++ rest) {W : Nat} (hW : (rest.map fun v => v.category).sum ≤ W) (hf : C.R.frames + 1 ≤ B.R.frames) (hl : W + (C.ml + 11) + C.R.locals ≤ B.R.locals) (hc : k + C.R.cells ≤ B.R.cells) (hn : n + C.R.slots ≤ B.R.slots)
    (r : ∀ (v : Option Value) (h' : Heap), Qc v h' → Go Q Z B (k + C.R.cells) (n + C.R.slots) h' pc' Ls (v.toList ++ rest)) : Go Q Z B k n h pc Ls st := fun x T P => by
  subst hp hst
  obtain ⟨a0, hw⟩ := P.wd.w
  obtain ⟨E, O', locs, X, e, N⟩ := id P
  obtain ⟨v, vm₁, ⟨T1, L1, k1, n1⟩, -, X1, ⟨Lc, hQ, l1, y1, z1⟩, st1⟩ := Jvm.LawKit.callS X P.ex (y := C.y) E.own (mvT E.zz (hw w1)) (mvT E.zz (hw w2)) (mvT E.zz (hw w3)) (mvT E.zz (hw w4)) hy (K.back (W := W) P i4 i3 w4 w3 hf hl) (g := mkF x.m pc Ls (argsL.reverse ++ rest)) rfl (by rw [E.ml]; exact hs) (argsL := argsL) (rest := rest) (lenOf hpd hlen) rfl (by show 2 * 0 + _ ≤ _; omega) (P.d hd) (fun _ _ => ⟨rfl, e, hc, hn⟩)
  dsimp only [Pt.U, Pt.locs, Pt.cells, Pt.slots] at X1 l1 y1 z1 st1 hQ
  subst l1 y1 z1
  exact lift st1 (r v T1.heap hQ.1 x T1 ⟨E, hQ.2.1, _, X1, rfl, N.app hQ.2.2⟩)
theorem Go.callI (pc' : Nat) (hp : pc + 3 = pc') {C : Bd} {Qc : Option Value → Heap → Prop} {ix : Nat} (a : Addr) (argsL : List Value) {st : List Value} (i1 i2 i3 i4 : Nat) (K : Con Z C (.ref a :: argsL).toArray h Qc) (hd : decode B.by pc = .ok (.invokespecial ix, 3)) (w1 : B.tb[i1]? = some (.methodLink B.y.cls ix C.y)) (w2 : B.tb[i2]? = some (.instanceMethod C.y)) (w3 : B.tb[i3]? = some (.initialized C.y.cls)) (w4 : B.tb[i4]? = some (.code C.y C.by C.ml none)) (hrt : C.rt = none) (hi : C.y.name = "<init>")
    (hy : C.y.cls ≠ "java/lang/invoke/MethodHandle" ∧ C.y.cls ≠ "java/lang/invoke/VarHandle") {ps : List FieldType} {rt : Option FieldType} (hpd : parseMethodDescriptor C.y.desc = some ⟨ps, rt⟩) (hlen : argsL.length = ps.length) (hs : Ls.size = B.ml) (hst : st = argsL.reverse ++ .ref a :: rest) {W : Nat} (hW : (rest.map fun v => v.category).sum ≤ W) (hf : C.R.frames + 1 ≤ B.R.frames) (hl : W + (C.ml + 11) + C.R.locals ≤ B.R.locals) (hc : k + C.R.cells ≤ B.R.cells) (hn : n + C.R.slots ≤ B.R.slots)
    (r : ∀ (v : Option Value) (h' : Heap), Qc v h' → Go Q Z B (k + C.R.cells) (n + C.R.slots) h' pc' Ls (v.toList ++ rest)) : Go Q Z B k n h pc Ls st := fun x T P => by
  subst hp hst
  obtain ⟨a0, hw⟩ := P.wd.w
  obtain ⟨E, O', locs, X, e, N⟩ := id P
  obtain ⟨v, vm₁, ⟨T1, L1, k1, n1⟩, -, X1, ⟨Lc, hQ, l1, y1, z1⟩, st1⟩ := X.specialBack P.ex (y := C.y) hi E.own (mvT E.zz (hw w1)) (mvT E.zz (hw w2)) (mvT E.zz (hw w4)) hy (K.back (W := W) P i4 i3 (by rw [hrt]; exact w4) w3 hf hl) (g := mkF x.m pc Ls (argsL.reverse ++ .ref a :: rest)) rfl (by rw [E.ml]; exact hs) (Steps.refl _) (a := a) (argsL := argsL) (rest := rest) (lenOf hpd hlen) rfl (by show 2 * 0 + _ ≤ _; omega) (P.d hd) (fun _ _ => ⟨rfl, e, hc, hn⟩)
  dsimp only [Pt.U, Pt.locs, Pt.cells, Pt.slots] at X1 l1 y1 z1 st1 hQ
  subst l1 y1 z1
  exact liftS st1 (r v T1.heap hQ.1 x T1 ⟨E, hQ.2.1, _, X1, rfl, N.app hQ.2.2⟩)
theorem Go.callV (pc' : Nat) (hp : pc + 3 = pc') {C : Bd} {Qc : Option Value → Heap → Prop} {ix : Nat} {D : String} (a : Addr) (argsL : List Value) {st : List Value} (i1 i2 i3 i4 i5 i6 : Nat) (K : Con Z C (.ref a :: argsL).toArray h Qc) (Ea : Exa Z h a D) (hd : decode B.by pc = .ok (.invokevirtual ix, 3)) (w1 : B.tb[i1]? = some (.methodLink B.y.cls ix C.y)) (w2 : B.tb[i2]? = some (.declares C.y)) (w3 : B.tb[i3]? = some (.selects D C.y C.y)) (w4 : B.tb[i4]? = some (.instanceMethod C.y)) (w5 : B.tb[i5]? = some (.initialized C.y.cls)) (w6 : B.tb[i6]? = some (.code C.y C.by C.ml C.rt))
    (hy : C.y.cls ≠ "java/lang/invoke/MethodHandle" ∧ C.y.cls ≠ "java/lang/invoke/VarHandle") {ps : List FieldType} {rt : Option FieldType} (hpd : parseMethodDescriptor C.y.desc = some ⟨ps, rt⟩) (hlen : argsL.length = ps.length) (hs : Ls.size = B.ml) (hst : st = argsL.reverse ++ .ref a :: rest) {W : Nat} (hW : (rest.map fun v => v.category).sum ≤ W) (hf : C.R.frames + 1 ≤ B.R.frames) (hl : W + (C.ml + 11) + C.R.locals ≤ B.R.locals) (hc : k + C.R.cells ≤ B.R.cells) (hn : n + C.R.slots ≤ B.R.slots)
    (r : ∀ (v : Option Value) (h' : Heap), Qc v h' → Go Q Z B (k + C.R.cells) (n + C.R.slots) h' pc' Ls (v.toList ++ rest)) : Go Q Z B k n h pc Ls st := fun x T P => by
  subst hp hst
  obtain ⟨a0, hw⟩ := P.wd.w
  obtain ⟨E, O', locs, X, e, N⟩ := id P
  obtain ⟨cq, kq, qa, qb, qc⟩ := isOf E.zz e Ea
  obtain ⟨v, vm₁, ⟨T1, L1, k1, n1⟩, -, X1, ⟨Lc, hQ, l1, y1, z1⟩, st1⟩ := X.virtualBack P.ex (y := C.y) (z := C.y) E.own (mvT E.zz (hw w1)) (mvT E.zz (hw w2)) (notFace_of_selects (args := #[]) (mvT E.zz (hw w3))) (mvT E.zz (hw w3)) (mvT E.zz (hw w4)) hy (K.back (W := W) P i6 i5 w6 w5 hf hl) qa qc (g := mkF x.m pc Ls (argsL.reverse ++ .ref a :: rest)) rfl (by rw [E.ml]; exact hs) (Steps.refl _) (argsL := argsL) (rest := rest) (lenOf hpd hlen) rfl (by show 2 * 0 + _ ≤ _; omega) (P.d hd) (fun _ _ => ⟨rfl, e, hc, hn⟩)
  dsimp only [Pt.U, Pt.locs, Pt.cells, Pt.slots] at X1 l1 y1 z1 st1 hQ
  subst l1 y1 z1
  exact liftS st1 (r v T1.heap hQ.1 x T1 ⟨E, hQ.2.1, _, X1, rfl, N.app hQ.2.2⟩)
theorem Go.callP (pc' : Nat) (hp : pc + 3 = pc') {C : Bd} {Qc : Option Value → Heap → Prop} {ix : Nat} {D : String} (a : Addr) (argsL : List Value) {st : List Value} (i1 i2 i3 i4 i5 i6 : Nat) (K : Con Z C (.ref a :: argsL).toArray h Qc) (Ea : Exa Z h a D) (hd : decode B.by pc = .ok (.invokevirtual ix, 3)) (w1 : B.tb[i1]? = some (.methodLink B.y.cls ix C.y)) (w2 : B.tb[i2]? = some (.instanceMethod C.y)) (w3 : B.tb[i3]? = some (.selects C.y.cls C.y C.y)) (w4 : B.tb[i4]? = some (.privateMethod C.y)) (w5 : B.tb[i5]? = some (.initialized C.y.cls)) (w6 : B.tb[i6]? = some (.code C.y C.by C.ml C.rt))
    (hy : C.y.cls ≠ "java/lang/invoke/MethodHandle" ∧ C.y.cls ≠ "java/lang/invoke/VarHandle") {ps : List FieldType} {rt : Option FieldType} (hpd : parseMethodDescriptor C.y.desc = some ⟨ps, rt⟩) (hlen : argsL.length = ps.length) (hs : Ls.size = B.ml) (hst : st = argsL.reverse ++ .ref a :: rest) {W : Nat} (hW : (rest.map fun v => v.category).sum ≤ W) (hf : C.R.frames + 1 ≤ B.R.frames) (hl : W + (C.ml + 11) + C.R.locals ≤ B.R.locals) (hc : k + C.R.cells ≤ B.R.cells) (hn : n + C.R.slots ≤ B.R.slots)
    (r : ∀ (v : Option Value) (h' : Heap), Qc v h' → Go Q Z B (k + C.R.cells) (n + C.R.slots) h' pc' Ls (v.toList ++ rest)) : Go Q Z B k n h pc Ls st := fun x T P => by
  subst hp hst
  obtain ⟨a0, hw⟩ := P.wd.w
  obtain ⟨E, O', locs, X, e, N⟩ := id P
  obtain ⟨cq, qa, qb⟩ := Ea.cell
  obtain ⟨v, vm₁, ⟨T1, L1, k1, n1⟩, -, X1, ⟨Lc, hQ, l1, y1, z1⟩, st1⟩ := X.privateBack P.ex (y := C.y) E.own (mvT E.zz (hw w1)) (mvT E.zz (hw w2)) (mvT E.zz (hw w3)) (Cond.privateMethod_at (mvP E.zz (hw w4) (args := #[]))) (mvT E.zz (hw w6)) hy (K.back (W := W) P i6 i5 w6 w5 hf hl) (g := mkF x.m pc Ls (argsL.reverse ++ .ref a :: rest)) rfl (by rw [E.ml]; exact hs) (Steps.refl _) (a := a) (by rw [e]; exact qa) qb (argsL := argsL) (rest := rest) (lenOf hpd hlen) rfl (by show 2 * 0 + _ ≤ _; omega) (P.d hd) (fun _ _ => ⟨rfl, e, hc, hn⟩)
  dsimp only [Pt.U, Pt.locs, Pt.cells, Pt.slots] at X1 l1 y1 z1 st1 hQ
  subst l1 y1 z1
  exact liftS st1 (r v T1.heap hQ.1 x T1 ⟨E, hQ.2.1, _, X1, rfl, N.app hQ.2.2⟩)
end St
end Jvm.Ow
namespace Jvm.Ow
open Sem ClassFile Op Lib Jvm.Stand Jvm.Free Jvm.LawKit Jvm.RoadKit
section More
variable {Q : Option Value → Heap → Prop} {Z : State} {x : Cx} {B : Bd} {T : State} {k n : Nat} {h h' : Heap} {pc : Nat} {Ls Ls' : Array Slot} {st rest : List Value}
theorem Go.instNull (pc' : Nat) (hp : pc + 3 = pc') {ix : Nat} (hd : decode B.by pc = .ok (.instanceof ix, 3)) (r : Go Q Z B k n h pc' Ls (.int 0 :: st)) : Go Q Z B k n h pc Ls (.null :: st) := fun x T P => by
  subst hp
  obtain ⟨E, O', locs, X, e, N⟩ := id P
  exact lift (fun t q => X.instanceofNull P.ex (g := mkF x.m pc Ls (.null :: st)) rfl rfl (P.d hd) t q) (r x T P)
theorem ary_arv {a : Addr} {c0 : ClassId} {ty : FieldType} {z : Int32} {vs : List Value} {d : Value} (F : Arv Z h a c0 ty z vs d) (hl : z.toNatClampNeg = vs.length) : Ary Z h a ty vs := by
  obtain ⟨c, A, -, S, hz, H, G⟩ := F
  have e : c.slots.toList = vs := by
    apply List.ext_getElem?
    intro i
    rw [Array.getElem?_toList]
    by_cases hi : i < vs.length
    · rw [H i (by omega)]
      simp [List.getD, hi]
    · rw [List.getElem?_eq_none (by omega), Array.getElem?_eq_none (by omega)]
  refine ⟨c, A, e, ?_, fun v hv => ?_⟩
  · rw [← hl]; have := nat_of (j := z) hz; have := z.toInt_lt; omega
  · obtain ⟨i, hi, rfl⟩ := List.mem_iff_getElem.mp hv
    have := G i (by omega)
    simpa [List.getD, hi] using this
theorem Go.grid (pc' : Nat) (hp : pc + 4 = pc') {ad C : String} {ty : FieldType} {ix : Nat} {m1 m2 : Int32} (i1 i2 i3 N M cap : Nat) (hd : decode B.by pc = .ok (.multianewarray ix 2, 4)) (hC : (FieldType.array ty).toString = C) (had : "[" ++ C = ad) (w1 : B.tb[i1]? = some (.classLink B.y.cls ix ad)) (w2 : B.tb[i2]? = some (.arrayOver (.array ty))) (w3 : B.tb[i3]? = some (.arrayClass ty))
    (hN : m1.toInt = N) (hM : m2.toInt = M) (hcap : M ≤ cap) (hb : cap * 8 ≤ 536870912) (hb1 : N ≤ 1000) (hdf : fits ty (defaultValue ty) = true) (hdd : (defaultValue ty).isDefault = true) (hc : k + (1 + N) ≤ B.R.cells) (hl : n + (N + N * cap) ≤ B.R.slots)
    (r : ∀ (h' : Heap) (a : Addr), @Eq Nat a h.size → Z.heap.size ≤ a → Keep h h' [] → Ary Z h' a (.array ty) ((List.range N).map fun j => .ref (a + 1 + j)) → (∀ j, j < N → Ary Z h' (a + 1 + j) ty (List.replicate M (defaultValue ty))) → Go Q Z B (k + (1 + N)) (n + (N + N * cap)) h' pc' Ls (.ref a :: st)) : Go Q Z B k n h pc Ls (.int m2 :: .int m1 :: st) := fun x T P => by
  subst hp
  obtain ⟨a0, hw⟩ := P.wd.w
  obtain ⟨E, O', locs, X, e, N'⟩ := id P
  have z0 : (0 : Int32).toInt = 0 := rfl
  have hm1 : ¬ m1 < 0 := by rw [Int32.lt_iff_toInt_lt]; omega
  have hm2 : ¬ m2 < 0 := by rw [Int32.lt_iff_toInt_lt]; omega
  obtain ⟨T', h', cA, comp, X', e', Ex, A, -, -, R1, s'⟩ := gridM X P.ex E.zz E.own hC had (hw w1) (hw w2) (hw w3) e (g := mkF x.m pc Ls (.int m2 :: .int m1 :: st)) rfl (P.d hd) rfl hm1 hm2 (N := N) (ix_nat hN) rfl (cap := cap) (by rw [ix_nat hM]; exact hcap) hb hb1 hdf hdd hc hl
  have hlen : M < 2 ^ 31 := by have := m2.toInt_lt; omega
  refine lift s' (r h' h.size rfl P.le (keep_ext Ex) ?_ (fun j hj => ?_) x T' ⟨E, ⟨Nat.le_trans O'.1 Ex.1, fun y c q => Ex.2 y c (O'.2 y c q)⟩, locs, X', e', N'⟩)
  · have := ary_arv A (by rw [ix_nat hN]; simp)
    rw [List.map_map] at this
    exact this
  · obtain ⟨A1, -⟩ := R1 j (h.size + 1 + j) (by simp [hj])
    refine ⟨_, A1, ?_, by rw [List.length_replicate]; exact hlen, fun v hv => ?_⟩
    · show (Array.replicate _ _).toList = _
      rw [ix_nat hM, Array.toList_replicate]
    · rw [List.eq_of_mem_replicate hv]; exact hdf
/-- a class right under the root is not assignable to another plain class -/
theorem not_asg {tb : List Cond} (hw : Wd Z tb) {C S K : String} {sz : Nat} (i1 i2 i3 : Nat) (w1 : tb[i1]? = some (.superclass C S)) (w2 : tb[i2]? = some (.noSuperclass S)) (w3 : tb[i3]? = some (.instantiable K sz)) (n1 : C ≠ K) (n2 : S ≠ K) : ∃ c t, Z.vm.findClass C = some c ∧ Z.vm.findClass K = some t ∧ Z.vm.assignable c t = false := by
  obtain ⟨a0, hw⟩ := hw.w
  obtain ⟨c, h0⟩ := found_sup (hw w1)
  obtain ⟨p, k, kp, h1, h2, h3, h4, h5, -, h7⟩ := Cond.superclass_spec h0 (hw w1)
  obtain ⟨c', k', g1, g2, g3, -, -⟩ := Cond.noSuperclass_spec (hw w2)
  cases g1.symm.trans h1
  cases g2.symm.trans h3
  obtain ⟨t, kt, i1, i2, i3, i4, -⟩ := Cond.instantiable_spec (hw w3)
  have ne1 := ids_ne h0 i1 n1
  have ne2 := ids_ne h1 i1 n2
  have hi : kt.isInterface = false := (Bool.or_eq_false_iff.mp i4).1
  refine ⟨c, t, h0, i1, ?_⟩
  show Z.vm.assignableAux (255 + 1) c t = false
  have sub : ∀ fuel, Z.vm.isSubclassAux fuel c t = false := by
    intro fuel
    cases fuel with
    | zero => rfl
    | succ f =>
      cases f with
      | zero => simp [Vm.isSubclassAux, ne1, h2, h4]
      | succ f => simp [Vm.isSubclassAux, ne1, ne2, h2, h4, h3, g3]
  simp [Vm.assignableAux, ne1, h2, i2, h5, i3, hi, Vm.isSubclass, sub]
end More
end Jvm.Ow
namespace Jvm.Pilot.@@N@@
open Jvm Jvm.ClassFile Sem Op Lib Jvm.Free Jvm.Stand Jvm.LawKit Jvm.RoadKit Bundle Jvm.Ow Jvm.Pilot.@@N@@.Jvm.D
theorem own_ge {q : Int64} (h : ¬ q < 0) : ¬ XT.cmpL q (0 : Int64) < 0 := by
  unfold XT.cmpL
  split
  · decide
  · split
    · decide
    · exact absurd (show q < 0 by simp only [Int64.lt_iff_toInt_lt, ← Int64.toInt_inj] at *; omega) h
theorem own_le {q e : Int64} (h : ¬ e < q) : ¬ (0 : Int32) < XT.cmpL q e := by
  unfold XT.cmpL
  rw [if_neg h]
  split <;> decide
theorem own_c {f k v : Int32} (h : ((XT.ushr f k) &&& (255 : Int32)).toUInt32.toUInt16.toUInt32.toInt32 = v) : ¬ (255 : Int32) < nar .char v := by
  have h1 : ((XT.ushr f k) &&& (255 : Int32)).toInt = (XT.ushr f k).toInt % (2 ^ 8 : Nat) := c_mask _ 255 8 (by decide) (by decide)
  have h2 := c_i2c ((XT.ushr f k) &&& (255 : Int32))
  rw [h] at h2
  have h3 := c_i2c v
  rw [Int32.lt_iff_toInt_lt]
  have : (255 : Int32).toInt = 255 := rfl
  show ¬ (255 : Int32).toInt < v.toUInt32.toUInt16.toUInt32.toInt32.toInt
  omega
theorem own_len {x v : Int32} (h : x &&& (2147483647 : Int32) = v) : 0 ≤ v.toInt := by
  have h1 : (x &&& (2147483647 : Int32)).toInt = x.toInt % (2 ^ 31 : Nat) := c_mask x 2147483647 31 (by decide) (by decide)
  rw [h] at h1; omega
theorem own_k0 {x v : Int32} (h : x &&& (2147483647 : Int32) = v) : 0 ≤ (0 : Int64).toInt ∧ (0 : Int64).toInt ≤ v.toInt := by
  have := own_len h
  have e : (0 : Int64).toInt = 0 := rfl
  omega
theorem own_k1 {x v : Int32} {q : Int64} (h : x &&& (2147483647 : Int32) = v) (hq : v.toInt64 = q) : 0 ≤ q.toInt ∧ q.toInt ≤ v.toInt := by
  have := own_len h
  have e := c_i2l v
  rw [hq] at e; omega
theorem own_add {x v : Int32} (h : x &&& (2147483647 : Int32) = v) : (v.toInt64 + (1 : Int64)).toInt = v.toInt + 1 := by
  have := own_len h
  have r := rng32 v
  have e := c_i2l v
  have o : (1 : Int64).toInt = 1 := rfl
  rw [Jvm.Free.XT.add64 ⟨by omega, by omega⟩]; omega
theorem own_nz {x v : Int32} (h : x &&& (2147483647 : Int32) = v) : v.toInt64 + (1 : Int64) ≠ 0 := by
  intro q
  have := own_len h
  have e := own_add h
  rw [q] at e
  have o : (0 : Int64).toInt = 0 := rfl
  omega
theorem own_k2 {x v : Int32} {c q : Int64} (h : x &&& (2147483647 : Int32) = v) (hq : (c &&& (9223372036854775807 : Int64)) % (v.toInt64 + (1 : Int64)) = q) : 0 ≤ q.toInt ∧ q.toInt ≤ v.toInt := by
  have h0 := own_len h
  have e := own_add h
  have h1 : (c &&& (9223372036854775807 : Int64)).toInt = c.toInt % (2 ^ 63 : Nat) := c_maskL c 9223372036854775807 63 (by decide) (by decide)
  have h2 := (c_lrem (c &&& (9223372036854775807 : Int64)) (v.toInt64 + (1 : Int64)) _ e).1 (by omega)
  rw [lrem_mod, hq] at h2
  have h3 := Int.emod_nonneg (c &&& (9223372036854775807 : Int64)).toInt (show v.toInt + 1 ≠ 0 by omega)
  have h4 := Int.emod_lt_of_pos (c &&& (9223372036854775807 : Int64)).toInt (show 0 < v.toInt + 1 by omega)
  omega
theorem own_sub (p l : Int32) : (p + l) - p = l := by
  rw [Int32.add_comm]; exact Int32.add_sub_cancel l p
theorem own_n0 {v : Int32} {q : Int64} (h : 0 ≤ q.toInt ∧ q.toInt ≤ v.toInt) : ¬ q < 0 := by
  rw [Int64.lt_iff_toInt_lt]; have o : (0 : Int64).toInt = 0 := rfl; omega
theorem own_n1 {p v : Int32} {q : Int64} (h : 0 ≤ q.toInt ∧ q.toInt ≤ v.toInt) : ¬ ((p + v) - p).toInt64 < q := by
  rw [own_sub, Int64.lt_iff_toInt_lt, c_i2l]; omega
theorem d5_0 : decode jdk_52_method_21_code 0 = .ok (.iconst 0, 1) := by decide +kernel
theorem d5_1 : decode jdk_52_method_21_code 1 = .ok (.istore 5, 2) := by decide +kernel
theorem d5_3 : decode jdk_52_method_21_code 3 = .ok (.iload 5, 2) := by decide +kernel
theorem d5_5 : decode jdk_52_method_21_code 5 = .ok (.iload 4, 2) := by decide +kernel
theorem d5_7 : decode jdk_52_method_21_code 7 = .ok (.if_icmp .ge 37, 3) := by decide +kernel
theorem d5_10 : decode jdk_52_method_21_code 10 = .ok (.aload_n 0, 1) := by decide +kernel
theorem d5_11 : decode jdk_52_method_21_code 11 = .ok (.iload_n 1, 1) := by decide +kernel
theorem d5_12 : decode jdk_52_method_21_code 12 = .ok (.caload, 1) := by decide +kernel
theorem d5_13 : decode jdk_52_method_21_code 13 = .ok (.istore 6, 2) := by decide +kernel
theorem d5_15 : decode jdk_52_method_21_code 15 = .ok (.iload 6, 2) := by decide +kernel
theorem d5_17 : decode jdk_52_method_21_code 17 = .ok (.sipush 255, 3) := by decide +kernel
theorem d5_20 : decode jdk_52_method_21_code 20 = .ok (.if_icmp .le 6, 3) := by decide +kernel
theorem d5_23 : decode jdk_52_method_21_code 23 = .ok (.iload 5, 2) := by decide +kernel
theorem d5_25 : decode jdk_52_method_21_code 25 = .ok (.ireturn, 1) := by decide +kernel
theorem d5_26 : decode jdk_52_method_21_code 26 = .ok (.aload_n 2, 1) := by decide +kernel
theorem d5_27 : decode jdk_52_method_21_code 27 = .ok (.iload_n 3, 1) := by decide +kernel
theorem d5_28 : decode jdk_52_method_21_code 28 = .ok (.iload 6, 2) := by decide +kernel
theorem d5_30 : decode jdk_52_method_21_code 30 = .ok (.i2b, 1) := by decide +kernel
theorem d5_31 : decode jdk_52_method_21_code 31 = .ok (.bastore, 1) := by decide +kernel
theorem d5_32 : decode jdk_52_method_21_code 32 = .ok (.iinc 1 1, 3) := by decide +kernel
theorem d5_35 : decode jdk_52_method_21_code 35 = .ok (.iinc 3 1, 3) := by decide +kernel
theorem d5_38 : decode jdk_52_method_21_code 38 = .ok (.iinc 5 1, 3) := by decide +kernel
theorem d5_41 : decode jdk_52_method_21_code 41 = .ok (.goto (-38), 3) := by decide +kernel
theorem d5_44 : decode jdk_52_method_21_code 44 = .ok (.iload 4, 2) := by decide +kernel
theorem d5_46 : decode jdk_52_method_21_code 46 = .ok (.ireturn, 1) := by decide +kernel
theorem pd5 : parseMethodDescriptor "([CI[BII)I" = some ⟨[(.array .char), .int, (.array .byte), .int, .int], some .int⟩ := by decide +kernel
theorem pn5 : plainName "java/lang/StringUTF16" = true := by first | (simp [plainName, overriddenIn]; done) | decide +kernel
abbrev B5 : Bd := ((⟨"java/lang/StringUTF16", "compress", "([CI[BII)I"⟩ : MethodName), jdk_52_method_21_code, 7, (some .int), ({ frames := 0, cells := 0, slots := 0, locals := 0 } : Room), tables_1)
theorem ef5 (m : MethodId) (s : Addr) (t : Addr) : entryFrame m (List.toArray [.ref s, .int (0 : Int32), .ref t, .int (0 : Int32), .int (2 : Int32)]) 7 = mkF m 0 #[.val (.ref s), .val (.int (0 : Int32)), .val (.ref t), .val (.int (0 : Int32)), .val (.int (2 : Int32)), .unset, .unset] [] := by first | (simp [entryFrame, mkF, argsToLocals, Value.category]; done) | rfl
def Q5 (Z : State) (t : Addr) (x0 : Int32) (x1 : Int32) (h0 : Heap) (v : Option Value) (h : Heap) : Prop := v = some (.int (2 : Int32)) ∧ Keep h0 h [t] ∧ Ary Z h t .byte [.int (nar .byte x0.toInt8.toInt32), .int (nar .byte x1.toInt8.toInt32)]
set_option maxRecDepth 65536 in
set_option maxHeartbeats 40000000 in
theorem c5 (Z : State) (hw : Wd Z tables_1) (h0 : Heap) (s : Addr) (t : Addr) (x0 : Int32) (x1 : Int32) (hA : Ary Z h0 s .char [.int x0, .int x1]) (hB : Ary Z h0 t .byte [.int 0, .int 0]) (hgt : Z.heap.size ≤ t) (hne : s ≠ t) (hx0 : ¬ (255 : Int32) < x0) (hx1 : ¬ (255 : Int32) < x1) : Con Z B5 (List.toArray [.ref s, .int (0 : Int32), .ref t, .int (0 : Int32), .int (2 : Int32)]) h0 (Q5 Z t x0 x1 h0) := by
  refine Con.mk hw pn5 (fun m => ef5 m s t) (Go.old fun hle' => ?_)
  have hle := hle'.1
  refine Go.iconst 1 rfl (0 : Int32) d5_0 rfl ?_
  refine Go.istore 3 rfl d5_1 (Ls' := #[.val (.ref s), .val (.int (0 : Int32)), .val (.ref t), .val (.int (0 : Int32)), .val (.int (2 : Int32)), .val (.int (0 : Int32)), .unset]) rfl ?_
  refine Go.iload 5 rfl d5_3 rfl ?_
  refine Go.iload 7 rfl d5_5 rfl ?_
  refine Go.icmp_ge 44 10 d5_7 (by decide) rfl rfl (fun (b1 : ¬ (0 : Int32) < (2 : Int32)) => ?_) (fun (b1 : (0 : Int32) < (2 : Int32)) => ?_)
  · exact absurd (show (0 : Int32) < (2 : Int32) from by decide) b1
  · refine Go.aloadN 11 rfl d5_10 rfl rfl ?_
    refine Go.iloadN 12 rfl d5_11 rfl ?_
    refine Go.caload 13 rfl x0 d5_12 hA 0 rfl rfl ?_
    refine Go.istore 15 rfl d5_13 (Ls' := #[.val (.ref s), .val (.int (0 : Int32)), .val (.ref t), .val (.int (0 : Int32)), .val (.int (2 : Int32)), .val (.int (0 : Int32)), .val (.int x0)]) rfl ?_
    refine Go.iload 17 rfl d5_15 rfl ?_
    refine Go.sipush 20 rfl (255 : Int32) d5_17 rfl ?_
    refine Go.icmp_le 26 23 d5_20 (by decide) rfl rfl (fun (b2 : ¬ (255 : Int32) < x0) => ?_) (fun (b2 : (255 : Int32) < x0) => ?_)
    · refine Go.aloadN 27 rfl d5_26 rfl rfl ?_
      refine Go.iloadN 28 rfl d5_27 rfl ?_
      refine Go.iload 30 rfl d5_28 rfl ?_
      refine Go.i2b 31 rfl d5_30 ?_
      refine Go.stB 32 rfl d5_31 hB 0 rfl (Nat.le_of_ble_eq_true rfl) hgt fun h3 K4 A5 => ?_
      have A6 : Ary Z h3 t .byte [.int (nar .byte x0.toInt8.toInt32), .int 0] := A5
      refine Go.iinc 35 rfl (1 : Int32) d5_32 rfl rfl (Ls' := #[.val (.ref s), .val (.int ((0 : Int32) + (1 : Int32))), .val (.ref t), .val (.int (0 : Int32)), .val (.int (2 : Int32)), .val (.int (0 : Int32)), .val (.int x0)]) rfl ?_
      refine Go.iinc 38 rfl (1 : Int32) d5_35 rfl rfl (Ls' := #[.val (.ref s), .val (.int ((0 : Int32) + (1 : Int32))), .val (.ref t), .val (.int ((0 : Int32) + (1 : Int32))), .val (.int (2 : Int32)), .val (.int (0 : Int32)), .val (.int x0)]) rfl ?_
      refine Go.iinc 41 rfl (1 : Int32) d5_38 rfl rfl (Ls' := #[.val (.ref s), .val (.int ((0 : Int32) + (1 : Int32))), .val (.ref t), .val (.int ((0 : Int32) + (1 : Int32))), .val (.int (2 : Int32)), .val (.int ((0 : Int32) + (1 : Int32))), .val (.int x0)]) rfl ?_
      refine Go.goto 3 d5_41 (by decide) (by decide) ?_
      refine Go.iload 5 rfl d5_3 rfl ?_
      refine Go.iload 7 rfl d5_5 rfl ?_
      refine Go.icmp_ge 44 10 d5_7 (by decide) rfl rfl (fun (b7 : ¬ ((0 : Int32) + (1 : Int32)) < (2 : Int32)) => ?_) (fun (b7 : ((0 : Int32) + (1 : Int32)) < (2 : Int32)) => ?_)
      · exact absurd (show ((0 : Int32) + (1 : Int32)) < (2 : Int32) from by decide) b7
      · refine Go.aloadN 11 rfl d5_10 rfl rfl ?_
        refine Go.iloadN 12 rfl d5_11 rfl ?_
        have F8 : Ary Z h3 s .char [.int x0, .int x1] := (hA.keep K4 (ninS hne nin0))
        refine Go.caload 13 rfl x1 d5_12 F8 1 rfl rfl ?_
        refine Go.istore 15 rfl d5_13 (Ls' := #[.val (.ref s), .val (.int ((0 : Int32) + (1 : Int32))), .val (.ref t), .val (.int ((0 : Int32) + (1 : Int32))), .val (.int (2 : Int32)), .val (.int ((0 : Int32) + (1 : Int32))), .val (.int x1)]) rfl ?_
        refine Go.iload 17 rfl d5_15 rfl ?_
        refine Go.sipush 20 rfl (255 : Int32) d5_17 rfl ?_
        refine Go.icmp_le 26 23 d5_20 (by decide) rfl rfl (fun (b9 : ¬ (255 : Int32) < x1) => ?_) (fun (b9 : (255 : Int32) < x1) => ?_)
        · refine Go.aloadN 27 rfl d5_26 rfl rfl ?_
          refine Go.iloadN 28 rfl d5_27 rfl ?_
          refine Go.iload 30 rfl d5_28 rfl ?_
          refine Go.i2b 31 rfl d5_30 ?_
          refine Go.stB 32 rfl d5_31 A6 1 rfl (Nat.le_of_ble_eq_true rfl) hgt fun h10 K11 A12 => ?_
          have A13 : Ary Z h10 t .byte [.int (nar .byte x0.toInt8.toInt32), .int (nar .byte x1.toInt8.toInt32)] := A12
          refine Go.iinc 35 rfl (1 : Int32) d5_32 rfl rfl (Ls' := #[.val (.ref s), .val (.int (((0 : Int32) + (1 : Int32)) + (1 : Int32))), .val (.ref t), .val (.int ((0 : Int32) + (1 : Int32))), .val (.int (2 : Int32)), .val (.int ((0 : Int32) + (1 : Int32))), .val (.int x1)]) rfl ?_
          refine Go.iinc 38 rfl (1 : Int32) d5_35 rfl rfl (Ls' := #[.val (.ref s), .val (.int (((0 : Int32) + (1 : Int32)) + (1 : Int32))), .val (.ref t), .val (.int (((0 : Int32) + (1 : Int32)) + (1 : Int32))), .val (.int (2 : Int32)), .val (.int ((0 : Int32) + (1 : Int32))), .val (.int x1)]) rfl ?_
          refine Go.iinc 41 rfl (1 : Int32) d5_38 rfl rfl (Ls' := #[.val (.ref s), .val (.int (((0 : Int32) + (1 : Int32)) + (1 : Int32))), .val (.ref t), .val (.int (((0 : Int32) + (1 : Int32)) + (1 : Int32))), .val (.int (2 : Int32)), .val (.int (((0 : Int32) + (1 : Int32)) + (1 : Int32))), .val (.int x1)]) rfl ?_
          refine Go.goto 3 d5_41 (by decide) (by decide) ?_
          refine Go.iload 5 rfl d5_3 rfl ?_
          refine Go.iload 7 rfl d5_5 rfl ?_
          refine Go.icmp_ge 44 10 d5_7 (by decide) rfl rfl (fun (b14 : ¬ (((0 : Int32) + (1 : Int32)) + (1 : Int32)) < (2 : Int32)) => ?_) (fun (b14 : (((0 : Int32) + (1 : Int32)) + (1 : Int32)) < (2 : Int32)) => ?_)
          · refine Go.iload 46 rfl d5_44 rfl ?_
            exact Go.retI d5_46 rfl (by decide) (by decide) ⟨rfl, (((Keep.refl h0 [t]).trans K4 (by simp)).trans K11 (by simp)), A13⟩
          · exact absurd b14 (by decide)
        · exact absurd b9 hx1
    · exact absurd b2 hx0
theorem d4_0 : decode jdk_52_method_16_code 0 = .ok (.iload_n 2, 1) := by decide +kernel
theorem d4_1 : decode jdk_52_method_16_code 1 = .ok (.newarray .byte, 2) := by decide +kernel
theorem d4_3 : decode jdk_52_method_16_code 3 = .ok (.astore_n 3, 1) := by decide +kernel
theorem d4_4 : decode jdk_52_method_16_code 4 = .ok (.aload_n 0, 1) := by decide +kernel
theorem d4_5 : decode jdk_52_method_16_code 5 = .ok (.iload_n 1, 1) := by decide +kernel
theorem d4_6 : decode jdk_52_method_16_code 6 = .ok (.aload_n 3, 1) := by decide +kernel
theorem d4_7 : decode jdk_52_method_16_code 7 = .ok (.iconst 0, 1) := by decide +kernel
theorem d4_8 : decode jdk_52_method_16_code 8 = .ok (.iload_n 2, 1) := by decide +kernel
theorem d4_9 : decode jdk_52_method_16_code 9 = .ok (.invokestatic 115, 3) := by decide +kernel
theorem d4_12 : decode jdk_52_method_16_code 12 = .ok (.istore 4, 2) := by decide +kernel
theorem d4_14 : decode jdk_52_method_16_code 14 = .ok (.iload 4, 2) := by decide +kernel
theorem d4_16 : decode jdk_52_method_16_code 16 = .ok (.iload_n 2, 1) := by decide +kernel
theorem d4_17 : decode jdk_52_method_16_code 17 = .ok (.if_icmp .eq 40, 3) := by decide +kernel
theorem d4_20 : decode jdk_52_method_16_code 20 = .ok (.aload_n 0, 1) := by decide +kernel
theorem d4_21 : decode jdk_52_method_16_code 21 = .ok (.iload_n 1, 1) := by decide +kernel
theorem d4_22 : decode jdk_52_method_16_code 22 = .ok (.iload_n 2, 1) := by decide +kernel
theorem d4_23 : decode jdk_52_method_16_code 23 = .ok (.invokestatic 119, 3) := by decide +kernel
theorem d4_26 : decode jdk_52_method_16_code 26 = .ok (.astore 5, 2) := by decide +kernel
theorem d4_28 : decode jdk_52_method_16_code 28 = .ok (.aload 5, 2) := by decide +kernel
theorem d4_30 : decode jdk_52_method_16_code 30 = .ok (.iload 4, 2) := by decide +kernel
theorem d4_32 : decode jdk_52_method_16_code 32 = .ok (.invokestatic 71, 3) := by decide +kernel
theorem d4_35 : decode jdk_52_method_16_code 35 = .ok (.sipush 255, 3) := by decide +kernel
theorem d4_38 : decode jdk_52_method_16_code 38 = .ok (.if_icmp .gt 16, 3) := by decide +kernel
theorem d4_41 : decode jdk_52_method_16_code 41 = .ok (.aload 5, 2) := by decide +kernel
theorem d4_43 : decode jdk_52_method_16_code 43 = .ok (.iconst 0, 1) := by decide +kernel
theorem d4_44 : decode jdk_52_method_16_code 44 = .ok (.aload_n 3, 1) := by decide +kernel
theorem d4_45 : decode jdk_52_method_16_code 45 = .ok (.iconst 0, 1) := by decide +kernel
theorem d4_46 : decode jdk_52_method_16_code 46 = .ok (.iload_n 2, 1) := by decide +kernel
theorem d4_47 : decode jdk_52_method_16_code 47 = .ok (.invokestatic 123, 3) := by decide +kernel
theorem d4_50 : decode jdk_52_method_16_code 50 = .ok (.iload_n 2, 1) := by decide +kernel
theorem d4_51 : decode jdk_52_method_16_code 51 = .ok (.if_icmp .eq 6, 3) := by decide +kernel
theorem d4_54 : decode jdk_52_method_16_code 54 = .ok (.aload 5, 2) := by decide +kernel
theorem d4_56 : decode jdk_52_method_16_code 56 = .ok (.areturn, 1) := by decide +kernel
theorem d4_57 : decode jdk_52_method_16_code 57 = .ok (.aload_n 3, 1) := by decide +kernel
theorem d4_58 : decode jdk_52_method_16_code 58 = .ok (.areturn, 1) := by decide +kernel
theorem pd4 : parseMethodDescriptor "([CII)[B" = some ⟨[(.array .char), .int, .int], some (.array .byte)⟩ := by decide +kernel
theorem pn4 : plainName "java/lang/StringUTF16" = true := by first | (simp [plainName, overriddenIn]; done) | decide +kernel
abbrev B4 : Bd := ((⟨"java/lang/StringUTF16", "compress", "([CII)[B"⟩ : MethodName), jdk_52_method_16_code, 6, (some (.array .byte)), ({ frames := 1, cells := 1, slots := 2, locals := 18 } : Room), tables_1)
theorem ef4 (m : MethodId) (s : Addr) : entryFrame m (List.toArray [.ref s, .int (0 : Int32), .int (2 : Int32)]) 6 = mkF m 0 #[.val (.ref s), .val (.int (0 : Int32)), .val (.int (2 : Int32)), .unset, .unset, .unset] [] := by first | (simp [entryFrame, mkF, argsToLocals, Value.category]; done) | rfl
def Q4 (Z : State) (x0 : Int32) (x1 : Int32) (h0 : Heap) (v : Option Value) (h : Heap) : Prop := ∃ t, v = some (.ref t) ∧ h0.size ≤ t ∧ Keep h0 h [] ∧ Ary Z h t .byte [.int (nar .byte x0.toInt8.toInt32), .int (nar .byte x1.toInt8.toInt32)]
set_option maxRecDepth 65536 in
set_option maxHeartbeats 40000000 in
theorem c4 (Z : State) (hw : Wd Z tables_1) (h0 : Heap) (s : Addr) (x0 : Int32) (x1 : Int32) (hA : Ary Z h0 s .char [.int x0, .int x1]) (hx0 : ¬ (255 : Int32) < x0) (hx1 : ¬ (255 : Int32) < x1) : Con Z B4 (List.toArray [.ref s, .int (0 : Int32), .int (2 : Int32)]) h0 (Q4 Z x0 x1 h0) := by
  refine Con.mk hw pn4 (fun m => ef4 m s) (Go.old fun hle' => ?_)
  have hle := hle'.1
  refine Go.iloadN 1 rfl d4_0 rfl ?_
  refine Go.newA 3 rfl 20 2 2 d4_1 rfl rfl (by decide) (by decide) (by decide) (by decide) fun h2 a1 g3 z4 K5 A6 E7 => ?_
  have A8 : Ary Z h2 a1 .byte [.int 0, .int 0] := A6
  refine Go.astoreN 4 rfl d4_3 rfl (Ls' := #[.val (.ref s), .val (.int (0 : Int32)), .val (.int (2 : Int32)), .val (.ref a1), .unset, .unset]) rfl ?_
  refine Go.aloadN 5 rfl d4_4 rfl rfl ?_
  refine Go.iloadN 6 rfl d4_5 rfl ?_
  refine Go.aloadN 7 rfl d4_6 rfl rfl ?_
  refine Go.iconst 8 rfl (0 : Int32) d4_7 rfl ?_
  refine Go.iloadN 9 rfl d4_8 rfl ?_
  have F9 : Ary Z h2 s .char [.int x0, .int x1] := (hA.keep K5 nin0)
  have ne10 : s ≠ a1 := (show @Ne Nat s a1 from by have := ltN hA.lt; have := g3; omega)
  refine Go.callS 12 rfl (C := B5) [.ref s, .int (0 : Int32), .ref a1, .int (0 : Int32), .int (2 : Int32)] (rest := []) 21 22 18 23 (c5 Z hw h2 s a1 x0 x1 F9 A8 z4 ne10 hx0 hx1) d4_9 rfl rfl rfl rfl (by decide) pd5 rfl rfl rfl (W := 0) (Nat.le_of_ble_eq_true rfl) (by decide) (by decide) (by decide) (by decide) fun v11 h12 q13 => ?_
  obtain ⟨rfl, K14, A15⟩ := q13
  refine Go.istore 14 rfl d4_12 (Ls' := #[.val (.ref s), .val (.int (0 : Int32)), .val (.int (2 : Int32)), .val (.ref a1), .val (.int (2 : Int32)), .unset]) rfl ?_
  refine Go.iload 16 rfl d4_14 rfl ?_
  refine Go.iloadN 17 rfl d4_16 rfl ?_
  refine Go.icmp_eq 57 20 d4_17 (by decide) rfl rfl (fun (b16 : (2 : Int32) = (2 : Int32)) => ?_) (fun (b16 : ¬ (2 : Int32) = (2 : Int32)) => ?_)
  · refine Go.aloadN 58 rfl d4_57 rfl rfl ?_
    exact Go.retA d4_58 rfl rfl rfl (by decide) (by decide) ⟨a1, rfl, Nat.le_of_eq g3.symm, (((Keep.refl h0 []).trans K5 all0).trans K14 (allS (Or.inr (by have := K5.1; have := g3; omega)) all0)), A15⟩
  · exact absurd rfl b16
theorem d6_0 : decode jdk_52_method_15_code 0 = .ok (.iload_n 1, 1) := by decide +kernel
theorem d6_1 : decode jdk_52_method_15_code 1 = .ok (.aload_n 0, 1) := by decide +kernel
theorem d6_2 : decode jdk_52_method_15_code 2 = .ok (.arraylength, 1) := by decide +kernel
theorem d6_3 : decode jdk_52_method_15_code 3 = .ok (.isub, 1) := by decide +kernel
theorem d6_4 : decode jdk_52_method_15_code 4 = .ok (.bipush 31, 2) := by decide +kernel
theorem d6_6 : decode jdk_52_method_15_code 6 = .ok (.iushr, 1) := by decide +kernel
theorem d6_7 : decode jdk_52_method_15_code 7 = .ok (.i2b, 1) := by decide +kernel
theorem d6_8 : decode jdk_52_method_15_code 8 = .ok (.ireturn, 1) := by decide +kernel
theorem pd6 : parseMethodDescriptor "([BI)B" = some ⟨[(.array .byte), .int], some .byte⟩ := by decide +kernel
theorem pn6 : plainName "java/lang/StringUTF16" = true := by first | (simp [plainName, overriddenIn]; done) | decide +kernel
abbrev B6 : Bd := ((⟨"java/lang/StringUTF16", "coderFromArrayLen", "([BI)B"⟩ : MethodName), jdk_52_method_15_code, 2, (some .byte), ({ frames := 0, cells := 0, slots := 0, locals := 0 } : Room), tables_1)
theorem ef6 (m : MethodId) (t : Addr) : entryFrame m (List.toArray [.ref t, .int (2 : Int32)]) 2 = mkF m 0 #[.val (.ref t), .val (.int (2 : Int32))] [] := by first | (simp [entryFrame, mkF, argsToLocals, Value.category]; done) | rfl
def Q6 (h0 : Heap) (v : Option Value) (h : Heap) : Prop := v = some (.int 0) ∧ h0 = h
set_option maxRecDepth 65536 in
set_option maxHeartbeats 40000000 in
theorem c6 (Z : State) (hw : Wd Z tables_1) (h0 : Heap) (t : Addr)  (vs : List Value) (hB : Ary Z h0 t .byte vs) (hl : vs.length = 2) : Con Z B6 (List.toArray [.ref t, .int (2 : Int32)]) h0 (Q6 h0) := by
  refine Con.mk hw pn6 (fun m => ef6 m t) (Go.old fun hle' => ?_)
  have hle := hle'.1
  refine Go.iloadN 1 rfl d6_0 rfl ?_
  refine Go.aloadN 2 rfl d6_1 rfl rfl ?_
  refine Go.alen 3 rfl (2 : Int32) d6_2 hB (by rw [hl]; rfl) ?_
  refine Go.isub 4 rfl d6_3 ?_
  refine Go.bipush 6 rfl (31 : Int32) d6_4 rfl ?_
  refine Go.iushr 7 rfl d6_6 ?_
  refine Go.i2b 8 rfl d6_7 ?_
  exact Go.retN (t := .byte) (z' := 0) d6_8 rfl (by decide) (by decide) (by decide) (by decide) ⟨rfl, rfl⟩
theorem d2_0 : decode jdk_42_method_149_code 0 = .ok (.aload_n 0, 1) := by decide +kernel
theorem d2_1 : decode jdk_42_method_149_code 1 = .ok (.invokespecial 1, 3) := by decide +kernel
theorem d2_4 : decode jdk_42_method_149_code 4 = .ok (.iload_n 3, 1) := by decide +kernel
theorem d2_5 : decode jdk_42_method_149_code 5 = .ok (.ifCond .ne 22, 3) := by decide +kernel
theorem d2_8 : decode jdk_42_method_149_code 8 = .ok (.aload_n 0, 1) := by decide +kernel
theorem d2_9 : decode jdk_42_method_149_code 9 = .ok (.ldc 7, 2) := by decide +kernel
theorem d2_11 : decode jdk_42_method_149_code 11 = .ok (.getfield 9, 3) := by decide +kernel
theorem d2_14 : decode jdk_42_method_149_code 14 = .ok (.putfield 9, 3) := by decide +kernel
theorem d2_17 : decode jdk_42_method_149_code 17 = .ok (.aload_n 0, 1) := by decide +kernel
theorem d2_18 : decode jdk_42_method_149_code 18 = .ok (.ldc 7, 2) := by decide +kernel
theorem d2_20 : decode jdk_42_method_149_code 20 = .ok (.getfield 15, 3) := by decide +kernel
theorem d2_23 : decode jdk_42_method_149_code 23 = .ok (.putfield 15, 3) := by decide +kernel
theorem d2_26 : decode jdk_42_method_149_code 26 = .ok (.return_, 1) := by decide +kernel
theorem d2_27 : decode jdk_42_method_149_code 27 = .ok (.getstatic 38, 3) := by decide +kernel
theorem d2_30 : decode jdk_42_method_149_code 30 = .ok (.ifCond .eq 28, 3) := by decide +kernel
theorem d2_33 : decode jdk_42_method_149_code 33 = .ok (.aload_n 1, 1) := by decide +kernel
theorem d2_34 : decode jdk_42_method_149_code 34 = .ok (.iload_n 2, 1) := by decide +kernel
theorem d2_35 : decode jdk_42_method_149_code 35 = .ok (.iload_n 3, 1) := by decide +kernel
theorem d2_36 : decode jdk_42_method_149_code 36 = .ok (.invokestatic 177, 3) := by decide +kernel
theorem d2_39 : decode jdk_42_method_149_code 39 = .ok (.astore 5, 2) := by decide +kernel
theorem d2_41 : decode jdk_42_method_149_code 41 = .ok (.aload_n 0, 1) := by decide +kernel
theorem d2_42 : decode jdk_42_method_149_code 42 = .ok (.aload 5, 2) := by decide +kernel
theorem d2_44 : decode jdk_42_method_149_code 44 = .ok (.iload_n 3, 1) := by decide +kernel
theorem d2_45 : decode jdk_42_method_149_code 45 = .ok (.invokestatic 47, 3) := by decide +kernel
theorem d2_48 : decode jdk_42_method_149_code 48 = .ok (.putfield 15, 3) := by decide +kernel
theorem d2_51 : decode jdk_42_method_149_code 51 = .ok (.aload_n 0, 1) := by decide +kernel
theorem d2_52 : decode jdk_42_method_149_code 52 = .ok (.aload 5, 2) := by decide +kernel
theorem d2_54 : decode jdk_42_method_149_code 54 = .ok (.putfield 9, 3) := by decide +kernel
theorem d2_57 : decode jdk_42_method_149_code 57 = .ok (.return_, 1) := by decide +kernel
theorem d2_58 : decode jdk_42_method_149_code 58 = .ok (.aload_n 0, 1) := by decide +kernel
theorem d2_59 : decode jdk_42_method_149_code 59 = .ok (.iconst 1, 1) := by decide +kernel
theorem d2_60 : decode jdk_42_method_149_code 60 = .ok (.putfield 15, 3) := by decide +kernel
theorem d2_63 : decode jdk_42_method_149_code 63 = .ok (.aload_n 0, 1) := by decide +kernel
theorem d2_64 : decode jdk_42_method_149_code 64 = .ok (.aload_n 1, 1) := by decide +kernel
theorem d2_65 : decode jdk_42_method_149_code 65 = .ok (.iload_n 2, 1) := by decide +kernel
theorem d2_66 : decode jdk_42_method_149_code 66 = .ok (.iload_n 3, 1) := by decide +kernel
theorem d2_67 : decode jdk_42_method_149_code 67 = .ok (.invokestatic 180, 3) := by decide +kernel
theorem d2_70 : decode jdk_42_method_149_code 70 = .ok (.putfield 9, 3) := by decide +kernel
theorem d2_73 : decode jdk_42_method_149_code 73 = .ok (.return_, 1) := by decide +kernel
theorem pd2 : parseMethodDescriptor "([CIILjava/lang/Void;)V" = some ⟨[(.array .char), .int, .int, (.object "java/lang/Void")], none⟩ := by decide +kernel
theorem pn2 : plainName "java/lang/String" = true := by first | (simp [plainName, overriddenIn]; done) | decide +kernel
abbrev B2 : Bd := ((⟨"java/lang/String", "<init>", "([CIILjava/lang/Void;)V"⟩ : MethodName), jdk_42_method_149_code, 6, none, ({ frames := 2, cells := 1, slots := 2, locals := 35 } : Room), tables_1)
theorem ef2 (m : MethodId) (a : Addr) (s : Addr) : entryFrame m (List.toArray [.ref a, .ref s, .int (0 : Int32), .int (2 : Int32), .null]) 6 = mkF m 0 #[.val (.ref a), .val (.ref s), .val (.int (0 : Int32)), .val (.int (2 : Int32)), .val (.null), .unset] [] := by first | (simp [entryFrame, mkF, argsToLocals, Value.category]; done) | rfl
def Q2 (Z : State) (a : Addr) (x0 : Int32) (x1 : Int32) (h0 : Heap) (v : Option Value) (h : Heap) : Prop := v = none ∧ ∃ t, h0.size ≤ t ∧ Keep h0 h [a] ∧ Fld Z h a "java/lang/String" "value" "[B" (.ref t) ∧ Fld Z h a "java/lang/String" "coder" "B" (.int 0) ∧ Ary Z h t .byte [.int (nar .byte x0.toInt8.toInt32), .int (nar .byte x1.toInt8.toInt32)]
set_option maxRecDepth 65536 in
set_option maxHeartbeats 40000000 in
theorem c2 (Z : State) (hw : Wd Z tables_1) (h0 : Heap) (a : Addr) (s : Addr) (x0 : Int32) (x1 : Int32) (cs : Int32) (hS : Sta Z Z.heap "java/lang/String" "COMPACT_STRINGS" "Z" (.int cs)) (hcs : ¬ cs = 0) (hge : Z.heap.size ≤ a) (hE : Exa Z h0 a "java/lang/String") (hV : Fld Z h0 a "java/lang/String" "value" "[B" .null) (hC : Fld Z h0 a "java/lang/String" "coder" "B" (.int 0)) (hA : Ary Z h0 s .char [.int x0, .int x1]) (hx0 : ¬ (255 : Int32) < x0) (hx1 : ¬ (255 : Int32) < x1) : Con Z B2 (List.toArray [.ref a, .ref s, .int (0 : Int32), .int (2 : Int32), .null]) h0 (Q2 Z a x0 x1 h0) := by
  refine Con.mk hw pn2 (fun m => ef2 m a s) (Go.old fun hle' => ?_)
  have hle := hle'.1
  refine Go.aloadN 1 rfl d2_0 rfl rfl ?_
  refine Go.initO 4 rfl 12 13 14 d2_1 rfl rfl rfl rfl (by decide) (W := 0) (Nat.le_of_ble_eq_true rfl) (by decide) ?_
  refine Go.iloadN 5 rfl d2_4 rfl ?_
  refine Go.if_ne 27 8 d2_5 (by decide) rfl rfl (fun (b1 : ¬ (2 : Int32) = 0) => ?_) (fun (b1 : (2 : Int32) = 0) => ?_)
  · refine Go.getS 30 rfl (v := .int cs) 15 d2_27 rfl hS ?_
    refine Go.if_eq 58 33 d2_30 (by decide) rfl rfl (fun (b2 : cs = 0) => ?_) (fun (b2 : ¬ cs = 0) => ?_)
    · exact absurd b2 hcs
    · refine Go.aloadN 34 rfl d2_33 rfl rfl ?_
      refine Go.iloadN 35 rfl d2_34 rfl ?_
      refine Go.iloadN 36 rfl d2_35 rfl ?_
      refine Go.callS 39 rfl (C := B4) [.ref s, .int (0 : Int32), .int (2 : Int32)] (rest := []) 16 17 18 19 (c4 Z hw h0 s x0 x1 hA hx0 hx1) d2_36 rfl rfl rfl rfl (by decide) pd4 rfl rfl rfl (W := 0) (Nat.le_of_ble_eq_true rfl) (by decide) (by decide) (by decide) (by decide) fun v3 h4 q5 => ?_
      obtain ⟨t, rfl, g6, K7, A8⟩ := q5
      have z9 : Z.heap.size ≤ t := Nat.le_trans hle g6
      refine Go.astore 41 rfl d2_39 rfl (Ls' := #[.val (.ref a), .val (.ref s), .val (.int (0 : Int32)), .val (.int (2 : Int32)), .val (.null), .val (.ref t)]) rfl ?_
      refine Go.aloadN 42 rfl d2_41 rfl rfl ?_
      refine Go.aload 44 rfl d2_42 rfl rfl ?_
      refine Go.iloadN 45 rfl d2_44 rfl ?_
      refine Go.callS 48 rfl (C := B6) [.ref t, .int (2 : Int32)] (rest := [.ref a]) 24 25 18 26 (c6 Z hw h4 t [.int (nar .byte x0.toInt8.toInt32), .int (nar .byte x1.toInt8.toInt32)] A8 rfl) d2_45 rfl rfl rfl rfl (by decide) pd6 rfl rfl rfl (W := 1) (Nat.le_of_ble_eq_true rfl) (by decide) (by decide) (by decide) (by decide) fun v10 h11 q12 => ?_
      obtain ⟨rfl, rfl⟩ := q12
      have F13 : Fld Z h4 a "java/lang/String" "coder" "B" (.int (0 : Int32)) := (hC.keep K7 nin0)
      have F14 : Exa Z h4 a "java/lang/String" := (hE.keep K7)
      refine Go.putF 51 rfl (v' := .int (0 : Int32)) (ty := .byte) 27 28 3 d2_48 rfl F13 F14 (Or.inr ⟨rfl, rfl, rfl⟩) rfl (by decide) rfl rfl hge fun h15 K16 W17 F18 => ?_
      refine Go.aloadN 52 rfl d2_51 rfl rfl ?_
      refine Go.aload 54 rfl d2_52 rfl rfl ?_
      have F19 : Fld Z h15 a "java/lang/String" "value" "[B" (.null) := (Fld.oth hw (hV.keep K7 nin0) W17 30 28 (Or.inr rfl) (Or.inr rfl) (by decide) rfl rfl)
      have F20 : Exa Z h15 a "java/lang/String" := (F14.keep K16)
      refine Go.putF 57 rfl (v' := .ref t) (ty := (.array .byte)) 29 30 3 d2_54 rfl F19 F20 (Or.inr ⟨rfl, rfl, rfl⟩) rfl (by decide) rfl rfl hge fun h21 K22 W23 F24 => ?_
      have F25 : Fld Z h21 a "java/lang/String" "coder" "B" (.int (0 : Int32)) := (Fld.oth hw F18 W23 28 30 (Or.inr rfl) (Or.inr rfl) (by decide) rfl rfl)
      have ne26 : t ≠ a := (show @Ne Nat t a from by have := ltN hE.lt; have := g6; omega)
      have F27 : Ary Z h21 t .byte [.int (nar .byte x0.toInt8.toInt32), .int (nar .byte x1.toInt8.toInt32)] := ((A8.keep K16 (ninS ne26 nin0)).keep K22 (ninS ne26 nin0))
      exact Go.retV d2_57 rfl (by decide) (by decide) ⟨rfl, t, g6, ((((Keep.refl h0 [a]).trans K7 all0).trans K16 (by simp)).trans K22 (by simp)), F24, F25, F27⟩
  · exact absurd b1 (by decide)
theorem d1_0 : decode jdk_42_method_3_code 0 = .ok (.aload_n 0, 1) := by decide +kernel
theorem d1_1 : decode jdk_42_method_3_code 1 = .ok (.aload_n 1, 1) := by decide +kernel
theorem d1_2 : decode jdk_42_method_3_code 2 = .ok (.iconst 0, 1) := by decide +kernel
theorem d1_3 : decode jdk_42_method_3_code 3 = .ok (.aload_n 1, 1) := by decide +kernel
theorem d1_4 : decode jdk_42_method_3_code 4 = .ok (.arraylength, 1) := by decide +kernel
theorem d1_5 : decode jdk_42_method_3_code 5 = .ok (.aconst_null, 1) := by decide +kernel
theorem d1_6 : decode jdk_42_method_3_code 6 = .ok (.invokespecial 27, 3) := by decide +kernel
theorem d1_9 : decode jdk_42_method_3_code 9 = .ok (.return_, 1) := by decide +kernel
theorem pd1 : parseMethodDescriptor "([C)V" = some ⟨[(.array .char)], none⟩ := by decide +kernel
theorem pn1 : plainName "java/lang/String" = true := by first | (simp [plainName, overriddenIn]; done) | decide +kernel
abbrev B1 : Bd := ((⟨"java/lang/String", "<init>", "([C)V"⟩ : MethodName), jdk_42_method_3_code, 2, none, ({ frames := 3, cells := 1, slots := 2, locals := 52 } : Room), tables_1)
theorem ef1 (m : MethodId) (a : Addr) (s : Addr) : entryFrame m (List.toArray [.ref a, .ref s]) 2 = mkF m 0 #[.val (.ref a), .val (.ref s)] [] := by first | (simp [entryFrame, mkF, argsToLocals, Value.category]; done) | rfl
def Q1 (Z : State) (a : Addr) (x0 : Int32) (x1 : Int32) (h0 : Heap) (v : Option Value) (h : Heap) : Prop := v = none ∧ ∃ t, h0.size ≤ t ∧ Keep h0 h [a] ∧ Fld Z h a "java/lang/String" "value" "[B" (.ref t) ∧ Fld Z h a "java/lang/String" "coder" "B" (.int 0) ∧ Ary Z h t .byte [.int (nar .byte x0.toInt8.toInt32), .int (nar .byte x1.toInt8.toInt32)]
set_option maxRecDepth 65536 in
set_option maxHeartbeats 40000000 in
theorem c1 (Z : State) (hw : Wd Z tables_1) (h0 : Heap) (a : Addr) (s : Addr) (x0 : Int32) (x1 : Int32) (cs : Int32) (hS : Sta Z Z.heap "java/lang/String" "COMPACT_STRINGS" "Z" (.int cs)) (hcs : ¬ cs = 0) (hge : Z.heap.size ≤ a) (hE : Exa Z h0 a "java/lang/String") (hV : Fld Z h0 a "java/lang/String" "value" "[B" .null) (hC : Fld Z h0 a "java/lang/String" "coder" "B" (.int 0)) (hA : Ary Z h0 s .char [.int x0, .int x1]) (hx0 : ¬ (255 : Int32) < x0) (hx1 : ¬ (255 : Int32) < x1) : Con Z B1 (List.toArray [.ref a, .ref s]) h0 (Q1 Z a x0 x1 h0) := by
  refine Con.mk hw pn1 (fun m => ef1 m a s) (Go.old fun hle' => ?_)
  have hle := hle'.1
  refine Go.aloadN 1 rfl d1_0 rfl rfl ?_
  refine Go.aloadN 2 rfl d1_1 rfl rfl ?_
  refine Go.iconst 3 rfl (0 : Int32) d1_2 rfl ?_
  refine Go.aloadN 4 rfl d1_3 rfl rfl ?_
  refine Go.alen 5 rfl (2 : Int32) d1_4 hA rfl ?_
  refine Go.aconstNull 6 rfl d1_5 ?_
  refine Go.callI 9 rfl (C := B2) a [.ref s, .int (0 : Int32), .int (2 : Int32), .null] (rest := []) 8 9 4 11 (c2 Z hw h0 a s x0 x1 cs hS hcs hge hE hV hC hA hx0 hx1) d1_6 rfl rfl rfl rfl rfl rfl (by decide) pd2 rfl rfl rfl (W := 0) (Nat.le_of_ble_eq_true rfl) (by decide) (by decide) (by decide) (by decide) fun v1 h2 q3 => ?_
  obtain ⟨rfl, t, g4, K5, F6, F7, A8⟩ := q3
  exact Go.retV d1_9 rfl (by decide) (by decide) ⟨rfl, t, g4, K5, F6, F7, A8⟩
theorem d7_0 : decode prog_10_method_1_code 0 = .ok (.aload_n 0, 1) := by decide +kernel
theorem d7_1 : decode prog_10_method_1_code 1 = .ok (.invokespecial 1, 3) := by decide +kernel
theorem d7_4 : decode prog_10_method_1_code 4 = .ok (.aload_n 0, 1) := by decide +kernel
theorem d7_5 : decode prog_10_method_1_code 5 = .ok (.aload_n 1, 1) := by decide +kernel
theorem d7_6 : decode prog_10_method_1_code 6 = .ok (.putfield 7, 3) := by decide +kernel
theorem d7_9 : decode prog_10_method_1_code 9 = .ok (.aload_n 0, 1) := by decide +kernel
theorem d7_10 : decode prog_10_method_1_code 10 = .ok (.aload_n 2, 1) := by decide +kernel
theorem d7_11 : decode prog_10_method_1_code 11 = .ok (.putfield 13, 3) := by decide +kernel
theorem d7_14 : decode prog_10_method_1_code 14 = .ok (.aload_n 0, 1) := by decide +kernel
theorem d7_15 : decode prog_10_method_1_code 15 = .ok (.iload_n 3, 1) := by decide +kernel
theorem d7_16 : decode prog_10_method_1_code 16 = .ok (.putfield 17, 3) := by decide +kernel
theorem d7_19 : decode prog_10_method_1_code 19 = .ok (.aload_n 0, 1) := by decide +kernel
theorem d7_20 : decode prog_10_method_1_code 20 = .ok (.iload_n 3, 1) := by decide +kernel
theorem d7_21 : decode prog_10_method_1_code 21 = .ok (.iload 4, 2) := by decide +kernel
theorem d7_23 : decode prog_10_method_1_code 23 = .ok (.iadd, 1) := by decide +kernel
theorem d7_24 : decode prog_10_method_1_code 24 = .ok (.putfield 21, 3) := by decide +kernel
theorem d7_27 : decode prog_10_method_1_code 27 = .ok (.return_, 1) := by decide +kernel
theorem pd7 : parseMethodDescriptor "(Ljava/lang/String;[BII)V" = some ⟨[(.object "java/lang/String"), (.array .byte), .int, .int], none⟩ := by decide +kernel
theorem pn7 : plainName "com/example/albatross/albatross/compression/InputBytes" = true := by first | (simp [plainName, overriddenIn]; done) | decide +kernel
abbrev B7 : Bd := ((⟨"com/example/albatross/albatross/compression/InputBytes", "<init>", "(Ljava/lang/String;[BII)V"⟩ : MethodName), prog_10_method_1_code, 5, none, ({ frames := 1, cells := 0, slots := 0, locals := 12 } : Room), tables_1)
theorem ef7 (m : MethodId) (a : Addr) (f : Addr) (y : Addr) (o : Int32) (l : Int32) : entryFrame m (List.toArray [.ref a, .ref f, .ref y, .int o, .int l]) 5 = mkF m 0 #[.val (.ref a), .val (.ref f), .val (.ref y), .val (.int o), .val (.int l)] [] := by first | (simp [entryFrame, mkF, argsToLocals, Value.category]; done) | rfl
def Q7 (Z : State) (a : Addr) (y : Addr) (o : Int32) (l : Int32) (h0 : Heap) (v : Option Value) (h : Heap) : Prop := v = none ∧ Keep h0 h [a] ∧ Fld Z h a "com/example/albatross/albatross/compression/InputBytes" "bytes" "[B" (.ref y) ∧ Fld Z h a "com/example/albatross/albatross/compression/InputBytes" "at" "I" (.int o) ∧ Fld Z h a "com/example/albatross/albatross/compression/InputBytes" "end" "I" (.int (o + l))
set_option maxRecDepth 65536 in
set_option maxHeartbeats 40000000 in
theorem c7 (Z : State) (hw : Wd Z tables_1) (h0 : Heap) (a : Addr) (f : Addr) (y : Addr) (o : Int32) (l : Int32)  (hge : Z.heap.size ≤ a) (hE : Exa Z h0 a "com/example/albatross/albatross/compression/InputBytes") (hF : Fld Z h0 a "com/example/albatross/albatross/compression/InputBytes" "format" "Ljava/lang/String;" .null) (hY : Fld Z h0 a "com/example/albatross/albatross/compression/InputBytes" "bytes" "[B" .null) (hA : Fld Z h0 a "com/example/albatross/albatross/compression/InputBytes" "at" "I" (.int 0)) (hN : Fld Z h0 a "com/example/albatross/albatross/compression/InputBytes" "end" "I" (.int 0)) : Con Z B7 (List.toArray [.ref a, .ref f, .ref y, .int o, .int l]) h0 (Q7 Z a y o l h0) := by
  refine Con.mk hw pn7 (fun m => ef7 m a f y o l) (Go.old fun hle' => ?_)
  have hle := hle'.1
  refine Go.aloadN 1 rfl d7_0 rfl rfl ?_
  refine Go.initO 4 rfl 37 13 14 d7_1 rfl rfl rfl rfl (by decide) (W := 0) (Nat.le_of_ble_eq_true rfl) (by decide) ?_
  refine Go.aloadN 5 rfl d7_4 rfl rfl ?_
  refine Go.aloadN 6 rfl d7_5 rfl rfl ?_
  refine Go.putF 9 rfl (v' := .ref f) (ty := (.object "java/lang/String")) 38 39 32 d7_6 rfl hF hE (Or.inr ⟨rfl, rfl, rfl⟩) rfl (by decide) rfl rfl hge fun h1 K2 W3 F4 => ?_
  refine Go.aloadN 10 rfl d7_9 rfl rfl ?_
  refine Go.aloadN 11 rfl d7_10 rfl rfl ?_
  have F5 : Fld Z h1 a "com/example/albatross/albatross/compression/InputBytes" "bytes" "[B" (.null) := (Fld.oth hw hY W3 41 39 (Or.inr rfl) (Or.inr rfl) (by decide) rfl rfl)
  have F6 : Exa Z h1 a "com/example/albatross/albatross/compression/InputBytes" := (hE.keep K2)
  refine Go.putF 14 rfl (v' := .ref y) (ty := (.array .byte)) 40 41 32 d7_11 rfl F5 F6 (Or.inr ⟨rfl, rfl, rfl⟩) rfl (by decide) rfl rfl hge fun h7 K8 W9 F10 => ?_
  refine Go.aloadN 15 rfl d7_14 rfl rfl ?_
  refine Go.iloadN 16 rfl d7_15 rfl ?_
  have F11 : Fld Z h7 a "com/example/albatross/albatross/compression/InputBytes" "at" "I" (.int (0 : Int32)) := (Fld.oth hw (Fld.oth hw hA W3 43 39 (Or.inl rfl) (Or.inr rfl) (by decide) rfl rfl) W9 43 41 (Or.inl rfl) (Or.inr rfl) (by decide) rfl rfl)
  have F12 : Exa Z h7 a "com/example/albatross/albatross/compression/InputBytes" := (F6.keep K8)
  refine Go.putF 19 rfl (v' := .int o) (ty := .int) 42 43 32 d7_16 rfl F11 F12 (Or.inl rfl) rfl (by decide) rfl rfl hge fun h13 K14 W15 F16 => ?_
  refine Go.aloadN 20 rfl d7_19 rfl rfl ?_
  refine Go.iloadN 21 rfl d7_20 rfl ?_
  refine Go.iload 23 rfl d7_21 rfl ?_
  refine Go.iadd 24 rfl d7_23 ?_
  have F17 : Fld Z h13 a "com/example/albatross/albatross/compression/InputBytes" "end" "I" (.int (0 : Int32)) := (Fld.oth hw (Fld.oth hw (Fld.oth hw hN W3 45 39 (Or.inr rfl) (Or.inr rfl) (by decide) rfl rfl) W9 45 41 (Or.inr rfl) (Or.inr rfl) (by decide) rfl rfl) W15 45 43 (Or.inr rfl) (Or.inl rfl) (by decide) rfl rfl)
  have F18 : Exa Z h13 a "com/example/albatross/albatross/compression/InputBytes" := (F12.keep K14)
  refine Go.putF 27 rfl (v' := .int (o + l)) (ty := .int) 44 45 32 d7_24 rfl F17 F18 (Or.inr ⟨rfl, rfl, rfl⟩) rfl (by decide) rfl rfl hge fun h19 K20 W21 F22 => ?_
  have F23 : Fld Z h19 a "com/example/albatross/albatross/compression/InputBytes" "bytes" "[B" (.ref y) := (Fld.oth hw (Fld.oth hw F10 W15 41 43 (Or.inr rfl) (Or.inl rfl) (by decide) rfl rfl) W21 41 45 (Or.inr rfl) (Or.inr rfl) (by decide) rfl rfl)
  have F24 : Fld Z h19 a "com/example/albatross/albatross/compression/InputBytes" "at" "I" (.int o) := (Fld.oth hw F16 W21 43 45 (Or.inl rfl) (Or.inr rfl) (by decide) rfl rfl)
  exact Go.retV d7_27 rfl (by decide) (by decide) ⟨rfl, (((((Keep.refl h0 [a]).trans K2 (by simp)).trans K8 (by simp)).trans K14 (by simp)).trans K20 (by simp)), F23, F24, F22⟩
theorem d8_0 : decode prog_10_method_5_code 0 = .ok (.lload_n 1, 1) := by decide +kernel
theorem d8_1 : decode prog_10_method_5_code 1 = .ok (.lconst 0, 1) := by decide +kernel
theorem d8_2 : decode prog_10_method_5_code 2 = .ok (.lcmp, 1) := by decide +kernel
theorem d8_3 : decode prog_10_method_5_code 3 = .ok (.ifCond .lt 18, 3) := by decide +kernel
theorem d8_6 : decode prog_10_method_5_code 6 = .ok (.lload_n 1, 1) := by decide +kernel
theorem d8_7 : decode prog_10_method_5_code 7 = .ok (.aload_n 0, 1) := by decide +kernel
theorem d8_8 : decode prog_10_method_5_code 8 = .ok (.getfield 21, 3) := by decide +kernel
theorem d8_11 : decode prog_10_method_5_code 11 = .ok (.aload_n 0, 1) := by decide +kernel
theorem d8_12 : decode prog_10_method_5_code 12 = .ok (.getfield 17, 3) := by decide +kernel
theorem d8_15 : decode prog_10_method_5_code 15 = .ok (.isub, 1) := by decide +kernel
theorem d8_16 : decode prog_10_method_5_code 16 = .ok (.i2l, 1) := by decide +kernel
theorem d8_17 : decode prog_10_method_5_code 17 = .ok (.lcmp, 1) := by decide +kernel
theorem d8_18 : decode prog_10_method_5_code 18 = .ok (.ifCond .le 25, 3) := by decide +kernel
theorem d8_43 : decode prog_10_method_5_code 43 = .ok (.return_, 1) := by decide +kernel
theorem pd8 : parseMethodDescriptor "(J)V" = some ⟨[.long], none⟩ := by decide +kernel
theorem pn8 : plainName "com/example/albatross/albatross/compression/InputBytes" = true := by first | (simp [plainName, overriddenIn]; done) | decide +kernel
abbrev B8 : Bd := ((⟨"com/example/albatross/albatross/compression/InputBytes", "need", "(J)V"⟩ : MethodName), prog_10_method_5_code, 3, none, ({ frames := 0, cells := 0, slots := 0, locals := 0 } : Room), tables_1)
theorem ef8 (m : MethodId) (a : Addr) (q : Int64) : entryFrame m (List.toArray [.ref a, .long q]) 3 = mkF m 0 #[.val (.ref a), .val (.long q), .second] [] := by first | (simp [entryFrame, mkF, argsToLocals, Value.category]; done) | rfl
def Q8 (h0 : Heap) (v : Option Value) (h : Heap) : Prop := v = none ∧ h0 = h
set_option maxRecDepth 65536 in
set_option maxHeartbeats 40000000 in
theorem c8 (Z : State) (hw : Wd Z tables_1) (h0 : Heap) (a : Addr) (q : Int64)  (o : Int32) (en : Int32) (hA : Fld Z h0 a "com/example/albatross/albatross/compression/InputBytes" "at" "I" (.int o)) (hN : Fld Z h0 a "com/example/albatross/albatross/compression/InputBytes" "end" "I" (.int en)) (h0q : ¬ q < 0) (hle2 : ¬ (en - o).toInt64 < q) : Con Z B8 (List.toArray [.ref a, .long q]) h0 (Q8 h0) := by
  refine Con.mk hw pn8 (fun m => ef8 m a q) (Go.old fun hle' => ?_)
  have hle := hle'.1
  refine Go.lloadN 1 rfl d8_0 rfl ?_
  refine Go.lconst 2 rfl (0 : Int64) d8_1 rfl ?_
  refine Go.lcmp 3 rfl d8_2 ?_
  refine Go.if_lt 21 6 d8_3 (by decide) rfl rfl (fun (b1 : (XT.cmpL q (0 : Int64)) < 0) => ?_) (fun (b1 : ¬ (XT.cmpL q (0 : Int64)) < 0) => ?_)
  · exact absurd b1 (own_ge h0q)
  · refine Go.lloadN 7 rfl d8_6 rfl ?_
    refine Go.aloadN 8 rfl d8_7 rfl rfl ?_
    refine Go.getF 11 rfl (v := .int en) 44 d8_8 rfl hN ?_
    refine Go.aloadN 12 rfl d8_11 rfl rfl ?_
    refine Go.getF 15 rfl (v := .int o) 42 d8_12 rfl hA ?_
    refine Go.isub 16 rfl d8_15 ?_
    refine Go.i2l 17 rfl d8_16 ?_
    refine Go.lcmp 18 rfl d8_17 ?_
    refine Go.if_le 43 21 d8_18 (by decide) rfl rfl (fun (b2 : ¬ 0 < (XT.cmpL q ((en - o).toInt64))) => ?_) (fun (b2 : 0 < (XT.cmpL q ((en - o).toInt64))) => ?_)
    · exact Go.retV d8_43 rfl (by decide) (by decide) ⟨rfl, rfl⟩
    · exact absurd b2 (own_le hle2)
theorem d9_0 : decode prog_10_method_3_code 0 = .ok (.aload_n 0, 1) := by decide +kernel
theorem d9_1 : decode prog_10_method_3_code 1 = .ok (.getfield 17, 3) := by decide +kernel
theorem d9_4 : decode prog_10_method_3_code 4 = .ok (.ireturn, 1) := by decide +kernel
theorem pd9 : parseMethodDescriptor "()I" = some ⟨[], some .int⟩ := by decide +kernel
theorem pn9 : plainName "com/example/albatross/albatross/compression/InputBytes" = true := by first | (simp [plainName, overriddenIn]; done) | decide +kernel
abbrev B9 : Bd := ((⟨"com/example/albatross/albatross/compression/InputBytes", "position", "()I"⟩ : MethodName), prog_10_method_3_code, 1, (some .int), ({ frames := 0, cells := 0, slots := 0, locals := 0 } : Room), tables_1)
theorem ef9 (m : MethodId) (a : Addr) : entryFrame m (List.toArray [.ref a]) 1 = mkF m 0 #[.val (.ref a)] [] := by first | (simp [entryFrame, mkF, argsToLocals, Value.category]; done) | rfl
def Q9 (o : Int32) (h0 : Heap) (v : Option Value) (h : Heap) : Prop := v = some (.int o) ∧ h0 = h
set_option maxRecDepth 65536 in
set_option maxHeartbeats 40000000 in
theorem c9 (Z : State) (hw : Wd Z tables_1) (h0 : Heap) (a : Addr) (o : Int32) (hA : Fld Z h0 a "com/example/albatross/albatross/compression/InputBytes" "at" "I" (.int o)) : Con Z B9 (List.toArray [.ref a]) h0 (Q9 o h0) := by
  refine Con.mk hw pn9 (fun m => ef9 m a) (Go.old fun hle' => ?_)
  have hle := hle'.1
  refine Go.aloadN 1 rfl d9_0 rfl rfl ?_
  refine Go.getF 4 rfl (v := .int o) 42 d9_1 rfl hA ?_
  exact Go.retI d9_4 rfl (by decide) (by decide) ⟨rfl, rfl⟩
theorem d10_0 : decode prog_10_method_4_code 0 = .ok (.aload_n 0, 1) := by decide +kernel
theorem d10_1 : decode prog_10_method_4_code 1 = .ok (.getfield 21, 3) := by decide +kernel
theorem d10_4 : decode prog_10_method_4_code 4 = .ok (.aload_n 0, 1) := by decide +kernel
theorem d10_5 : decode prog_10_method_4_code 5 = .ok (.getfield 17, 3) := by decide +kernel
theorem d10_8 : decode prog_10_method_4_code 8 = .ok (.isub, 1) := by decide +kernel
theorem d10_9 : decode prog_10_method_4_code 9 = .ok (.ireturn, 1) := by decide +kernel
theorem pd10 : parseMethodDescriptor "()I" = some ⟨[], some .int⟩ := by decide +kernel
theorem pn10 : plainName "com/example/albatross/albatross/compression/InputBytes" = true := by first | (simp [plainName, overriddenIn]; done) | decide +kernel
abbrev B10 : Bd := ((⟨"com/example/albatross/albatross/compression/InputBytes", "remaining", "()I"⟩ : MethodName), prog_10_method_4_code, 1, (some .int), ({ frames := 0, cells := 0, slots := 0, locals := 0 } : Room), tables_1)
theorem ef10 (m : MethodId) (a : Addr) : entryFrame m (List.toArray [.ref a]) 1 = mkF m 0 #[.val (.ref a)] [] := by first | (simp [entryFrame, mkF, argsToLocals, Value.category]; done) | rfl
def Q10 (o : Int32) (en : Int32) (h0 : Heap) (v : Option Value) (h : Heap) : Prop := v = some (.int (en - o)) ∧ h0 = h
set_option maxRecDepth 65536 in
set_option maxHeartbeats 40000000 in
theorem c10 (Z : State) (hw : Wd Z tables_1) (h0 : Heap) (a : Addr) (o : Int32) (en : Int32) (hA : Fld Z h0 a "com/example/albatross/albatross/compression/InputBytes" "at" "I" (.int o)) (hN : Fld Z h0 a "com/example/albatross/albatross/compression/InputBytes" "end" "I" (.int en)) : Con Z B10 (List.toArray [.ref a]) h0 (Q10 o en h0) := by
  refine Con.mk hw pn10 (fun m => ef10 m a) (Go.old fun hle' => ?_)
  have hle := hle'.1
  refine Go.aloadN 1 rfl d10_0 rfl rfl ?_
  refine Go.getF 4 rfl (v := .int en) 44 d10_1 rfl hN ?_
  refine Go.aloadN 5 rfl d10_4 rfl rfl ?_
  refine Go.getF 8 rfl (v := .int o) 42 d10_5 rfl hA ?_
  refine Go.isub 9 rfl d10_8 ?_
  exact Go.retI d10_9 rfl (by decide) (by decide) ⟨rfl, rfl⟩
theorem d11_0 : decode prog_10_method_2_code 0 = .ok (.aload_n 0, 1) := by decide +kernel
theorem d11_1 : decode prog_10_method_2_code 1 = .ok (.getfield 13, 3) := by decide +kernel
theorem d11_4 : decode prog_10_method_2_code 4 = .ok (.areturn, 1) := by decide +kernel
theorem pd11 : parseMethodDescriptor "()[B" = some ⟨[], some (.array .byte)⟩ := by decide +kernel
theorem pn11 : plainName "com/example/albatross/albatross/compression/InputBytes" = true := by first | (simp [plainName, overriddenIn]; done) | decide +kernel
abbrev B11 : Bd := ((⟨"com/example/albatross/albatross/compression/InputBytes", "array", "()[B"⟩ : MethodName), prog_10_method_2_code, 1, (some (.array .byte)), ({ frames := 0, cells := 0, slots := 0, locals := 0 } : Room), tables_1)
theorem ef11 (m : MethodId) (a : Addr) : entryFrame m (List.toArray [.ref a]) 1 = mkF m 0 #[.val (.ref a)] [] := by first | (simp [entryFrame, mkF, argsToLocals, Value.category]; done) | rfl
def Q11 (y : Addr) (h0 : Heap) (v : Option Value) (h : Heap) : Prop := v = some (.ref y) ∧ h0 = h
set_option maxRecDepth 65536 in
set_option maxHeartbeats 40000000 in
theorem c11 (Z : State) (hw : Wd Z tables_1) (h0 : Heap) (a : Addr) (y : Addr) (hY : Fld Z h0 a "com/example/albatross/albatross/compression/InputBytes" "bytes" "[B" (.ref y)) : Con Z B11 (List.toArray [.ref a]) h0 (Q11 y h0) := by
  refine Con.mk hw pn11 (fun m => ef11 m a) (Go.old fun hle' => ?_)
  have hle := hle'.1
  refine Go.aloadN 1 rfl d11_0 rfl rfl ?_
  refine Go.getF 4 rfl (v := .ref y) 40 d11_1 rfl hY ?_
  exact Go.retA d11_4 rfl rfl rfl (by decide) (by decide) ⟨rfl, rfl⟩
theorem pn0 : plainName "com/example/albatross/albatross/compression/InputBytesNeedPinLaw" = true := by first | (simp [plainName, overriddenIn]; done) | decide +kernel
abbrev B0 : Bd := (x, code, maxLocals, ret, room_1, tables_1)
theorem ef0 (m : MethodId) (p1 : Int32) (p2 : Int32) (p3 : Int64) (p4 : Int32) : entryFrame m (List.toArray [.int p1, .int p2, .long p3, .int p4]) maxLocals = mkF m 0 #[.val (.int p1), .val (.int p2), .val (.long p3), .second, .val (.int p4), .unset, .unset, .unset, .unset, .unset, .unset, .unset, .unset] [] := by first | (simp [entryFrame, mkF, argsToLocals, Value.category, maxLocals]; done) | rfl
def Q0  (v : Option Value) (h : Heap) : Prop := v = some (.int 1)
set_option maxRecDepth 65536 in
set_option maxHeartbeats 40000000 in
theorem c0 (Z : State) (hw : Wd Z tables_1) (h0 : Heap) (p1 : Int32) (p2 : Int32) (p3 : Int64) (p4 : Int32)  (cs : Int32) (hS : Sta Z Z.heap "java/lang/String" "COMPACT_STRINGS" "Z" (.int cs)) (hcs : ¬ cs = 0) : Con Z B0 (List.toArray [.int p1, .int p2, .long p3, .int p4]) h0 (Q0 ) := by
  refine Con.mk hw pn0 (fun m => ef0 m p1 p2 p3 p4) (Go.old fun hle' => ?_)
  have hle := hle'.1
  refine Go.iloadN 1 rfl at_0 rfl ?_
  refine Go.ldcI 3 rfl (v := (2147483647 : Int32)) 0 at_1 rfl ?_
  refine Go.iand 4 rfl at_3 ?_
  refine Go.nameI fun v1 hv1 => ?_
  refine Go.istore 6 rfl at_4 (Ls' := #[.val (.int p1), .val (.int p2), .val (.long p3), .second, .val (.int p4), .val (.int v1), .unset, .unset, .unset, .unset, .unset, .unset, .unset]) rfl ?_
  refine Go.iconst 7 rfl (2 : Int32) at_6 rfl ?_
  refine Go.newA 9 rfl 1 2 2 at_7 rfl rfl (by decide) (by decide) (by decide) (by decide) fun h3 a2 g4 z5 K6 A7 E8 => ?_
  have A9 : Ary Z h3 a2 .char [.int 0, .int 0] := A7
  refine Go.astore 11 rfl at_9 rfl (Ls' := #[.val (.int p1), .val (.int p2), .val (.long p3), .second, .val (.int p4), .val (.int v1), .val (.ref a2), .unset, .unset, .unset, .unset, .unset, .unset]) rfl ?_
  refine Go.aload 13 rfl at_11 rfl rfl ?_
  refine Go.iconst 14 rfl (0 : Int32) at_13 rfl ?_
  refine Go.iload 16 rfl at_14 rfl ?_
  refine Go.bipush 18 rfl (8 : Int32) at_16 rfl ?_
  refine Go.iushr 19 rfl at_18 ?_
  refine Go.sipush 22 rfl (255 : Int32) at_19 rfl ?_
  refine Go.iand 23 rfl at_22 ?_
  refine Go.i2c 24 rfl at_23 ?_
  refine Go.nameI fun v10 hv10 => ?_
  refine Go.stC 25 rfl at_24 A9 0 rfl (Nat.le_of_ble_eq_true rfl) z5 fun h11 K12 A13 => ?_
  have A14 : Ary Z h11 a2 .char [.int (nar .char v10), .int 0] := A13
  refine Go.aload 27 rfl at_25 rfl rfl ?_
  refine Go.iconst 28 rfl (1 : Int32) at_27 rfl ?_
  refine Go.iload 30 rfl at_28 rfl ?_
  refine Go.bipush 32 rfl (16 : Int32) at_30 rfl ?_
  refine Go.iushr 33 rfl at_32 ?_
  refine Go.sipush 36 rfl (255 : Int32) at_33 rfl ?_
  refine Go.iand 37 rfl at_36 ?_
  refine Go.i2c 38 rfl at_37 ?_
  refine Go.nameI fun v15 hv15 => ?_
  refine Go.stC 39 rfl at_38 A14 1 rfl (Nat.le_of_ble_eq_true rfl) z5 fun h16 K17 A18 => ?_
  have A19 : Ary Z h16 a2 .char [.int (nar .char v10), .int (nar .char v15)] := A18
  have hy0 := own_c hv10
  have hy1 := own_c hv15
  refine Go.newO 42 rfl 2 3 4 at_39 rfl rfl rfl (by decide) (by decide) fun h21 a20 g22 z23 K24 E25 D26 => ?_
  refine Go.dup 43 rfl at_42 rfl ?_
  refine Go.aload 45 rfl at_43 rfl rfl ?_
  have F27 : Ary Z h21 a2 .char [.int (nar .char v10), .int (nar .char v15)] := (A19.keep K24 nin0)
  refine Go.callI 48 rfl (C := B1) a20 [.ref a2] (rest := [.ref a20]) 5 6 4 7 (c1 Z hw h21 a20 a2 (nar .char v10) (nar .char v15) cs hS hcs z23 E25 (D26 30 (Or.inr rfl) (ty := (.array .byte)) (by decide) : Fld Z h21 a20 "java/lang/String" "value" "[B" (.null)) (D26 28 (Or.inr rfl) (ty := .byte) (by decide) : Fld Z h21 a20 "java/lang/String" "coder" "B" (.int (0 : Int32))) F27 hy0 hy1) at_45 rfl rfl rfl rfl rfl rfl (by decide) pd1 rfl rfl rfl (W := 1) (Nat.le_of_ble_eq_true rfl) (by decide) (by decide) (by decide) (by decide) fun v28 h29 q30 => ?_
  obtain ⟨rfl, t31, g32, K33, F34, F35, A36⟩ := q30
  have z37 : Z.heap.size ≤ t31 := Nat.le_trans (Nat.le_trans (Nat.le_trans (Nat.le_trans (Nat.le_trans hle K6.1) K12.1) K17.1) K24.1) g32
  refine Go.astore 50 rfl at_48 rfl (Ls' := #[.val (.int p1), .val (.int p2), .val (.long p3), .second, .val (.int p4), .val (.int v1), .val (.ref a2), .val (.ref a20), .unset, .unset, .unset, .unset, .unset]) rfl ?_
  refine Go.iconst 51 rfl (4 : Int32) at_50 rfl ?_
  refine Go.newA 53 rfl 20 4 4 at_51 rfl rfl (by decide) (by decide) (by decide) (by decide) fun h39 a38 g40 z41 K42 A43 E44 => ?_
  have A45 : Ary Z h39 a38 .byte [.int 0, .int 0, .int 0, .int 0] := A43
  refine Go.astore 55 rfl at_53 rfl (Ls' := #[.val (.int p1), .val (.int p2), .val (.long p3), .second, .val (.int p4), .val (.int v1), .val (.ref a2), .val (.ref a20), .val (.ref a38), .unset, .unset, .unset, .unset]) rfl ?_
  refine Go.newO 58 rfl 31 32 33 at_55 rfl rfl rfl (by decide) (by decide) fun h47 a46 g48 z49 K50 E51 D52 => ?_
  refine Go.dup 59 rfl at_58 rfl ?_
  refine Go.aload 61 rfl at_59 rfl rfl ?_
  refine Go.aload 63 rfl at_61 rfl rfl ?_
  refine Go.iloadN 64 rfl at_63 rfl ?_
  refine Go.iload 66 rfl at_64 rfl ?_
  refine Go.callI 69 rfl (C := B7) a46 [.ref a20, .ref a38, .int p1, .int v1] (rest := [.ref a46]) 34 35 33 36 (c7 Z hw h47 a46 a20 a38 p1 v1 z49 E51 (D52 39 (Or.inr rfl) (ty := (.object "java/lang/String")) (by decide) : Fld Z h47 a46 "com/example/albatross/albatross/compression/InputBytes" "format" "Ljava/lang/String;" (.null)) (D52 41 (Or.inr rfl) (ty := (.array .byte)) (by decide) : Fld Z h47 a46 "com/example/albatross/albatross/compression/InputBytes" "bytes" "[B" (.null)) (D52 43 (Or.inl rfl) (ty := .int) (by decide) : Fld Z h47 a46 "com/example/albatross/albatross/compression/InputBytes" "at" "I" (.int (0 : Int32))) (D52 45 (Or.inr rfl) (ty := .int) (by decide) : Fld Z h47 a46 "com/example/albatross/albatross/compression/InputBytes" "end" "I" (.int (0 : Int32)))) at_66 rfl rfl rfl rfl rfl rfl (by decide) pd7 rfl rfl rfl (W := 1) (Nat.le_of_ble_eq_true rfl) (by decide) (by decide) (by decide) (by decide) fun v53 h54 q55 => ?_
  obtain ⟨rfl, K56, F57, F58, F59⟩ := q55
  refine Go.astore 71 rfl at_69 rfl (Ls' := #[.val (.int p1), .val (.int p2), .val (.long p3), .second, .val (.int p4), .val (.int v1), .val (.ref a2), .val (.ref a20), .val (.ref a38), .val (.ref a46), .unset, .unset, .unset]) rfl ?_
  refine Go.iload 73 rfl at_71 rfl ?_
  refine Go.iconst 74 rfl (3 : Int32) at_73 rfl ?_
  refine Go.iand 75 rfl at_74 ?_
  refine Go.nameI fun v60 hv60 => ?_
  refine Go.istore 77 rfl at_75 (Ls' := #[.val (.int p1), .val (.int p2), .val (.long p3), .second, .val (.int p4), .val (.int v1), .val (.ref a2), .val (.ref a20), .val (.ref a38), .val (.ref a46), .val (.int v60), .unset, .unset]) rfl ?_
  refine Go.iload 79 rfl at_77 rfl ?_
  have F61 : Exa Z h54 a46 "com/example/albatross/albatross/compression/InputBytes" := (E51.keep K56)
  refine cut (∀ ct : Int64, (0 ≤ ct.toInt ∧ ct.toInt ≤ v1.toInt) → Go Q0 Z B0 5 16 h54 115 #[.val (.int p1), .val (.int p2), .val (.long p3), .second, .val (.int p4), .val (.int v1), .val (.ref a2), .val (.ref a20), .val (.ref a38), .val (.ref a46), .val (.int v60), .val (.long ct), .second] []) (fun J => ?_) (fun ct hct => ?_)
  · refine Go.if_ne 88 82 at_79 (by decide) rfl rfl (fun (b62 : ¬ v60 = 0) => ?_) (fun (b62 : v60 = 0) => ?_)
    · refine Go.iload 90 rfl at_88 rfl ?_
      refine Go.iconst 91 rfl (1 : Int32) at_90 rfl ?_
      refine Go.icmp_ne 102 94 at_91 (by decide) rfl rfl (fun (b63 : ¬ v60 = (1 : Int32)) => ?_) (fun (b63 : v60 = (1 : Int32)) => ?_)
      · refine Go.lloadN 103 rfl at_102 rfl ?_
        refine Go.ldc2J 106 rfl (v := (9223372036854775807 : Int64)) 66 at_103 rfl ?_
        refine Go.land 107 rfl at_106 ?_
        refine Go.iload 109 rfl at_107 rfl ?_
        refine Go.i2l 110 rfl at_109 ?_
        refine Go.lconst 111 rfl (1 : Int64) at_110 rfl ?_
        refine Go.ladd 112 rfl at_111 ?_
        refine Go.lrem 113 rfl at_112 (own_nz hv1) ?_
        refine Go.nameJ fun v65 hv65 => ?_
        refine Go.lstore 115 rfl at_113 (Ls' := #[.val (.int p1), .val (.int p2), .val (.long p3), .second, .val (.int p4), .val (.int v1), .val (.ref a2), .val (.ref a20), .val (.ref a38), .val (.ref a46), .val (.int v60), .val (.long v65), .second]) rfl ?_
        exact J _ (own_k2 hv1 hv65)
      · refine Go.iload 96 rfl at_94 rfl ?_
        refine Go.i2l 97 rfl at_96 ?_
        refine Go.nameJ fun v64 hv64 => ?_
        refine Go.lstore 99 rfl at_97 (Ls' := #[.val (.int p1), .val (.int p2), .val (.long p3), .second, .val (.int p4), .val (.int v1), .val (.ref a2), .val (.ref a20), .val (.ref a38), .val (.ref a46), .val (.int v60), .val (.long v64), .second]) rfl ?_
        refine Go.goto 115 at_99 (by decide) (by decide) ?_
        exact J _ (own_k1 hv1 hv64)
    · refine Go.lconst 83 rfl (0 : Int64) at_82 rfl ?_
      refine Go.lstore 85 rfl at_83 (Ls' := #[.val (.int p1), .val (.int p2), .val (.long p3), .second, .val (.int p4), .val (.int v1), .val (.ref a2), .val (.ref a20), .val (.ref a38), .val (.ref a46), .val (.int v60), .val (.long (0 : Int64)), .second]) rfl ?_
      refine Go.goto 115 at_85 (by decide) (by decide) ?_
      exact J _ (own_k0 hv1)
  · refine Go.aload 117 rfl at_115 rfl rfl ?_
    refine Go.lload 119 rfl at_117 rfl ?_
    refine Go.callV 122 rfl (C := B8) a46 [.long ct] (rest := []) 46 47 49 48 33 50 (c8 Z hw h54 a46 ct p1 (p1 + v1) F58 F59 (own_n0 hct) (own_n1 hct)) F61 at_119 rfl rfl rfl rfl rfl rfl (by decide) pd8 rfl rfl rfl (W := 0) (Nat.le_of_ble_eq_true rfl) (by decide) (by decide) (by decide) (by decide) fun v66 h67 q68 => ?_
    obtain ⟨rfl, rfl⟩ := q68
    refine Go.aload 124 rfl at_122 rfl rfl ?_
    refine Go.callV 127 rfl (C := B9) a46 [] (rest := []) 51 52 54 53 33 55 (c9 Z hw h54 a46 p1 F58) F61 at_124 rfl rfl rfl rfl rfl rfl (by decide) pd9 rfl rfl rfl (W := 0) (Nat.le_of_ble_eq_true rfl) (by decide) (by decide) (by decide) (by decide) fun v69 h70 q71 => ?_
    obtain ⟨rfl, rfl⟩ := q71
    refine Go.iloadN 128 rfl at_127 rfl ?_
    refine Go.icmp_ne 155 131 at_128 (by decide) rfl rfl (fun (b72 : ¬ p1 = p1) => ?_) (fun (b72 : p1 = p1) => ?_)
    · exact absurd rfl b72
    · refine Go.aload 133 rfl at_131 rfl rfl ?_
      refine Go.callV 136 rfl (C := B10) a46 [] (rest := []) 56 57 59 58 33 60 (c10 Z hw h54 a46 p1 (p1 + v1) F58 F59) F61 at_133 rfl rfl rfl rfl rfl rfl (by decide) pd10 rfl rfl rfl (W := 0) (Nat.le_of_ble_eq_true rfl) (by decide) (by decide) (by decide) (by decide) fun v73 h74 q75 => ?_
      obtain ⟨rfl, rfl⟩ := q75
      refine Go.iload 138 rfl at_136 rfl ?_
      refine Go.icmp_ne 155 141 at_138 (by decide) rfl rfl (fun (b76 : ¬ ((p1 + v1) - p1) = v1) => ?_) (fun (b76 : ((p1 + v1) - p1) = v1) => ?_)
      · exact absurd (own_sub _ _) b76
      · refine Go.aload 143 rfl at_141 rfl rfl ?_
        refine Go.callV 146 rfl (C := B11) a46 [] (rest := []) 61 62 64 63 33 65 (c11 Z hw h54 a46 a38 F57) F61 at_143 rfl rfl rfl rfl rfl rfl (by decide) pd11 rfl rfl rfl (W := 0) (Nat.le_of_ble_eq_true rfl) (by decide) (by decide) (by decide) (by decide) fun v77 h78 q79 => ?_
        obtain ⟨rfl, rfl⟩ := q79
        refine Go.aload 148 rfl at_146 rfl rfl ?_
        refine Go.acmp_ne 155 151 at_148 (by decide) rfl rfl rfl rfl (fun (b80 : ¬ (.ref a38 : Value) = .ref a38) => ?_) (fun (b80 : (.ref a38 : Value) = .ref a38) => ?_)
        · exact absurd rfl b80
        · refine Go.iconst 152 rfl (1 : Int32) at_151 rfl ?_
          refine Go.goto 156 at_152 (by decide) (by decide) ?_
          exact Go.retN (t := .boolean) (z' := (1 : Int32)) at_156 rfl (by decide) rfl (by decide) (by decide) rfl
set_option maxRecDepth 65536 in
set_option maxHeartbeats 40000000 in
theorem comes_1 {Post : Tables → Env → Array Value → State → Outcome → State → Prop} (hpost : ∀ tb e args s v u, (limb_1_1.after args s (.returned v) u = true ∧ limb_1_2.after args s (.returned v) u = true ∧ True) → FrameEnd s (.returned v) u (Jvm.fieldLocs frame_1_writes args s ++ Jvm.arrayLocs frame_1_arrays args s ++ Jvm.staticLocs frame_1_statics s) 24 128 → Post tb e args s (.returned v) u) :
    ArmFor flags0 classFile x code maxLocals ret World_1 tables_1 room_1 Calls_1 rest_1 Pre_1 Post := by
  intro l hfl _ _ p e ha hc hk s m args below hf hA hF happ hP
  obtain ⟨hcalls, hrest, hpre⟩ := hP
  obtain ⟨-, -, -, hnamed, -, -, -, hat⟩ := (Spec.applies_iff hf).mp happ
  obtain ⟨hg, hn⟩ := and_e (Cond.before_iff.mp (show (Jvm.Cond.and given_1 narrow_1).before args s = true from hpre))
  obtain ⟨hg1, hg2⟩ := and_e hg
  obtain ⟨w0, w1, w2, w3, rfl⟩ : ∃ w0 w1 w2 w3 : Value, args = #[w0, w1, w2, w3] := by
    have hs : args.size = 4 := by simpa [Cond.value, given_1] using hg1
    obtain ⟨L⟩ := args
    match L, hs with
    | [w0, w1, w2, w3], _ => exact ⟨w0, w1, w2, w3, rfl⟩
  obtain ⟨ga0, gb0⟩ := and_e hg2
  obtain ⟨i0, e0⟩ := is_v ga0
  obtain rfl : w0 = (.int i0) := Option.some.inj e0
  obtain ⟨ga1, gb1⟩ := and_e gb0
  obtain ⟨i1, e1⟩ := is_v ga1
  obtain rfl : w1 = (.int i1) := Option.some.inj e1
  obtain ⟨ga2, gb2⟩ := and_e gb1
  obtain ⟨i2, e2⟩ := isL_v ga2
  obtain rfl : w2 = (.long i2) := Option.some.inj e2
  obtain ⟨i3, e3⟩ := is_v gb2
  obtain rfl : w3 = (.int i3) := Option.some.inj e3
  have hw : Wd s tables_1 := ⟨_, fun d (hd : d ∈ tables_1) => atoms_spec (ws := Jvm.Cond.code x code maxLocals ret :: tables_1) hat d (List.mem_cons_of_mem _ hd)⟩
  have hfit : Fit s := fun {y c} hc i hi => by
    obtain ⟨ha, rfl⟩ := Array.getElem?_eq_some_iff.mp hc
    have q := List.all_eq_true.mp ((Array.all_eq_true_iff_forall_mem.mp hF) _ (Array.getElem_mem ha)) i (List.mem_range.mpr hi)
    simpa [Array.getElem?_eq_getElem hi] using q
  obtain ⟨hsets, hown0⟩ := atoms_of _ (rest_1_c_eq ▸ (show rest_1_c.before _ s = true from hrest))
  obtain ⟨cs, ecs⟩ := is_v (Cond.before_iff.mp (hsets _ (List.mem_of_getElem? (i := 1) rfl)))
  have hS : Sta s s.heap "java/lang/String" "COMPACT_STRINGS" "Z" (.int cs) := Sta.start ecs (Or.inl (hsets _ (List.mem_of_getElem? (i := 0) rfl)))
  have hcs : ¬ (cs = (0 : Int32)) := gotF (Cond.eq_ints ecs (Term.int_eval (0))) (not_v (Cond.before_iff.mp (hsets _ (List.mem_of_getElem? (i := 2) rfl))))
  obtain ⟨n, o, h1, h2, h3, _, L, rfl, ⟨hv, -, N⟩, hq⟩ := c0 s hw s.heap i0 i1 i2 i3 cs hS hcs ⟨Nat.le_refl _, fun _ _ q => q⟩ l tables_1 p e ha hc hk s m _ below hf ((Spec.applies_iff_loose hf).mp happ).1 ⟨rfl, State.Warmed39.refl s, rfl⟩ trivial
  cases (show _ = some (Value.int 1) from hv)
  refine ⟨n, _, h1, h2, h3, hpost _ _ _ _ _ _ ⟨Cond.after_iff.mpr rfl, Cond.after_iff.mpr (eq_i res_at (Term.int_eval (1)) rfl), trivial⟩ ⟨hq.1, hq.2.1, (hq.2.2.sift fun y hy => Or.inr (N y hy)).mono (by decide) (by decide)⟩⟩
theorem main_1_1 : Claimed_1_1 := comes_1 fun _ _ _ _ _ _ h hF => ⟨h.1, hF⟩
theorem main_1_2 : Claimed_1_2 := comes_1 fun _ _ _ _ _ _ h hF => ⟨h.2.1, hF⟩
end Jvm.Pilot.@@N@@
namespace Jvm.Pilot.@@N@@
open Jvm Jvm.ClassFile Sem Op Lib Jvm.Free Jvm.Stand Jvm.Pilot.@@N@@.Jvm.D
/-! MADE BY PROGRAM (witnessworld.py) out of the Statement's table words and the real class files: 20 classes; the members and pool entries that the words name. The judged class is class 1, her method 1. -/
namespace start1
open Jvm.ClassFile
def u (s : String) : CpInfo := .utf8 (stringToUtf16 s)
/-- a pool by its gaps: so many unusable entries, then the entry; so many at the end -/
def gap : Nat → List CpInfo → List CpInfo
  | 0, r => r
  | n + 1, r => .unusable :: gap n r
def poolList (es : List (Nat × CpInfo)) (last : Nat) : List CpInfo := es.foldr (fun e r => gap e.1 (e.2 :: r)) (gap last [])
def pool (es : List (Nat × CpInfo)) (last : Nat) : Array CpInfo := ⟨poolList es last⟩
def fileOf (pool : Array CpInfo) (this : Nat) (attrs : Array Attribute := #[]) (ms : Array MethodInfo := #[]) (fl : Nat := 33) (sup : Nat := 0) (ifs : Array Nat := #[]) (fds : Array FieldInfo := #[]) : ClassFile where
  minorVersion := 0
  majorVersion := 65
  constantPool := pool
  accessFlags := fl
  thisClass := this
  superClass := sup
  interfaces := ifs
  fields := fds
  methods := ms
  attributes := attrs
def plain (name : String) (sup : Option ClassId) : Class where
  name := name
  kind := .ordinary
  loader := none
  accessFlags := 33
  super := sup
  interfaces := #[]
  cf := none
  fields := #[]
  methods := #[]
  instanceTypes := #[]
  staticTypes := #[]
  resolved := #[]
  callSites := []
  init := .initialized
  statics := none
  mirror := none

def pool0 : Array CpInfo := pool [(5, u "<init>"), (0, u "()V"), (1, .class_ 10), (1, u "java/lang/Object")] 113

def k0c0 : Code := { maxStack := 0, maxLocals := 1, code := object_method_1_code, exceptionTable := #[], attributes := #[] }
def k0m0 : Method := { name := "<init>", desc := "()V", sig := { parameters := [], returnType := none }, accessFlags := 1, code := some k0c0 }
/-- java/lang/Object -/
def k0 : Class := { plain "java/lang/Object" none with
  accessFlags := 33
  interfaces := #[]
  cf := some (fileOf pool0 8 #[] #[{ accessFlags := 1, nameIndex := 5, descriptorIndex := 6, attributes := #[] }] 33 0 #[] #[])
  fields := #[]
  methods := #[k0m0]
  instanceTypes := #[]
  staticTypes := #[]
  resolved := Array.replicate 124 none
  statics := none }

def pool1 : Array CpInfo := pool [(2, .class_ 4), (1, u "java/lang/Object"), (0, u "<init>"), (0, u "()V"), (0, .integer 2147483647), (0, .class_ 9), (0, u "java/lang/String"), (0, .methodref 8 11), (0, .nameAndType 5 12), (0, u "([C)V"), (0, .class_ 14), (0, u "com/example/albatross/albatross/compression/InputBytes"), (0, .methodref 13 16), (0, .nameAndType 5 17), (0, u "(Ljava/lang/String;[BII)V"), (0, .long 9223372036854775807), (1, .methodref 13 21), (0, .nameAndType 22 23), (0, u "need"), (0, u "(J)V"), (0, .methodref 13 25), (0, .nameAndType 26 27), (0, u "position"), (0, u "()I"), (0, .methodref 13 29), (0, .nameAndType 30 27), (0, u "remaining"), (0, .methodref 13 32), (0, .nameAndType 33 34), (0, u "array"), (0, u "()[B"), (0, .class_ 36), (0, u "com/example/albatross/albatross/compression/InputBytesNeedPinLaw"), (2, u "law"), (0, u "(IIJI)Z")] 10

def k1m0 : Method := { name := "<init>", desc := "()V", sig := { parameters := [], returnType := none }, accessFlags := 1, code := none }
def k1c1 : Code := { maxStack := 6, maxLocals := 13, code := code, exceptionTable := #[], attributes := #[] }
def k1m1 : Method := { name := "law", desc := "(IIJI)Z", sig := { parameters := [.int, .int, .long, .int], returnType := some .boolean }, accessFlags := 9, code := some k1c1 }
/-- com/example/albatross/albatross/compression/InputBytesNeedPinLaw -/
def k1 : Class := { plain "com/example/albatross/albatross/compression/InputBytesNeedPinLaw" (some 0) with
  accessFlags := 49
  interfaces := #[]
  cf := some (fileOf pool1 35 #[] #[{ accessFlags := 1, nameIndex := 5, descriptorIndex := 6, attributes := #[] }, { accessFlags := 9, nameIndex := 39, descriptorIndex := 40, attributes := #[] }] 49 2 #[] #[])
  fields := #[]
  methods := #[k1m0, k1m1]
  instanceTypes := #[]
  staticTypes := #[]
  resolved := Array.replicate 51 none
  statics := none }

def pool2 : Array CpInfo := pool [(1, .class_ 2), (0, u "java/io/Serializable"), (0, .class_ 4), (0, u "java/lang/Object")] 2

/-- java/io/Serializable -/
def k2 : Class := { plain "java/io/Serializable" (some 0) with
  accessFlags := 1537
  interfaces := #[]
  cf := some (fileOf pool2 1 #[] #[] 1537 3 #[] #[])
  fields := #[]
  methods := #[]
  instanceTypes := #[]
  staticTypes := #[]
  resolved := Array.replicate 7 none
  statics := none }

def pool3 : Array CpInfo := pool [(1, .class_ 2), (0, u "java/lang/Comparable"), (0, .class_ 4), (0, u "java/lang/Object")] 7

/-- java/lang/Comparable -/
def k3 : Class := { plain "java/lang/Comparable" (some 0) with
  accessFlags := 1537
  interfaces := #[]
  cf := some (fileOf pool3 1 #[] #[] 1537 3 #[] #[])
  fields := #[]
  methods := #[]
  instanceTypes := #[]
  staticTypes := #[]
  resolved := Array.replicate 12 none
  statics := none }

def pool4 : Array CpInfo := pool [(2, .class_ 4), (1, u "java/lang/CharSequence"), (42, .class_ 48), (0, u "java/lang/CharSequence$1CodePointIterator"), (10, .class_ 60), (0, u "java/lang/CharSequence$1CharIterator"), (5, .class_ 67), (0, u "java/lang/Object")] 63

/-- java/lang/CharSequence -/
def k4 : Class := { plain "java/lang/CharSequence" (some 0) with
  accessFlags := 1537
  interfaces := #[]
  cf := some (fileOf pool4 2 #[.nestMembers #[47, 59]] #[] 1537 66 #[] #[])
  fields := #[]
  methods := #[]
  instanceTypes := #[]
  staticTypes := #[]
  resolved := Array.replicate 131 none
  statics := none }

def pool5 : Array CpInfo := pool [(1, .class_ 2), (0, u "java/lang/constant/Constable"), (0, .class_ 4), (0, u "java/lang/Object")] 6

/-- java/lang/constant/Constable -/
def k5 : Class := { plain "java/lang/constant/Constable" (some 0) with
  accessFlags := 1537
  interfaces := #[]
  cf := some (fileOf pool5 1 #[] #[] 1537 3 #[] #[])
  fields := #[]
  methods := #[]
  instanceTypes := #[]
  staticTypes := #[]
  resolved := Array.replicate 11 none
  statics := none }

def pool6 : Array CpInfo := pool [(1, .class_ 2), (0, u "java/lang/constant/ConstantDesc"), (0, .class_ 4), (0, u "java/lang/Object")] 32

/-- java/lang/constant/ConstantDesc -/
def k6 : Class := { plain "java/lang/constant/ConstantDesc" (some 0) with
  accessFlags := 1537
  interfaces := #[]
  cf := some (fileOf pool6 1 #[] #[] 1537 3 #[] #[])
  fields := #[]
  methods := #[]
  instanceTypes := #[]
  staticTypes := #[]
  resolved := Array.replicate 37 none
  statics := none }

def pool7 : Array CpInfo := pool [(1, .methodref 2 3), (0, .class_ 4), (0, .nameAndType 5 6), (0, u "java/lang/Object"), (0, u "<init>"), (0, u "()V"), (2, .fieldref 10 11), (0, .class_ 12), (0, .nameAndType 13 14), (0, u "java/lang/String"), (0, u "value"), (0, u "[B"), (0, .fieldref 10 16), (0, .nameAndType 17 18), (0, u "coder"), (0, u "B"), (2, u "hash"), (0, u "I"), (2, u "hashIsZero"), (0, u "Z"), (0, .methodref 10 28), (0, .nameAndType 5 29), (0, u "([CIILjava/lang/Void;)V"), (8, .fieldref 10 39), (0, .nameAndType 40 26), (0, u "COMPACT_STRINGS"), (1, .class_ 44), (1, u "java/lang/StringUTF16"), (0, u "compress"), (1, .methodref 42 48), (0, .nameAndType 49 50), (0, u "coderFromArrayLen"), (0, u "([BI)B"), (126, .methodref 42 178), (0, .nameAndType 45 179), (0, u "([CII)[B"), (395, .class_ 576), (0, u "java/lang/CharSequence"), (22, u "CASE_INSENSITIVE_ORDER"), (0, u "Ljava/util/Comparator;"), (409, u "([C)V"), (90, u "serialPersistentFields"), (0, u "[Ljava/io/ObjectStreamField;"), (0, .class_ 1104), (0, u "java/lang/String$CaseInsensitiveComparator"), (1, .class_ 1107), (0, u "java/io/Serializable"), (0, .class_ 1109), (0, u "java/lang/Comparable"), (0, .class_ 1111), (0, u "java/lang/constant/Constable"), (0, .class_ 1113), (0, u "java/lang/constant/ConstantDesc"), (2, u "serialVersionUID"), (0, u "J"), (3, u "REPL"), (0, u "C"), (2, u "LATIN1"), (1, u "UTF16")] 323

def k7m0 : Method := { name := "<init>", desc := "()V", sig := { parameters := [], returnType := none }, accessFlags := 1, code := none }
def k7c1 : Code := { maxStack := 5, maxLocals := 2, code := jdk_42_method_3_code, exceptionTable := #[], attributes := #[] }
def k7m1 : Method := { name := "<init>", desc := "([C)V", sig := { parameters := [(.array .char)], returnType := none }, accessFlags := 1, code := some k7c1 }
def k7c2 : Code := { maxStack := 4, maxLocals := 6, code := jdk_42_method_149_code, exceptionTable := #[], attributes := #[] }
def k7m2 : Method := { name := "<init>", desc := "([CIILjava/lang/Void;)V", sig := { parameters := [(.array .char), .int, .int, (.object "java/lang/Void")], returnType := none }, accessFlags := 2, code := some k7c2 }
/-- java/lang/String -/
def k7 : Class := { plain "java/lang/String" (some 0) with
  accessFlags := 49
  interfaces := #[2, 3, 4, 5, 6]
  cf := some (fileOf pool7 10 #[.nestMembers #[1103]] #[{ accessFlags := 1, nameIndex := 5, descriptorIndex := 6, attributes := #[] }, { accessFlags := 1, nameIndex := 5, descriptorIndex := 1010, attributes := #[] }, { accessFlags := 2, nameIndex := 5, descriptorIndex := 29, attributes := #[] }] 49 2 #[1106, 1108, 575, 1110, 1112] #[{ accessFlags := 18, nameIndex := 13, descriptorIndex := 14, attributes := #[] }, { accessFlags := 18, nameIndex := 17, descriptorIndex := 18, attributes := #[] }, { accessFlags := 2, nameIndex := 21, descriptorIndex := 22, attributes := #[] }, { accessFlags := 2, nameIndex := 25, descriptorIndex := 26, attributes := #[] }, { accessFlags := 26, nameIndex := 1116, descriptorIndex := 1117, attributes := #[] }, { accessFlags := 24, nameIndex := 40, descriptorIndex := 26, attributes := #[] }, { accessFlags := 26, nameIndex := 1101, descriptorIndex := 1102, attributes := #[] }, { accessFlags := 26, nameIndex := 1121, descriptorIndex := 1122, attributes := #[] }, { accessFlags := 25, nameIndex := 599, descriptorIndex := 600, attributes := #[] }, { accessFlags := 24, nameIndex := 1125, descriptorIndex := 18, attributes := #[] }, { accessFlags := 24, nameIndex := 1127, descriptorIndex := 18, attributes := #[] }])
  fields := #[{ name := "value", type := (.array .byte), accessFlags := 18, slot := 0, constantValue := 0 }, { name := "coder", type := .byte, accessFlags := 18, slot := 1, constantValue := 0 }, { name := "hash", type := .int, accessFlags := 2, slot := 2, constantValue := 0 }, { name := "hashIsZero", type := .boolean, accessFlags := 2, slot := 3, constantValue := 0 }, { name := "serialVersionUID", type := .long, accessFlags := 26, slot := 0, constantValue := 0 }, { name := "COMPACT_STRINGS", type := .boolean, accessFlags := 24, slot := 1, constantValue := 0 }, { name := "serialPersistentFields", type := (.array (.object "java/io/ObjectStreamField")), accessFlags := 26, slot := 2, constantValue := 0 }, { name := "REPL", type := .char, accessFlags := 26, slot := 3, constantValue := 0 }, { name := "CASE_INSENSITIVE_ORDER", type := (.object "java/util/Comparator"), accessFlags := 25, slot := 4, constantValue := 0 }, { name := "LATIN1", type := .byte, accessFlags := 24, slot := 5, constantValue := 0 }, { name := "UTF16", type := .byte, accessFlags := 24, slot := 6, constantValue := 0 }]
  methods := #[k7m0, k7m1, k7m2]
  instanceTypes := #[(.array .byte), .byte, .int, .boolean]
  staticTypes := #[.long, .boolean, (.array (.object "java/io/ObjectStreamField")), .char, (.object "java/util/Comparator"), .byte, .byte]
  resolved := Array.replicate 1451 none
  statics := some 0 }

def pool8 : Array CpInfo := pool [(6, .class_ 8), (1, u "java/lang/Object"), (0, u "<init>"), (0, u "()V"), (1, .class_ 14), (1, u "java/lang/StringUTF16"), (31, u "$assertionsDisabled"), (0, u "Z"), (13, u "HI_BYTE_SHIFT"), (0, u "I"), (2, u "LO_BYTE_SHIFT"), (49, .methodref 12 116), (0, .nameAndType 117 118), (0, u "compress"), (0, u "([CI[BII)I"), (3, u "([CII)[B"), (138, u "coderFromArrayLen"), (0, u "([BI)B"), (106, .class_ 371), (1, u "java/lang/StringUTF16$LinesSpliterator"), (58, u "MAX_LENGTH"), (196, .class_ 628), (0, u "java/lang/StringUTF16$CodePointsSpliterator"), (0, .class_ 630), (0, u "java/lang/StringUTF16$CharsSpliterator")] 4

def k8m0 : Method := { name := "<init>", desc := "()V", sig := { parameters := [], returnType := none }, accessFlags := 0, code := none }
def k8c1 : Code := { maxStack := 2, maxLocals := 2, code := jdk_52_method_15_code, exceptionTable := #[], attributes := #[] }
def k8m1 : Method := { name := "coderFromArrayLen", desc := "([BI)B", sig := { parameters := [(.array .byte), .int], returnType := some .byte }, accessFlags := 8, code := some k8c1 }
def k8c2 : Code := { maxStack := 5, maxLocals := 6, code := jdk_52_method_16_code, exceptionTable := #[], attributes := #[] }
def k8m2 : Method := { name := "compress", desc := "([CII)[B", sig := { parameters := [(.array .char), .int, .int], returnType := some (.array .byte) }, accessFlags := 9, code := some k8c2 }
def k8c3 : Code := { maxStack := 3, maxLocals := 7, code := jdk_52_method_21_code, exceptionTable := #[], attributes := #[] }
def k8m3 : Method := { name := "compress", desc := "([CI[BII)I", sig := { parameters := [(.array .char), .int, (.array .byte), .int, .int], returnType := some .int }, accessFlags := 9, code := some k8c3 }
/-- java/lang/StringUTF16 -/
def k8 : Class := { plain "java/lang/StringUTF16" (some 0) with
  accessFlags := 48
  interfaces := #[]
  cf := some (fileOf pool8 12 #[.nestMembers #[627, 629, 369]] #[{ accessFlags := 0, nameIndex := 9, descriptorIndex := 10, attributes := #[] }, { accessFlags := 8, nameIndex := 261, descriptorIndex := 262, attributes := #[] }, { accessFlags := 9, nameIndex := 117, descriptorIndex := 122, attributes := #[] }, { accessFlags := 9, nameIndex := 117, descriptorIndex := 118, attributes := #[] }] 48 6 #[] #[{ accessFlags := 26, nameIndex := 61, descriptorIndex := 62, attributes := #[] }, { accessFlags := 26, nameIndex := 65, descriptorIndex := 62, attributes := #[] }, { accessFlags := 24, nameIndex := 430, descriptorIndex := 62, attributes := #[] }, { accessFlags := 4120, nameIndex := 46, descriptorIndex := 47, attributes := #[] }])
  fields := #[{ name := "HI_BYTE_SHIFT", type := .int, accessFlags := 26, slot := 0, constantValue := 0 }, { name := "LO_BYTE_SHIFT", type := .int, accessFlags := 26, slot := 1, constantValue := 0 }, { name := "MAX_LENGTH", type := .int, accessFlags := 24, slot := 2, constantValue := 0 }, { name := "$assertionsDisabled", type := .boolean, accessFlags := 4120, slot := 3, constantValue := 0 }]
  methods := #[k8m0, k8m1, k8m2, k8m3]
  instanceTypes := #[]
  staticTypes := #[.int, .int, .int, .boolean]
  resolved := Array.replicate 635 none
  statics := none }

def pool9 : Array CpInfo := pool [(1, .methodref 2 3), (0, .class_ 4), (0, .nameAndType 5 6), (0, u "java/lang/Object"), (0, u "<init>"), (0, u "()V"), (0, .fieldref 8 9), (0, .class_ 10), (0, .nameAndType 11 12), (0, u "com/example/albatross/albatross/compression/InputBytes"), (0, u "format"), (0, u "Ljava/lang/String;"), (0, .fieldref 8 14), (0, .nameAndType 15 16), (0, u "bytes"), (0, u "[B"), (0, .fieldref 8 18), (0, .nameAndType 19 20), (0, u "at"), (0, u "I"), (0, .fieldref 8 22), (0, .nameAndType 23 20), (0, u "end"), (11, u "need"), (0, u "(J)V"), (2, u "(Ljava/lang/String;[BII)V"), (10, u "array"), (0, u "()[B"), (0, u "position"), (0, u "()I"), (0, u "remaining")] 27

def k9c0 : Code := { maxStack := 3, maxLocals := 5, code := prog_10_method_1_code, exceptionTable := #[], attributes := #[] }
def k9m0 : Method := { name := "<init>", desc := "(Ljava/lang/String;[BII)V", sig := { parameters := [(.object "java/lang/String"), (.array .byte), .int, .int], returnType := none }, accessFlags := 0, code := some k9c0 }
def k9c1 : Code := { maxStack := 1, maxLocals := 1, code := prog_10_method_2_code, exceptionTable := #[], attributes := #[] }
def k9m1 : Method := { name := "array", desc := "()[B", sig := { parameters := [], returnType := some (.array .byte) }, accessFlags := 0, code := some k9c1 }
def k9c2 : Code := { maxStack := 1, maxLocals := 1, code := prog_10_method_3_code, exceptionTable := #[], attributes := #[] }
def k9m2 : Method := { name := "position", desc := "()I", sig := { parameters := [], returnType := some .int }, accessFlags := 0, code := some k9c2 }
def k9c3 : Code := { maxStack := 2, maxLocals := 1, code := prog_10_method_4_code, exceptionTable := #[], attributes := #[] }
def k9m3 : Method := { name := "remaining", desc := "()I", sig := { parameters := [], returnType := some .int }, accessFlags := 0, code := some k9c3 }
def k9c4 : Code := { maxStack := 6, maxLocals := 3, code := prog_10_method_5_code, exceptionTable := #[], attributes := #[] }
def k9m4 : Method := { name := "need", desc := "(J)V", sig := { parameters := [.long], returnType := none }, accessFlags := 0, code := some k9c4 }
/-- com/example/albatross/albatross/compression/InputBytes -/
def k9 : Class := { plain "com/example/albatross/albatross/compression/InputBytes" (some 0) with
  accessFlags := 48
  interfaces := #[]
  cf := some (fileOf pool9 8 #[] #[{ accessFlags := 0, nameIndex := 5, descriptorIndex := 39, attributes := #[] }, { accessFlags := 0, nameIndex := 50, descriptorIndex := 51, attributes := #[] }, { accessFlags := 0, nameIndex := 52, descriptorIndex := 53, attributes := #[] }, { accessFlags := 0, nameIndex := 54, descriptorIndex := 53, attributes := #[] }, { accessFlags := 0, nameIndex := 35, descriptorIndex := 36, attributes := #[] }] 48 2 #[] #[{ accessFlags := 18, nameIndex := 11, descriptorIndex := 12, attributes := #[] }, { accessFlags := 18, nameIndex := 15, descriptorIndex := 16, attributes := #[] }, { accessFlags := 18, nameIndex := 23, descriptorIndex := 20, attributes := #[] }, { accessFlags := 2, nameIndex := 19, descriptorIndex := 20, attributes := #[] }])
  fields := #[{ name := "format", type := (.object "java/lang/String"), accessFlags := 18, slot := 0, constantValue := 0 }, { name := "bytes", type := (.array .byte), accessFlags := 18, slot := 1, constantValue := 0 }, { name := "end", type := .int, accessFlags := 18, slot := 2, constantValue := 0 }, { name := "at", type := .int, accessFlags := 2, slot := 3, constantValue := 0 }]
  methods := #[k9m0, k9m1, k9m2, k9m3, k9m4]
  instanceTypes := #[(.object "java/lang/String"), (.array .byte), .int, .int]
  staticTypes := #[]
  resolved := Array.replicate 82 none
  statics := none }

def pool10 : Array CpInfo := pool [(4, .class_ 6), (1, u "java/lang/Object"), (0, u "<init>"), (0, u "()V"), (5, .class_ 16), (1, u "java/lang/StringLatin1"), (104, u "$assertionsDisabled"), (0, u "Z"), (98, .class_ 223), (1, u "java/lang/StringLatin1$LinesSpliterator"), (166, .class_ 391), (0, u "java/lang/StringLatin1$CharsSpliterator")] 3

def k10m0 : Method := { name := "<init>", desc := "()V", sig := { parameters := [], returnType := none }, accessFlags := 0, code := none }
/-- java/lang/StringLatin1 -/
def k10 : Class := { plain "java/lang/StringLatin1" (some 0) with
  accessFlags := 48
  interfaces := #[]
  cf := some (fileOf pool10 14 #[.nestMembers #[390, 221]] #[{ accessFlags := 0, nameIndex := 7, descriptorIndex := 8, attributes := #[] }] 48 4 #[] #[{ accessFlags := 4120, nameIndex := 121, descriptorIndex := 122, attributes := #[] }])
  fields := #[{ name := "$assertionsDisabled", type := .boolean, accessFlags := 4120, slot := 0, constantValue := 0 }]
  methods := #[k10m0]
  instanceTypes := #[]
  staticTypes := #[.boolean]
  resolved := Array.replicate 395 none
  statics := none }

def pool11 : Array CpInfo := pool [(2, .class_ 4), (1, u "java/lang/Object"), (0, u "<init>"), (0, u "()V"), (17, .class_ 26), (1, u "jdk/internal/util/Preconditions"), (28, .class_ 56), (0, u "jdk/internal/util/Preconditions$4"), (57, .class_ 115), (0, u "jdk/internal/util/Preconditions$1"), (7, u "SIOOBE_FORMATTER"), (0, u "Ljava/util/function/BiFunction;"), (0, .class_ 126), (0, u "jdk/internal/util/Preconditions$2"), (3, u "AIOOBE_FORMATTER"), (0, .class_ 132), (0, u "jdk/internal/util/Preconditions$3"), (3, u "IOOBE_FORMATTER")] 57

def k11m0 : Method := { name := "<init>", desc := "()V", sig := { parameters := [], returnType := none }, accessFlags := 1, code := none }
/-- jdk/internal/util/Preconditions -/
def k11 : Class := { plain "jdk/internal/util/Preconditions" (some 0) with
  accessFlags := 33
  interfaces := #[]
  cf := some (fileOf pool11 24 #[.nestMembers #[55, 131, 125, 114]] #[{ accessFlags := 1, nameIndex := 5, descriptorIndex := 6, attributes := #[] }] 33 2 #[] #[{ accessFlags := 25, nameIndex := 123, descriptorIndex := 124, attributes := #[] }, { accessFlags := 25, nameIndex := 130, descriptorIndex := 124, attributes := #[] }, { accessFlags := 25, nameIndex := 136, descriptorIndex := 124, attributes := #[] }])
  fields := #[{ name := "SIOOBE_FORMATTER", type := (.object "java/util/function/BiFunction"), accessFlags := 25, slot := 0, constantValue := 0 }, { name := "AIOOBE_FORMATTER", type := (.object "java/util/function/BiFunction"), accessFlags := 25, slot := 1, constantValue := 0 }, { name := "IOOBE_FORMATTER", type := (.object "java/util/function/BiFunction"), accessFlags := 25, slot := 2, constantValue := 0 }]
  methods := #[k11m0]
  instanceTypes := #[]
  staticTypes := #[(.object "java/util/function/BiFunction"), (.object "java/util/function/BiFunction"), (.object "java/util/function/BiFunction")]
  resolved := Array.replicate 194 none
  statics := some 1 }

def pool12 : Array CpInfo := pool [(9, u "<init>"), (6, .class_ 18), (1, u "java/lang/Object"), (0, u "()V"), (1, .class_ 23), (1, u "jdk/internal/util/ArraysSupport"), (0, u "LOG2_ARRAY_LONG_INDEX_SCALE"), (0, u "I"), (2, u "U"), (0, u "Ljdk/internal/misc/Unsafe;"), (8, u "BIG_ENDIAN"), (0, u "Z"), (8, u "LOG2_BYTE_BIT_SIZE"), (4, u "LOG2_ARRAY_INT_INDEX_SCALE"), (54, u "JLA"), (0, u "Ljdk/internal/access/JavaLangAccess;"), (11, u "LOG2_ARRAY_BOOLEAN_INDEX_SCALE"), (9, u "LOG2_ARRAY_BYTE_INDEX_SCALE"), (5, u "LOG2_ARRAY_CHAR_INDEX_SCALE"), (5, u "LOG2_ARRAY_SHORT_INDEX_SCALE"), (18, u "LOG2_ARRAY_FLOAT_INDEX_SCALE"), (24, u "LOG2_ARRAY_DOUBLE_INDEX_SCALE"), (89, u "T_BOOLEAN"), (2, u "T_CHAR"), (1, u "T_FLOAT"), (1, u "T_DOUBLE"), (1, u "T_BYTE"), (1, u "T_SHORT"), (1, u "T_INT"), (1, u "T_LONG"), (1, u "SOFT_MAX_ARRAY_LENGTH")] 83

def k12m0 : Method := { name := "<init>", desc := "()V", sig := { parameters := [], returnType := none }, accessFlags := 2, code := none }
/-- jdk/internal/util/ArraysSupport -/
def k12 : Class := { plain "jdk/internal/util/ArraysSupport" (some 0) with
  accessFlags := 33
  interfaces := #[]
  cf := some (fileOf pool12 21 #[] #[{ accessFlags := 2, nameIndex := 9, descriptorIndex := 19, attributes := #[] }] 33 16 #[] #[{ accessFlags := 24, nameIndex := 28, descriptorIndex := 29, attributes := #[] }, { accessFlags := 26, nameIndex := 38, descriptorIndex := 39, attributes := #[] }, { accessFlags := 25, nameIndex := 121, descriptorIndex := 25, attributes := #[] }, { accessFlags := 25, nameIndex := 131, descriptorIndex := 25, attributes := #[] }, { accessFlags := 25, nameIndex := 137, descriptorIndex := 25, attributes := #[] }, { accessFlags := 25, nameIndex := 143, descriptorIndex := 25, attributes := #[] }, { accessFlags := 25, nameIndex := 53, descriptorIndex := 25, attributes := #[] }, { accessFlags := 25, nameIndex := 24, descriptorIndex := 25, attributes := #[] }, { accessFlags := 25, nameIndex := 162, descriptorIndex := 25, attributes := #[] }, { accessFlags := 25, nameIndex := 187, descriptorIndex := 25, attributes := #[] }, { accessFlags := 26, nameIndex := 48, descriptorIndex := 25, attributes := #[] }, { accessFlags := 25, nameIndex := 277, descriptorIndex := 25, attributes := #[] }, { accessFlags := 25, nameIndex := 280, descriptorIndex := 25, attributes := #[] }, { accessFlags := 25, nameIndex := 282, descriptorIndex := 25, attributes := #[] }, { accessFlags := 25, nameIndex := 284, descriptorIndex := 25, attributes := #[] }, { accessFlags := 25, nameIndex := 286, descriptorIndex := 25, attributes := #[] }, { accessFlags := 25, nameIndex := 288, descriptorIndex := 25, attributes := #[] }, { accessFlags := 25, nameIndex := 290, descriptorIndex := 25, attributes := #[] }, { accessFlags := 25, nameIndex := 292, descriptorIndex := 25, attributes := #[] }, { accessFlags := 26, nameIndex := 108, descriptorIndex := 109, attributes := #[] }, { accessFlags := 25, nameIndex := 294, descriptorIndex := 25, attributes := #[] }])
  fields := #[{ name := "U", type := (.object "jdk/internal/misc/Unsafe"), accessFlags := 24, slot := 0, constantValue := 0 }, { name := "BIG_ENDIAN", type := .boolean, accessFlags := 26, slot := 1, constantValue := 0 }, { name := "LOG2_ARRAY_BOOLEAN_INDEX_SCALE", type := .int, accessFlags := 25, slot := 2, constantValue := 0 }, { name := "LOG2_ARRAY_BYTE_INDEX_SCALE", type := .int, accessFlags := 25, slot := 3, constantValue := 0 }, { name := "LOG2_ARRAY_CHAR_INDEX_SCALE", type := .int, accessFlags := 25, slot := 4, constantValue := 0 }, { name := "LOG2_ARRAY_SHORT_INDEX_SCALE", type := .int, accessFlags := 25, slot := 5, constantValue := 0 }, { name := "LOG2_ARRAY_INT_INDEX_SCALE", type := .int, accessFlags := 25, slot := 6, constantValue := 0 }, { name := "LOG2_ARRAY_LONG_INDEX_SCALE", type := .int, accessFlags := 25, slot := 7, constantValue := 0 }, { name := "LOG2_ARRAY_FLOAT_INDEX_SCALE", type := .int, accessFlags := 25, slot := 8, constantValue := 0 }, { name := "LOG2_ARRAY_DOUBLE_INDEX_SCALE", type := .int, accessFlags := 25, slot := 9, constantValue := 0 }, { name := "LOG2_BYTE_BIT_SIZE", type := .int, accessFlags := 26, slot := 10, constantValue := 0 }, { name := "T_BOOLEAN", type := .int, accessFlags := 25, slot := 11, constantValue := 0 }, { name := "T_CHAR", type := .int, accessFlags := 25, slot := 12, constantValue := 0 }, { name := "T_FLOAT", type := .int, accessFlags := 25, slot := 13, constantValue := 0 }, { name := "T_DOUBLE", type := .int, accessFlags := 25, slot := 14, constantValue := 0 }, { name := "T_BYTE", type := .int, accessFlags := 25, slot := 15, constantValue := 0 }, { name := "T_SHORT", type := .int, accessFlags := 25, slot := 16, constantValue := 0 }, { name := "T_INT", type := .int, accessFlags := 25, slot := 17, constantValue := 0 }, { name := "T_LONG", type := .int, accessFlags := 25, slot := 18, constantValue := 0 }, { name := "JLA", type := (.object "jdk/internal/access/JavaLangAccess"), accessFlags := 26, slot := 19, constantValue := 0 }, { name := "SOFT_MAX_ARRAY_LENGTH", type := .int, accessFlags := 25, slot := 20, constantValue := 0 }]
  methods := #[k12m0]
  instanceTypes := #[]
  staticTypes := #[(.object "jdk/internal/misc/Unsafe"), .boolean, .int, .int, .int, .int, .int, .int, .int, .int, .int, .int, .int, .int, .int, .int, .int, .int, .int, (.object "jdk/internal/access/JavaLangAccess"), .int]
  resolved := Array.replicate 378 none
  statics := none }

def pool13 : Array CpInfo := pool [(1, u "java/lang/Cloneable"), (0, .class_ 1), (0, u "java/lang/Object"), (0, .class_ 3)] 3

/-- java/lang/Cloneable -/
def k13 : Class := { plain "java/lang/Cloneable" (some 0) with
  accessFlags := 1537
  interfaces := #[]
  cf := some (fileOf pool13 2 #[] #[] 1537 4 #[] #[])
  fields := #[]
  methods := #[]
  instanceTypes := #[]
  staticTypes := #[]
  resolved := Array.replicate 8 none
  statics := none }

/-- the primitive byte -/
def k14 : Class := { plain "byte" none with kind := .primitive 'B', accessFlags := 0x411 }
/-- [B -/
def k15 : Class := { plain "[B" (some 0) with kind := .array 14 .byte, interfaces := #[13, 2], accessFlags := 1041 }

/-- the primitive char -/
def k16 : Class := { plain "char" none with kind := .primitive 'C', accessFlags := 0x411 }
/-- [C -/
def k17 : Class := { plain "[C" (some 0) with kind := .array 16 .char, interfaces := #[13, 2], accessFlags := 1041 }

/-- the primitive int -/
def k18 : Class := { plain "int" none with kind := .primitive 'I', accessFlags := 0x411 }
/-- [I -/
def k19 : Class := { plain "[I" (some 0) with kind := .array 18 .int, interfaces := #[13, 2], accessFlags := 1041 }

def heap : Heap := #[{ cls := 7, slots := #[.long 0, .int 1, .null, .int 0, .null, .int 0, .int 0], vm := .statics 7 },
  { cls := 11, slots := #[.null, .null, .null], vm := .statics 11 }]
def classes : Array Class := #[k0, k1, k2, k3, k4, k5, k6, k7, k8, k9, k10, k11, k12, k13, k14, k15, k16, k17, k18, k19]
def interned : List (Array UInt16 × Addr) := []
def slotsUsed : Nat := 10
def theMethod : MethodId := ⟨1, 1⟩
def args0 : Array Value := #[.int 5, .int 3, .long 7, .int 1]
def aboutOver (below : List Frame) : State where
  vm := { classes := classes, interned := interned.toArray }
  heap := heap
  slotsUsed := slotsUsed
  threads := #[{ frames := .invoking theMethod args0 :: below }]
def below0 : List Frame := [.native { method := ⟨0, 0⟩, args := #[] }]
def about1 : State := aboutOver below0
def p0 : Program := .bare "" "" ""
def e0 : Env := launch0.env 0 0 0
theorem w_frames : about1.frames = Frame.invoking theMethod args0 :: below0 := rfl
set_option maxRecDepth 65536 in
theorem w_args : argsFit about1.vm theMethod args0 = true := by decide +kernel
set_option maxRecDepth 65536 in
theorem w_heap : heapFits about1 = true := by decide +kernel
set_option maxRecDepth 65536 in
theorem w_runnable : about1.curStatus? = some .runnable := by decide +kernel
set_option maxRecDepth 65536 in
theorem w_alone : about1.alone = true := by decide +kernel
set_option maxRecDepth 65536 in
theorem w_named : about1.methodNamed? x = some theMethod := by decide +kernel
set_option maxRecDepth 65536 in
theorem w_hears : about1.hears theMethod below0 = true := by decide +kernel
set_option maxRecDepth 65536 in
theorem w_ripe : about1.ripe theMethod args0 below0 = true := by decide +kernel
theorem w_running : about1.status = .running := rfl
set_option maxRecDepth 65536 in
theorem w_room : about1.hasRoom e0.platform room_1 = true :=
  launch0.hasRoom_least _ room_1 (by decide +kernel) (by decide +kernel) (by decide +kernel) (by decide +kernel) (by decide +kernel) (by decide +kernel)
theorem allAtoms_all (ts : List Jvm.Cond) (a : Array Jvm.Value) (st : Jvm.State) : (allAtoms ts).before a st = ts.all (fun c => c.before a st) := by
  induction ts with
  | nil => rfl
  | cons c t ih =>
    show (Jvm.Cond.and c (allAtoms t)).before a st = _
    rw [Jvm.Cond.before_and, ih, List.all_cons]
def words1 : List Jvm.Cond := Jvm.Cond.code x code maxLocals ret :: tables_1
/-- a 'code' word, met by the world's own term for the bytes: nothing is compared byte by byte -/
theorem code_word {y : MethodName} {bytes : ByteArray} {mx : Nat} {rt : Option FieldType} {a : Array Value} {s : State} {m : MethodId} {meth : Method} {c : Code} (h1 : s.methodNamed? y = some m) (h2 : s.vm.method? m = some meth) (h3 : meth.code = some c) (h4 : c.code = bytes)
    (h5 : (c.maxLocals == mx && c.exceptionTable.isEmpty && decide (c.maxStack ≤ mostOperands) && decide (meth.sig.returnType = rt) && !meth.locks && decide (parseMethodDescriptor y.desc = some meth.sig)) = true) : (Jvm.Cond.code y bytes mx rt).before a s = true := by
  simp only [Bool.and_eq_true, beq_iff_eq, Bool.not_eq_true', decide_eq_true_eq] at h5
  obtain ⟨⟨⟨⟨⟨g1, g2⟩, g3⟩, g4⟩, g5⟩, g6⟩ := h5
  simp [Cond.before, Cond.holds, Cond.value, h1, h2, h3, h4, g1, g2, g3, g4, g5, g6]
def isCode : Jvm.Cond → Bool
  | .code _ _ _ _ => true
  | _ => false
theorem all_split {L : List Jvm.Cond} {P : Jvm.Cond → Bool} (h1 : L.all (fun c => isCode c || P c) = true) (h2 : ∀ c ∈ L.filter isCode, P c = true) : L.all P = true := by
  refine List.all_eq_true.mpr fun c hc => ?_
  have h := List.all_eq_true.mp h1 c hc
  rcases Bool.eq_false_or_eq_true (isCode c) with hi | hi
  · exact h2 c (List.mem_filter.mpr ⟨hc, hi⟩)
  · simpa [hi] using h
set_option maxRecDepth 65536 in
theorem w_c0 : (Jvm.Cond.code x code maxLocals ret).before args0 about1 = true := code_word (m := ⟨1, 1⟩) (meth := k1m1) (c := k1c1) (by decide +kernel) rfl rfl rfl (by decide +kernel)
set_option maxRecDepth 65536 in
theorem w_c1 : (Jvm.Cond.code ({ cls := "java/lang/String", name := "<init>", desc := "([C)V" } : Jvm.MethodName) jdk_42_method_3_code (2 : Nat) (Option.none : Option Jvm.ClassFile.FieldType)).before args0 about1 = true := code_word (m := ⟨7, 1⟩) (meth := k7m1) (c := k7c1) (by decide +kernel) rfl rfl rfl (by decide +kernel)
set_option maxRecDepth 65536 in
theorem w_c2 : (Jvm.Cond.code ({ cls := "java/lang/String", name := "<init>", desc := "([CIILjava/lang/Void;)V" } : Jvm.MethodName) jdk_42_method_149_code (6 : Nat) (Option.none : Option Jvm.ClassFile.FieldType)).before args0 about1 = true := code_word (m := ⟨7, 2⟩) (meth := k7m2) (c := k7c2) (by decide +kernel) rfl rfl rfl (by decide +kernel)
set_option maxRecDepth 65536 in
theorem w_c3 : (Jvm.Cond.code ({ cls := "java/lang/Object", name := "<init>", desc := "()V" } : Jvm.MethodName) object_method_1_code (1 : Nat) (Option.none : Option Jvm.ClassFile.FieldType)).before args0 about1 = true := code_word (m := ⟨0, 0⟩) (meth := k0m0) (c := k0c0) (by decide +kernel) rfl rfl rfl (by decide +kernel)
set_option maxRecDepth 65536 in
theorem w_c4 : (Jvm.Cond.code ({ cls := "java/lang/StringUTF16", name := "compress", desc := "([CII)[B" } : Jvm.MethodName) jdk_52_method_16_code (6 : Nat) (Option.some (Jvm.ClassFile.FieldType.array Jvm.ClassFile.FieldType.byte))).before args0 about1 = true := code_word (m := ⟨8, 2⟩) (meth := k8m2) (c := k8c2) (by decide +kernel) rfl rfl rfl (by decide +kernel)
set_option maxRecDepth 65536 in
theorem w_c5 : (Jvm.Cond.code ({ cls := "java/lang/StringUTF16", name := "compress", desc := "([CI[BII)I" } : Jvm.MethodName) jdk_52_method_21_code (7 : Nat) (Option.some Jvm.ClassFile.FieldType.int)).before args0 about1 = true := code_word (m := ⟨8, 3⟩) (meth := k8m3) (c := k8c3) (by decide +kernel) rfl rfl rfl (by decide +kernel)
set_option maxRecDepth 65536 in
theorem w_c6 : (Jvm.Cond.code ({ cls := "java/lang/StringUTF16", name := "coderFromArrayLen", desc := "([BI)B" } : Jvm.MethodName) jdk_52_method_15_code (2 : Nat) (Option.some Jvm.ClassFile.FieldType.byte)).before args0 about1 = true := code_word (m := ⟨8, 1⟩) (meth := k8m1) (c := k8c1) (by decide +kernel) rfl rfl rfl (by decide +kernel)
set_option maxRecDepth 65536 in
theorem w_c7 : (Jvm.Cond.code ({ cls := "com/example/albatross/albatross/compression/InputBytes", name := "<init>", desc := "(Ljava/lang/String;[BII)V" } : Jvm.MethodName) prog_10_method_1_code (5 : Nat) (Option.none : Option Jvm.ClassFile.FieldType)).before args0 about1 = true := code_word (m := ⟨9, 0⟩) (meth := k9m0) (c := k9c0) (by decide +kernel) rfl rfl rfl (by decide +kernel)
set_option maxRecDepth 65536 in
theorem w_c8 : (Jvm.Cond.code ({ cls := "com/example/albatross/albatross/compression/InputBytes", name := "need", desc := "(J)V" } : Jvm.MethodName) prog_10_method_5_code (3 : Nat) (Option.none : Option Jvm.ClassFile.FieldType)).before args0 about1 = true := code_word (m := ⟨9, 4⟩) (meth := k9m4) (c := k9c4) (by decide +kernel) rfl rfl rfl (by decide +kernel)
set_option maxRecDepth 65536 in
theorem w_c9 : (Jvm.Cond.code ({ cls := "com/example/albatross/albatross/compression/InputBytes", name := "position", desc := "()I" } : Jvm.MethodName) prog_10_method_3_code (1 : Nat) (Option.some Jvm.ClassFile.FieldType.int)).before args0 about1 = true := code_word (m := ⟨9, 2⟩) (meth := k9m2) (c := k9c2) (by decide +kernel) rfl rfl rfl (by decide +kernel)
set_option maxRecDepth 65536 in
theorem w_c10 : (Jvm.Cond.code ({ cls := "com/example/albatross/albatross/compression/InputBytes", name := "remaining", desc := "()I" } : Jvm.MethodName) prog_10_method_4_code (1 : Nat) (Option.some Jvm.ClassFile.FieldType.int)).before args0 about1 = true := code_word (m := ⟨9, 3⟩) (meth := k9m3) (c := k9c3) (by decide +kernel) rfl rfl rfl (by decide +kernel)
set_option maxRecDepth 65536 in
theorem w_c11 : (Jvm.Cond.code ({ cls := "com/example/albatross/albatross/compression/InputBytes", name := "array", desc := "()[B" } : Jvm.MethodName) prog_10_method_2_code (1 : Nat) (Option.some (Jvm.ClassFile.FieldType.array Jvm.ClassFile.FieldType.byte))).before args0 about1 = true := code_word (m := ⟨9, 1⟩) (meth := k9m1) (c := k9c1) (by decide +kernel) rfl rfl rfl (by decide +kernel)
def codes1 : List Jvm.Cond := [Jvm.Cond.code x code maxLocals ret, Jvm.Cond.code ({ cls := "java/lang/String", name := "<init>", desc := "([C)V" } : Jvm.MethodName) jdk_42_method_3_code (2 : Nat) (Option.none : Option Jvm.ClassFile.FieldType), Jvm.Cond.code ({ cls := "java/lang/String", name := "<init>", desc := "([CIILjava/lang/Void;)V" } : Jvm.MethodName) jdk_42_method_149_code (6 : Nat) (Option.none : Option Jvm.ClassFile.FieldType), Jvm.Cond.code ({ cls := "java/lang/Object", name := "<init>", desc := "()V" } : Jvm.MethodName) object_method_1_code (1 : Nat) (Option.none : Option Jvm.ClassFile.FieldType), Jvm.Cond.code ({ cls := "java/lang/StringUTF16", name := "compress", desc := "([CII)[B" } : Jvm.MethodName) jdk_52_method_16_code (6 : Nat) (Option.some (Jvm.ClassFile.FieldType.array Jvm.ClassFile.FieldType.byte)), Jvm.Cond.code ({ cls := "java/lang/StringUTF16", name := "compress", desc := "([CI[BII)I" } : Jvm.MethodName) jdk_52_method_21_code (7 : Nat) (Option.some Jvm.ClassFile.FieldType.int), Jvm.Cond.code ({ cls := "java/lang/StringUTF16", name := "coderFromArrayLen", desc := "([BI)B" } : Jvm.MethodName) jdk_52_method_15_code (2 : Nat) (Option.some Jvm.ClassFile.FieldType.byte), Jvm.Cond.code ({ cls := "com/example/albatross/albatross/compression/InputBytes", name := "<init>", desc := "(Ljava/lang/String;[BII)V" } : Jvm.MethodName) prog_10_method_1_code (5 : Nat) (Option.none : Option Jvm.ClassFile.FieldType), Jvm.Cond.code ({ cls := "com/example/albatross/albatross/compression/InputBytes", name := "need", desc := "(J)V" } : Jvm.MethodName) prog_10_method_5_code (3 : Nat) (Option.none : Option Jvm.ClassFile.FieldType), Jvm.Cond.code ({ cls := "com/example/albatross/albatross/compression/InputBytes", name := "position", desc := "()I" } : Jvm.MethodName) prog_10_method_3_code (1 : Nat) (Option.some Jvm.ClassFile.FieldType.int), Jvm.Cond.code ({ cls := "com/example/albatross/albatross/compression/InputBytes", name := "remaining", desc := "()I" } : Jvm.MethodName) prog_10_method_4_code (1 : Nat) (Option.some Jvm.ClassFile.FieldType.int), Jvm.Cond.code ({ cls := "com/example/albatross/albatross/compression/InputBytes", name := "array", desc := "()[B" } : Jvm.MethodName) prog_10_method_2_code (1 : Nat) (Option.some (Jvm.ClassFile.FieldType.array Jvm.ClassFile.FieldType.byte))]
set_option maxRecDepth 65536 in
theorem codes_eq : words1.filter isCode = codes1 := rfl
theorem w_codes : ∀ c ∈ words1.filter isCode, c.before args0 about1 = true := by
  rw [codes_eq]
  intro c hc
  simp only [codes1, List.mem_cons, List.not_mem_nil, or_false] at hc
  rcases hc with rfl | rfl | rfl | rfl | rfl | rfl | rfl | rfl | rfl | rfl | rfl | rfl
  · exact w_c0
  · exact w_c1
  · exact w_c2
  · exact w_c3
  · exact w_c4
  · exact w_c5
  · exact w_c6
  · exact w_c7
  · exact w_c8
  · exact w_c9
  · exact w_c10
  · exact w_c11
set_option maxRecDepth 65536 in
theorem w_t1 : (words1.take 24).all (fun c => isCode c || c.before args0 about1) = true := by decide +kernel
set_option maxRecDepth 65536 in
theorem w_t2 : ((words1.drop 24).take 24).all (fun c => isCode c || c.before args0 about1) = true := by decide +kernel
set_option maxRecDepth 65536 in
theorem w_t3 : ((words1.drop 24).drop 24).all (fun c => isCode c || c.before args0 about1) = true := by decide +kernel
theorem w_tables : (allAtoms (Jvm.Cond.code x code maxLocals ret :: tables_1)).before args0 about1 = true := by
  rw [allAtoms_all]
  show words1.all (fun c => c.before args0 about1) = true
  refine all_split ?_ w_codes
  rw [← List.take_append_drop 24 words1, List.all_append, w_t1, ← List.take_append_drop 24 (words1.drop 24), List.all_append, w_t2, w_t3]
  rfl
set_option maxRecDepth 65536 in
theorem w_rest : rest_1_c.before args0 about1 = true := by decide +kernel
set_option maxRecDepth 65536 in
theorem w_case : (Jvm.Cond.and given_1 narrow_1).before args0 about1 = true := by decide +kernel
theorem w_applies : (headSpec (Jvm.Cond.code x code maxLocals ret :: tables_1) room_1).applies x e0.platform about1 = true :=
  (Spec.applies_iff w_frames).mpr ⟨w_running, w_runnable, w_alone, w_named, w_hears, w_ripe, w_room, w_tables⟩
theorem atStart : AtStart classFile x code maxLocals ret World_1 tables_1 room_1 Calls_1 rest_1 Pre_1 launch0 p0 e0 about1 theMethod args0 below0 :=
  ⟨lists_1, trivial, launch0.admits_env _ _ _, launch0.least_env, fairChoices_fair.cas, fairChoices_fair.clock, w_frames, w_args, w_heap, w_applies, trivial, w_rest, w_case⟩
end start1
theorem witness_1 : WitnessClaimed_1 := ⟨start1.p0, start1.e0, start1.about1, start1.theMethod, start1.args0, start1.below0, start1.atStart⟩
end Jvm.Pilot.@@N@@
