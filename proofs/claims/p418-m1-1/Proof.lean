import JvmDerived
import JvmDerived.Pilot.@@N@@Statement
import JvmDerived.Pilot.@@N@@Code
set_option linter.unusedVariables false
set_option linter.unusedSimpArgs false
namespace Jvm.Ow
open Sem ClassFile Op Lib Jvm.Stand Jvm.Free Jvm.LawKit Jvm.RoadKit
/-- what one invocation runs over -/
abbrev Cx : Type := Program × Launch × Env × State × MethodId × Array Value × List Frame × Method × Code
def Cx.p (x : Cx) : Program := x.1
def Cx.l (x : Cx) : Launch := x.2.1
def Cx.e (x : Cx) : Env := x.2.2.1
def Cx.s (x : Cx) : State := x.2.2.2.1
def Cx.m (x : Cx) : MethodId := x.2.2.2.2.1
def Cx.args (x : Cx) : Array Value := x.2.2.2.2.2.1
def Cx.below (x : Cx) : List Frame := x.2.2.2.2.2.2.1
def Cx.meth (x : Cx) : Method := x.2.2.2.2.2.2.2.1
def Cx.c (x : Cx) : Code := x.2.2.2.2.2.2.2.2
/-- a body: its name, bytes, max_locals, return type, room, and the table words of the case -/
abbrev Bd : Type := MethodName × ByteArray × Nat × Option FieldType × Room × List Cond
abbrev Bd.y (b : Bd) : MethodName := b.1
abbrev Bd.by (b : Bd) : ByteArray := b.2.1
abbrev Bd.ml (b : Bd) : Nat := b.2.2.1
abbrev Bd.rt (b : Bd) : Option FieldType := b.2.2.2.1
abbrev Bd.R (b : Bd) : Room := b.2.2.2.2.1
abbrev Bd.tb (b : Bd) : List Cond := b.2.2.2.2.2
def Wd (Z : State) (tb : List Cond) : Prop := ∃ a0 : Array Value, ∀ d ∈ tb, d.before a0 Z = true
def En (Z : State) (x : Cx) (B : Bd) : Prop := x.p.tables.exec = Jvm.exec ∧ x.c.code = B.by ∧ x.c.maxLocals = B.ml ∧ x.s.vm.findClass B.y.cls = some x.m.cls ∧ x.meth.name = B.y.name ∧ x.meth.sig.returnType = B.rt ∧ Z.Warmed39 x.s.vm ∧ x.meth.locks = false ∧ Wd Z B.tb
/-- the invocation stands at T, whose heap is h; k cells and n slots were made; nothing of the start's heap was written -/
def Sp (Z : State) (x : Cx) (B : Bd) (T : State) (k n : Nat) (h : Heap) : Prop := En Z x B ∧ Ext Z.heap h ∧ ∃ locs, Stand x.p x.l x.e B.R x.s x.m x.args x.below x.meth x.c T locs k n ∧ T.heap = h ∧ Fr Z.heap.size locs
/-- from T with this frame the invocation ends as Q says -/
def Rn (Q : Option Value → Heap → Prop) (Z : State) (x : Cx) (B : Bd) (T : State) (pc : Nat) (Ls : Array Slot) (st : List Value) : Prop :=
  ∃ t o, Steps x.p.tables x.e x.below (T.setTop (mkF x.m pc Ls st)) t ∧ t.status = .running ∧ Ended t x.below o ∧ ∃ v L, o = .returned v ∧ (Q v t.heap ∧ Ext Z.heap t.heap ∧ Fr Z.heap.size L) ∧ FrameEnd x.s o t L B.R.cells B.R.slots
/-- from every point with this heap and this frame the invocation ends as Q says -/
def Go (Q : Option Value → Heap → Prop) (Z : State) (B : Bd) (k n : Nat) (h : Heap) (pc : Nat) (Ls : Array Slot) (st : List Value) : Prop := ∀ (x : Cx) (T : State), Sp Z x B T k n h → Rn Q Z x B T pc Ls st
/-- a body's contract: from the heap h0, with the arguments as, it returns v at a heap h with Q v h -/
def Con (Z : State) (B : Bd) (as : Array Value) (h0 : Heap) (Q : Option Value → Heap → Prop) : Prop :=
  Ext Z.heap h0 → ∀ (l : Launch) (ws : List Cond), MetFree l B.y (head1 (Cond.code B.y B.by B.ml B.rt :: ws) B.R) (fun a U => a = as ∧ Z.Warmed39 U.vm ∧ U.heap = h0) (fun _ _ _ _ _ => True)
    (fun _ U o U' => ∃ v L, o = .returned v ∧ (Q v U'.heap ∧ Ext Z.heap U'.heap ∧ Fr Z.heap.size L) ∧ FrameEnd U o U' L B.R.cells B.R.slots)
/-- an array: its values -/
def Ary (Z : State) (h : Heap) (a : Addr) (ty : FieldType) (vs : List Value) : Prop := ∃ c : Cell, Arr Z h a c ty ∧ c.slots.toList = vs ∧ vs.length < 2 ^ 31 ∧ ∀ v ∈ vs, fits ty v = true
/-- an array over objects of class C -/
def Aov (Z : State) (h : Heap) (a : Addr) (C : String) : Prop := ∃ c : Cell, h[a]? = some c ∧ Ovr Z c.cls C
section St
variable {Q : Option Value → Heap → Prop} {Z : State} {x : Cx} {B : Bd} {T : State} {k n : Nat} {h h' : Heap} {pc : Nat} {Ls Ls' : Array Slot} {st rest : List Value}
theorem Wd.w {tb : List Cond} (W : Wd Z tb) : ∃ a0 : Array Value, ∀ {i : Nat} {d : Cond}, tb[i]? = some d → d.before a0 Z = true := by
  obtain ⟨a0, hw⟩ := W; exact ⟨a0, fun hi => hw _ (List.mem_of_getElem? hi)⟩
theorem Con.mk {as : Array Value} {h0 : Heap} (hw : Wd Z B.tb) (hpn : plainName B.y.cls = true) (hef : ∀ m, entryFrame m as B.ml = mkF m 0 Ls [])
    (body : Go Q Z B 0 0 h0 0 Ls []) : Con Z B as h0 Q := by
  intro hE l ws
  refine MetFree.of_bodySF (plainFor_of_name hpn) hisR ?_
  intro p e s m args below meth c s₁ Bd hml0 hP hK
  obtain ⟨rfl, hZ, hh⟩ := hP
  have X0 : Stand p l e B.R s m args below meth c s₁ [] 0 0 := Stand.of_body Bd
  have e0 : s₁.heap = h0 := by rw [← hh, Bd.state]; rfl
  obtain ⟨t, o, h1, h2, h3, h4⟩ := body (p, l, e, s, m, args, below, meth, c) s₁ ⟨⟨Bd.exec, Bd.bytes, hml0, findClass_of_methodNamed Bd.named, (name_of_methodNamed Bd.named Bd.method).1, Bd.returns, hZ, Bd.notSynchronized, hw⟩, hE, [], X0, e0, Fr.nil _⟩
  exact ⟨t, o, castTop (hef m) h1, h2, h3, h4⟩
theorem Con.post {as : Array Value} {h0 : Heap} {Q' : Option Value → Heap → Prop} (C : Con Z B as h0 Q) (q : ∀ v h, Q v h → Q' v h) : Con Z B as h0 Q' := fun hE l ws =>
  (C hE l ws).mono (fun _ _ h => h) (fun _ _ _ _ _ h => h) fun _ _ _ _ _ ⟨v, L, h1, h2, h3⟩ => ⟨v, L, h1, ⟨q _ _ h2.1, h2.2⟩, h3⟩
theorem Sp.here (P : Sp Z x B T k n h) : At T x.m x.c x.below := by obtain ⟨_, _, _, X, _⟩ := P; exact X.here
theorem Sp.ex (P : Sp Z x B T k n h) : x.p.tables.exec = Jvm.exec := P.1.1
theorem Sp.d (P : Sp Z x B T k n h) {r : Except DecodeError (Instr × Nat)} (hd : decode B.by pc = r) : decode x.c.code pc = r := by rw [P.1.2.1]; exact hd
theorem Sp.old (P : Sp Z x B T k n h) : Ext Z.heap h := P.2.1
theorem Sp.wd (P : Sp Z x B T k n h) : Wd Z B.tb := P.1.2.2.2.2.2.2.2.2
theorem Sp.le (P : Sp Z x B T k n h) : Z.heap.size ≤ h.size := P.2.1.1
theorem lift {T' : State} {pc' : Nat} {st' : List Value} (f : ∀ t, Steps x.p.tables x.e x.below (T'.setTop (mkF x.m pc' Ls' st')) t → Steps x.p.tables x.e x.below (T.setTop (mkF x.m pc Ls st)) t) (r : Rn Q Z x B T' pc' Ls' st') : Rn Q Z x B T pc Ls st := by
  obtain ⟨t, o, h1, h2⟩ := r; exact ⟨t, o, f t h1, h2⟩
theorem liftS {T' : State} {pc' : Nat} {st' : List Value} (f : Steps x.p.tables x.e x.below (T.setTop (mkF x.m pc Ls st)) (T'.setTop (mkF x.m pc' Ls' st'))) (r : Rn Q Z x B T' pc' Ls' st') : Rn Q Z x B T pc Ls st := by
  obtain ⟨t, o, h1, h2⟩ := r; exact ⟨t, o, f.trans h1, h2⟩
theorem Go.nameI {z : Int32} (r : ∀ v, z = v → Go Q Z B k n h pc Ls (.int v :: st)) : Go Q Z B k n h pc Ls (.int z :: st) := r z rfl
theorem Go.nameJ {z : Int64} (r : ∀ v, z = v → Go Q Z B k n h pc Ls (.long v :: st)) : Go Q Z B k n h pc Ls (.long z :: st) := r z rfl
theorem Go.nameD {z : UInt64} (r : ∀ v, z = v → Go Q Z B k n h pc Ls (.double v :: st)) : Go Q Z B k n h pc Ls (.double z :: st) := r z rfl
theorem Go.eqI {z w : Int32} (e : z = w) (r : Go Q Z B k n h pc Ls (.int w :: st)) : Go Q Z B k n h pc Ls (.int z :: st) := e ▸ r
theorem Go.eqJ {z w : Int64} (e : z = w) (r : Go Q Z B k n h pc Ls (.long w :: st)) : Go Q Z B k n h pc Ls (.long z :: st) := e ▸ r
theorem Go.eqD {z w : UInt64} (e : z = w) (r : Go Q Z B k n h pc Ls (.double w :: st)) : Go Q Z B k n h pc Ls (.double z :: st) := e ▸ r
theorem Go.joinI {pcJ : Nat} {LsJ : Array Slot} {stJ : List Value} (G : Int32 → Prop) (s : (∀ v, G v → Go Q Z B k n h pcJ LsJ (.int v :: stJ)) → Go Q Z B k n h pc Ls st) (r : ∀ v, G v → Go Q Z B k n h pcJ LsJ (.int v :: stJ)) : Go Q Z B k n h pc Ls st := s r
theorem cut {G : Prop} (X : Prop) (s : X → G) (r : X) : G := s r
theorem Go.old (r : Ext Z.heap h → Go Q Z B k n h pc Ls st) : Go Q Z B k n h pc Ls st := fun x T P => r P.old x T P
theorem Go.more {k' n' : Nat} (hk : k ≤ k') (hn : n ≤ n') (r : Go Q Z B k' n' h pc Ls st) : Go Q Z B k n h pc Ls st := fun x T P => r x T (by
  obtain ⟨E, O, locs, X, e, N⟩ := P
  exact ⟨E, O, locs, { X with same := X.same.mono hk hn }, e, N⟩)
theorem Go.iload (pc' : Nat) (hp : pc + 2 = pc') {i : Nat} {v : Int32} (hd : decode B.by pc = .ok (.iload i, 2)) (hl : Ls[i]? = some (.val (.int v))) (r : Go Q Z B k n h pc' Ls (.int v :: st)) : Go Q Z B k n h pc Ls (st) := fun x T P => by
  subst hp; exact lift (fun t q => XS.iload P.here P.ex rfl (P.d hd) hl q) (r x T P)
theorem Go.iloadN (pc' : Nat) (hp : pc + 1 = pc') {i : Fin 4} {v : Int32} (hd : decode B.by pc = .ok (.iload_n i, 1)) (hl : Ls[i.val]? = some (.val (.int v))) (r : Go Q Z B k n h pc' Ls (.int v :: st)) : Go Q Z B k n h pc Ls (st) := fun x T P => by
  subst hp; exact lift (fun t q => XS.iloadN P.here P.ex rfl (P.d hd) hl q) (r x T P)
theorem Go.istore (pc' : Nat) (hp : pc + 2 = pc') {i : Nat} {v : Int32} (hd : decode B.by pc = .ok (.istore i, 2))  (hl : storeLocals Ls i (.int v) = some Ls') (r : Go Q Z B k n h pc' Ls' (st)) : Go Q Z B k n h pc Ls (.int v :: st) := fun x T P => by
  subst hp; exact lift (fun t q => XS.istore P.here P.ex rfl (P.d hd) rfl hl q) (r x T P)
theorem Go.istoreN (pc' : Nat) (hp : pc + 1 = pc') {i : Fin 4} {v : Int32} (hd : decode B.by pc = .ok (.istore_n i, 1))  (hl : storeLocals Ls i.val (.int v) = some Ls') (r : Go Q Z B k n h pc' Ls' (st)) : Go Q Z B k n h pc Ls (.int v :: st) := fun x T P => by
  subst hp; exact lift (fun t q => XS.istoreN P.here P.ex rfl (P.d hd) rfl hl q) (r x T P)
theorem Go.lload (pc' : Nat) (hp : pc + 2 = pc') {i : Nat} {v : Int64} (hd : decode B.by pc = .ok (.lload i, 2)) (hl : Ls[i]? = some (.val (.long v))) (r : Go Q Z B k n h pc' Ls (.long v :: st)) : Go Q Z B k n h pc Ls (st) := fun x T P => by
  subst hp; exact lift (fun t q => XT.lload P.here P.ex rfl (P.d hd) hl q) (r x T P)
theorem Go.lloadN (pc' : Nat) (hp : pc + 1 = pc') {i : Fin 4} {v : Int64} (hd : decode B.by pc = .ok (.lload_n i, 1)) (hl : Ls[i.val]? = some (.val (.long v))) (r : Go Q Z B k n h pc' Ls (.long v :: st)) : Go Q Z B k n h pc Ls (st) := fun x T P => by
  subst hp; exact lift (fun t q => XT.lloadN P.here P.ex rfl (P.d hd) hl q) (r x T P)
theorem Go.lstore (pc' : Nat) (hp : pc + 2 = pc') {i : Nat} {v : Int64} (hd : decode B.by pc = .ok (.lstore i, 2))  (hl : storeLocals Ls i (.long v) = some Ls') (r : Go Q Z B k n h pc' Ls' (st)) : Go Q Z B k n h pc Ls (.long v :: st) := fun x T P => by
  subst hp; exact lift (fun t q => XT.lstore P.here P.ex rfl (P.d hd) rfl hl q) (r x T P)
theorem Go.lstoreN (pc' : Nat) (hp : pc + 1 = pc') {i : Fin 4} {v : Int64} (hd : decode B.by pc = .ok (.lstore_n i, 1))  (hl : storeLocals Ls i.val (.long v) = some Ls') (r : Go Q Z B k n h pc' Ls' (st)) : Go Q Z B k n h pc Ls (.long v :: st) := fun x T P => by
  subst hp; exact lift (fun t q => XT.lstoreN P.here P.ex rfl (P.d hd) rfl hl q) (r x T P)
theorem Go.aload (pc' : Nat) (hp : pc + 2 = pc') {i : Nat} {v : Value} (hd : decode B.by pc = .ok (.aload i, 2)) (hl : Ls[i]? = some (.val (v))) (hv : v.isRef = true) (r : Go Q Z B k n h pc' Ls (v :: st)) : Go Q Z B k n h pc Ls (st) := fun x T P => by
  subst hp; exact lift (fun t q => XS.aload P.here P.ex rfl (P.d hd) hl hv q) (r x T P)
theorem Go.aloadN (pc' : Nat) (hp : pc + 1 = pc') {i : Fin 4} {v : Value} (hd : decode B.by pc = .ok (.aload_n i, 1)) (hl : Ls[i.val]? = some (.val (v))) (hv : v.isRef = true) (r : Go Q Z B k n h pc' Ls (v :: st)) : Go Q Z B k n h pc Ls (st) := fun x T P => by
  subst hp; exact lift (fun t q => XS.aloadN P.here P.ex rfl (P.d hd) hl hv q) (r x T P)
theorem Go.astore (pc' : Nat) (hp : pc + 2 = pc') {i : Nat} {v : Value} (hd : decode B.by pc = .ok (.astore i, 2))  (hv : v.isRef = true) (hl : storeLocals Ls i (v) = some Ls') (r : Go Q Z B k n h pc' Ls' (st)) : Go Q Z B k n h pc Ls (v :: st) := fun x T P => by
  subst hp; exact lift (fun t q => XS.astore P.here P.ex rfl (P.d hd) rfl hv hl q) (r x T P)
theorem Go.astoreN (pc' : Nat) (hp : pc + 1 = pc') {i : Fin 4} {v : Value} (hd : decode B.by pc = .ok (.astore_n i, 1))  (hv : v.isRef = true) (hl : storeLocals Ls i.val (v) = some Ls') (r : Go Q Z B k n h pc' Ls' (st)) : Go Q Z B k n h pc Ls (v :: st) := fun x T P => by
  subst hp; exact lift (fun t q => XS.astoreN P.here P.ex rfl (P.d hd) rfl hv hl q) (r x T P)
theorem Go.dload (pc' : Nat) (hp : pc + 2 = pc') {i : Nat} {v : UInt64} (hd : decode B.by pc = .ok (.dload i, 2)) (hl : Ls[i]? = some (.val (.double v))) (r : Go Q Z B k n h pc' Ls (.double v :: st)) : Go Q Z B k n h pc Ls (st) := fun x T P => by
  subst hp; exact lift (fun t q => XS.dload P.here P.ex rfl (P.d hd) hl q) (r x T P)
theorem Go.dloadN (pc' : Nat) (hp : pc + 1 = pc') {i : Fin 4} {v : UInt64} (hd : decode B.by pc = .ok (.dload_n i, 1)) (hl : Ls[i.val]? = some (.val (.double v))) (r : Go Q Z B k n h pc' Ls (.double v :: st)) : Go Q Z B k n h pc Ls (st) := fun x T P => by
  subst hp; exact lift (fun t q => XS.dloadN P.here P.ex rfl (P.d hd) hl q) (r x T P)
theorem Go.dstore (pc' : Nat) (hp : pc + 2 = pc') {i : Nat} {v : UInt64} (hd : decode B.by pc = .ok (.dstore i, 2))  (hl : storeLocals Ls i (.double v) = some Ls') (r : Go Q Z B k n h pc' Ls' (st)) : Go Q Z B k n h pc Ls (.double v :: st) := fun x T P => by
  subst hp; exact lift (fun t q => XS.dstore P.here P.ex rfl (P.d hd) rfl hl q) (r x T P)
theorem Go.dstoreN (pc' : Nat) (hp : pc + 1 = pc') {i : Fin 4} {v : UInt64} (hd : decode B.by pc = .ok (.dstore_n i, 1))  (hl : storeLocals Ls i.val (.double v) = some Ls') (r : Go Q Z B k n h pc' Ls' (st)) : Go Q Z B k n h pc Ls (.double v :: st) := fun x T P => by
  subst hp; exact lift (fun t q => XS.dstoreN P.here P.ex rfl (P.d hd) rfl hl q) (r x T P)
theorem Go.iconst (pc' : Nat) (hp : pc + 1 = pc') {i : Int} (v : Int32) (hd : decode B.by pc = .ok (.iconst i, 1)) (hv : Int32.ofInt i = v) (r : Go Q Z B k n h pc' Ls (.int v :: st)) : Go Q Z B k n h pc Ls (st) := fun x T P => by
  subst hp; exact lift (fun t q => XT.iconstV P.here P.ex rfl v (P.d hd) hv q) (r x T P)
theorem Go.bipush (pc' : Nat) (hp : pc + 2 = pc') {i : Int} (v : Int32) (hd : decode B.by pc = .ok (.bipush i, 2)) (hv : (Int8.ofInt i).toInt32 = v) (r : Go Q Z B k n h pc' Ls (.int v :: st)) : Go Q Z B k n h pc Ls (st) := fun x T P => by
  subst hp; exact lift (fun t q => XT.bipushV P.here P.ex rfl v (P.d hd) hv q) (r x T P)
theorem Go.sipush (pc' : Nat) (hp : pc + 3 = pc') {i : Int} (v : Int32) (hd : decode B.by pc = .ok (.sipush i, 3)) (hv : (Int16.ofInt i).toInt32 = v) (r : Go Q Z B k n h pc' Ls (.int v :: st)) : Go Q Z B k n h pc Ls (st) := fun x T P => by
  subst hp; exact lift (fun t q => XT.sipushV P.here P.ex rfl v (P.d hd) hv q) (r x T P)
theorem Go.lconst (pc' : Nat) (hp : pc + 1 = pc') {i : Fin 2} (v : Int64) (hd : decode B.by pc = .ok (.lconst i, 1)) (hv : Int64.ofNat i = v) (r : Go Q Z B k n h pc' Ls (.long v :: st)) : Go Q Z B k n h pc Ls (st) := fun x T P => by
  subst hp; exact lift (fun t q => XT.lconstV P.here P.ex rfl v (P.d hd) hv q) (r x T P)
theorem Go.aconstNull (pc' : Nat) (hp : pc + 1 = pc')  (hd : decode B.by pc = .ok (.aconst_null, 1))  (r : Go Q Z B k n h pc' Ls (.null :: st)) : Go Q Z B k n h pc Ls (st) := fun x T P => by
  subst hp; exact lift (fun t q => XS.aconstNull P.here P.ex rfl (P.d hd) q) (r x T P)
theorem Go.iadd (pc' : Nat) (hp : pc + 1 = pc') {x1 y1 : Int32} (hd : decode B.by pc = .ok (.iadd, 1))  (r : Go Q Z B k n h pc' Ls (.int (x1 + y1) :: st)) : Go Q Z B k n h pc Ls (.int y1 :: .int x1 :: st) := fun x T P => by
  subst hp; exact lift (fun t q => XS.iadd P.here P.ex rfl (P.d hd) rfl q) (r x T P)
theorem Go.isub (pc' : Nat) (hp : pc + 1 = pc') {x1 y1 : Int32} (hd : decode B.by pc = .ok (.isub, 1))  (r : Go Q Z B k n h pc' Ls (.int (x1 - y1) :: st)) : Go Q Z B k n h pc Ls (.int y1 :: .int x1 :: st) := fun x T P => by
  subst hp; exact lift (fun t q => XS.isub P.here P.ex rfl (P.d hd) rfl q) (r x T P)
theorem Go.iand (pc' : Nat) (hp : pc + 1 = pc') {x1 y1 : Int32} (hd : decode B.by pc = .ok (.iand, 1))  (r : Go Q Z B k n h pc' Ls (.int (x1 &&& y1) :: st)) : Go Q Z B k n h pc Ls (.int y1 :: .int x1 :: st) := fun x T P => by
  subst hp; exact lift (fun t q => XS.iand P.here P.ex rfl (P.d hd) rfl q) (r x T P)
theorem Go.imul (pc' : Nat) (hp : pc + 1 = pc') {x1 y1 : Int32} (hd : decode B.by pc = .ok (.imul, 1))  (r : Go Q Z B k n h pc' Ls (.int (x1 * y1) :: st)) : Go Q Z B k n h pc Ls (.int y1 :: .int x1 :: st) := fun x T P => by
  subst hp; exact lift (fun t q => XS.imul P.here P.ex rfl (P.d hd) rfl q) (r x T P)
theorem Go.ixor (pc' : Nat) (hp : pc + 1 = pc') {x1 y1 : Int32} (hd : decode B.by pc = .ok (.ixor, 1))  (r : Go Q Z B k n h pc' Ls (.int (x1 ^^^ y1) :: st)) : Go Q Z B k n h pc Ls (.int y1 :: .int x1 :: st) := fun x T P => by
  subst hp; exact lift (fun t q => XT.ixor P.here P.ex rfl (P.d hd) rfl q) (r x T P)
theorem Go.ior (pc' : Nat) (hp : pc + 1 = pc') {x1 y1 : Int32} (hd : decode B.by pc = .ok (.ior, 1))  (r : Go Q Z B k n h pc' Ls (.int (x1 ||| y1) :: st)) : Go Q Z B k n h pc Ls (.int y1 :: .int x1 :: st) := fun x T P => by
  subst hp; exact lift (fun t q => XT.ior P.here P.ex rfl (P.d hd) rfl q) (r x T P)
theorem Go.ishl (pc' : Nat) (hp : pc + 1 = pc') {x1 y1 : Int32} (hd : decode B.by pc = .ok (.ishl, 1))  (r : Go Q Z B k n h pc' Ls (.int (x1 <<< (y1 &&& 31)) :: st)) : Go Q Z B k n h pc Ls (.int y1 :: .int x1 :: st) := fun x T P => by
  subst hp; exact lift (fun t q => XT.ishl P.here P.ex rfl (P.d hd) rfl q) (r x T P)
theorem Go.ishr (pc' : Nat) (hp : pc + 1 = pc') {x1 y1 : Int32} (hd : decode B.by pc = .ok (.ishr, 1))  (r : Go Q Z B k n h pc' Ls (.int (x1 >>> (y1 &&& 31)) :: st)) : Go Q Z B k n h pc Ls (.int y1 :: .int x1 :: st) := fun x T P => by
  subst hp; exact lift (fun t q => XT.ishr P.here P.ex rfl (P.d hd) rfl q) (r x T P)
theorem Go.iushr (pc' : Nat) (hp : pc + 1 = pc') {x1 y1 : Int32} (hd : decode B.by pc = .ok (.iushr, 1))  (r : Go Q Z B k n h pc' Ls (.int (XT.ushr x1 y1) :: st)) : Go Q Z B k n h pc Ls (.int y1 :: .int x1 :: st) := fun x T P => by
  subst hp; exact lift (fun t q => XT.iushr P.here P.ex rfl (P.d hd) rfl q) (r x T P)
theorem Go.idiv (pc' : Nat) (hp : pc + 1 = pc') {x1 y1 : Int32} (hd : decode B.by pc = .ok (.idiv, 1)) (hy : y1 ≠ 0) (r : Go Q Z B k n h pc' Ls (.int (x1 / y1) :: st)) : Go Q Z B k n h pc Ls (.int y1 :: .int x1 :: st) := fun x T P => by
  subst hp; exact lift (fun t q => XS.idiv P.here P.ex rfl (P.d hd) rfl hy q) (r x T P)
theorem Go.ladd (pc' : Nat) (hp : pc + 1 = pc') {x1 y1 : Int64} (hd : decode B.by pc = .ok (.ladd, 1))  (r : Go Q Z B k n h pc' Ls (.long (x1 + y1) :: st)) : Go Q Z B k n h pc Ls (.long y1 :: .long x1 :: st) := fun x T P => by
  subst hp; exact lift (fun t q => XT.ladd P.here P.ex rfl (P.d hd) rfl q) (r x T P)
theorem Go.lsub (pc' : Nat) (hp : pc + 1 = pc') {x1 y1 : Int64} (hd : decode B.by pc = .ok (.lsub, 1))  (r : Go Q Z B k n h pc' Ls (.long (x1 - y1) :: st)) : Go Q Z B k n h pc Ls (.long y1 :: .long x1 :: st) := fun x T P => by
  subst hp; exact lift (fun t q => XT.lsub P.here P.ex rfl (P.d hd) rfl q) (r x T P)
theorem Go.land (pc' : Nat) (hp : pc + 1 = pc') {x1 y1 : Int64} (hd : decode B.by pc = .ok (.land, 1))  (r : Go Q Z B k n h pc' Ls (.long (x1 &&& y1) :: st)) : Go Q Z B k n h pc Ls (.long y1 :: .long x1 :: st) := fun x T P => by
  subst hp; exact lift (fun t q => XT.land P.here P.ex rfl (P.d hd) rfl q) (r x T P)
theorem Go.lmul (pc' : Nat) (hp : pc + 1 = pc') {x1 y1 : Int64} (hd : decode B.by pc = .ok (.lmul, 1))  (r : Go Q Z B k n h pc' Ls (.long (x1 * y1) :: st)) : Go Q Z B k n h pc Ls (.long y1 :: .long x1 :: st) := fun x T P => by
  subst hp; exact lift (fun t q => XT.lmul P.here P.ex rfl (P.d hd) rfl q) (r x T P)
theorem Go.lxor (pc' : Nat) (hp : pc + 1 = pc') {x1 y1 : Int64} (hd : decode B.by pc = .ok (.lxor, 1))  (r : Go Q Z B k n h pc' Ls (.long (x1 ^^^ y1) :: st)) : Go Q Z B k n h pc Ls (.long y1 :: .long x1 :: st) := fun x T P => by
  subst hp; exact lift (fun t q => XT.lxor P.here P.ex rfl (P.d hd) rfl q) (r x T P)
theorem Go.lor (pc' : Nat) (hp : pc + 1 = pc') {x1 y1 : Int64} (hd : decode B.by pc = .ok (.lor, 1))  (r : Go Q Z B k n h pc' Ls (.long (x1 ||| y1) :: st)) : Go Q Z B k n h pc Ls (.long y1 :: .long x1 :: st) := fun x T P => by
  subst hp; exact lift (fun t q => XT.lor P.here P.ex rfl (P.d hd) rfl q) (r x T P)
theorem Go.lshl (pc' : Nat) (hp : pc + 1 = pc') {x1 : Int64} {y1 : Int32} (hd : decode B.by pc = .ok (.lshl, 1))  (r : Go Q Z B k n h pc' Ls (.long (x1 <<< (y1.toInt64 &&& 63)) :: st)) : Go Q Z B k n h pc Ls (.int y1 :: .long x1 :: st) := fun x T P => by
  subst hp; exact lift (fun t q => XT.lshl P.here P.ex rfl (P.d hd) rfl q) (r x T P)
theorem Go.lshr (pc' : Nat) (hp : pc + 1 = pc') {x1 : Int64} {y1 : Int32} (hd : decode B.by pc = .ok (.lshr, 1))  (r : Go Q Z B k n h pc' Ls (.long (x1 >>> (y1.toInt64 &&& 63)) :: st)) : Go Q Z B k n h pc Ls (.int y1 :: .long x1 :: st) := fun x T P => by
  subst hp; exact lift (fun t q => XT.lshr P.here P.ex rfl (P.d hd) rfl q) (r x T P)
theorem Go.lushr (pc' : Nat) (hp : pc + 1 = pc') {x1 : Int64} {y1 : Int32} (hd : decode B.by pc = .ok (.lushr, 1))  (r : Go Q Z B k n h pc' Ls (.long (XT.ushrL x1 y1) :: st)) : Go Q Z B k n h pc Ls (.int y1 :: .long x1 :: st) := fun x T P => by
  subst hp; exact lift (fun t q => XT.lushr P.here P.ex rfl (P.d hd) rfl q) (r x T P)
theorem Go.ldiv (pc' : Nat) (hp : pc + 1 = pc') {x1 y1 : Int64} (hd : decode B.by pc = .ok (.ldiv, 1)) (hy : y1 ≠ 0) (r : Go Q Z B k n h pc' Ls (.long (x1 / y1) :: st)) : Go Q Z B k n h pc Ls (.long y1 :: .long x1 :: st) := fun x T P => by
  subst hp; exact lift (fun t q => XT.ldiv P.here P.ex rfl (P.d hd) rfl hy q) (r x T P)
theorem Go.lrem (pc' : Nat) (hp : pc + 1 = pc') {x1 y1 : Int64} (hd : decode B.by pc = .ok (.lrem, 1)) (hy : y1 ≠ 0) (r : Go Q Z B k n h pc' Ls (.long (x1 % y1) :: st)) : Go Q Z B k n h pc Ls (.long y1 :: .long x1 :: st) := fun x T P => by
  subst hp; exact lift (fun t q => XT.lrem P.here P.ex rfl (P.d hd) rfl hy (by rw [lrem_mod]; exact q)) (r x T P)
theorem Go.lneg (pc' : Nat) (hp : pc + 1 = pc') {x1 : Int64} (hd : decode B.by pc = .ok (.lneg, 1))  (r : Go Q Z B k n h pc' Ls (.long (-x1) :: st)) : Go Q Z B k n h pc Ls (.long x1 :: st) := fun x T P => by
  subst hp; exact lift (fun t q => XT.lneg P.here P.ex rfl (P.d hd) rfl q) (r x T P)
theorem Go.ineg (pc' : Nat) (hp : pc + 1 = pc') {x1 : Int32} (hd : decode B.by pc = .ok (.ineg, 1))  (r : Go Q Z B k n h pc' Ls (.int (-x1) :: st)) : Go Q Z B k n h pc Ls (.int x1 :: st) := fun x T P => by
  subst hp; exact lift (fun t q => XS.ineg P.here P.ex rfl (P.d hd) rfl q) (r x T P)
theorem Go.i2l (pc' : Nat) (hp : pc + 1 = pc') {x1 : Int32} (hd : decode B.by pc = .ok (.i2l, 1))  (r : Go Q Z B k n h pc' Ls (.long x1.toInt64 :: st)) : Go Q Z B k n h pc Ls (.int x1 :: st) := fun x T P => by
  subst hp; exact lift (fun t q => XT.i2l P.here P.ex rfl (P.d hd) rfl q) (r x T P)
theorem Go.l2i (pc' : Nat) (hp : pc + 1 = pc') {x1 : Int64} (hd : decode B.by pc = .ok (.l2i, 1))  (r : Go Q Z B k n h pc' Ls (.int x1.toInt32 :: st)) : Go Q Z B k n h pc Ls (.long x1 :: st) := fun x T P => by
  subst hp; exact lift (fun t q => XT.l2i P.here P.ex rfl (P.d hd) rfl q) (r x T P)
theorem Go.i2b (pc' : Nat) (hp : pc + 1 = pc') {x1 : Int32} (hd : decode B.by pc = .ok (.i2b, 1))  (r : Go Q Z B k n h pc' Ls (.int x1.toInt8.toInt32 :: st)) : Go Q Z B k n h pc Ls (.int x1 :: st) := fun x T P => by
  subst hp; exact lift (fun t q => XT.i2b P.here P.ex rfl (P.d hd) rfl q) (r x T P)
theorem Go.i2c (pc' : Nat) (hp : pc + 1 = pc') {x1 : Int32} (hd : decode B.by pc = .ok (.i2c, 1))  (r : Go Q Z B k n h pc' Ls (.int x1.toUInt32.toUInt16.toUInt32.toInt32 :: st)) : Go Q Z B k n h pc Ls (.int x1 :: st) := fun x T P => by
  subst hp; exact lift (fun t q => XT.i2c P.here P.ex rfl (P.d hd) rfl q) (r x T P)
theorem Go.i2s (pc' : Nat) (hp : pc + 1 = pc') {x1 : Int32} (hd : decode B.by pc = .ok (.i2s, 1))  (r : Go Q Z B k n h pc' Ls (.int x1.toInt16.toInt32 :: st)) : Go Q Z B k n h pc Ls (.int x1 :: st) := fun x T P => by
  subst hp; exact lift (fun t q => XT.i2s P.here P.ex rfl (P.d hd) rfl q) (r x T P)
theorem Go.lcmp (pc' : Nat) (hp : pc + 1 = pc') {x1 y1 : Int64} (hd : decode B.by pc = .ok (.lcmp, 1))  (r : Go Q Z B k n h pc' Ls (.int (XT.cmpL x1 y1) :: st)) : Go Q Z B k n h pc Ls (.long y1 :: .long x1 :: st) := fun x T P => by
  subst hp; exact lift (fun t q => XT.lcmp P.here P.ex rfl (P.d hd) rfl q) (r x T P)
theorem Go.i2d (pc' : Nat) (hp : pc + 1 = pc') {x1 : Int32} (hd : decode B.by pc = .ok (.i2d, 1))  (r : Go Q Z B k n h pc' Ls (.double (FP.i2d x1) :: st)) : Go Q Z B k n h pc Ls (.int x1 :: st) := fun x T P => by
  subst hp; exact lift (fun t q => XS.i2dS P.here P.ex rfl (P.d hd) rfl rfl q) (r x T P)
theorem Go.l2d (pc' : Nat) (hp : pc + 1 = pc') {x1 : Int64} (hd : decode B.by pc = .ok (.l2d, 1))  (r : Go Q Z B k n h pc' Ls (.double (FP.l2d x1) :: st)) : Go Q Z B k n h pc Ls (.long x1 :: st) := fun x T P => by
  subst hp; exact lift (fun t q => XS.l2dS P.here P.ex rfl (P.d hd) rfl rfl q) (r x T P)
theorem Go.dcmp (pc' : Nat) (hp : pc + 1 = pc') {o : CmpOp} {x1 y1 : UInt64} (v : Int32) (hd : decode B.by pc = .ok (.dcmp o, 1)) (hv : cmpValue (FP.dcmp x1 y1) o = v) (r : Go Q Z B k n h pc' Ls (.int v :: st)) : Go Q Z B k n h pc Ls (.double y1 :: .double x1 :: st) := fun x T P => by
  subst hp; exact lift (fun t q => XS.dcmpS P.here P.ex rfl (P.d hd) rfl hv q) (r x T P)
theorem Go.ddiv (pc' : Nat) (hp : pc + 1 = pc') {x1 y1 : UInt64} (hd : decode B.by pc = .ok (.ddiv, 1)) (hn : Jvm.Free.Fl.NoNaN64 (FP.ddiv x1 y1)) (r : Go Q Z B k n h pc' Ls (.double (FP.ddiv x1 y1) :: st)) : Go Q Z B k n h pc Ls (.double y1 :: .double x1 :: st) := fun x T P => by
  subst hp; exact lift (fun t q => XS.ddivS P.here P.ex rfl (P.d hd) rfl hn rfl q) (r x T P)
theorem Go.dup (pc' : Nat) (hp : pc + 1 = pc') {v : Value} (hd : decode B.by pc = .ok (.dup, 1)) (hc : v.category = 1) (r : Go Q Z B k n h pc' Ls (v :: v :: st)) : Go Q Z B k n h pc Ls (v :: st) := fun x T P => by
  subst hp; exact lift (fun t q => XS.dup P.here P.ex rfl (P.d hd) rfl hc q) (r x T P)
theorem Go.pop (pc' : Nat) (hp : pc + 1 = pc') {v : Value} (hd : decode B.by pc = .ok (.pop, 1)) (hc : v.category = 1) (r : Go Q Z B k n h pc' Ls (st)) : Go Q Z B k n h pc Ls (v :: st) := fun x T P => by
  subst hp; exact lift (fun t q => XT.pop P.here P.ex rfl (P.d hd) rfl hc q) (r x T P)
theorem Go.dupX1 (pc' : Nat) (hp : pc + 1 = pc') {v w : Value} (hd : decode B.by pc = .ok (.dup_x1, 1)) (hc : v.category = 1) (hc' : w.category = 1) (r : Go Q Z B k n h pc' Ls (v :: w :: v :: st)) : Go Q Z B k n h pc Ls (v :: w :: st) := fun x T P => by
  subst hp; exact lift (fun t q => XT.dupX1 P.here P.ex rfl (P.d hd) rfl hc hc' q) (r x T P)
theorem Go.dup2 (pc' : Nat) (hp : pc + 1 = pc') {v w : Value} (hd : decode B.by pc = .ok (.dup2, 1)) (hc : v.category = 1) (hc' : w.category = 1) (r : Go Q Z B k n h pc' Ls (v :: w :: v :: w :: st)) : Go Q Z B k n h pc Ls (v :: w :: st) := fun x T P => by
  subst hp; exact lift (fun t q => XT.dup2 P.here P.ex rfl (P.d hd) rfl hc hc' q) (r x T P)
theorem Go.dup2L (pc' : Nat) (hp : pc + 1 = pc') {v : Int64} (hd : decode B.by pc = .ok (.dup2, 1))  (r : Go Q Z B k n h pc' Ls (.long v :: .long v :: st)) : Go Q Z B k n h pc Ls (.long v :: st) := fun x T P => by
  subst hp; exact lift (fun t q => XT.dup2L P.here P.ex rfl (P.d hd) rfl q) (r x T P)
theorem Go.iinc (pc' : Nat) (hp : pc + 3 = pc') {i : Nat} {cst : Int} {x1 : Int32} (v : Int32) (hd : decode B.by pc = .ok (.iinc i cst, 3)) (hv : Int32.ofInt cst = v) (hl : Ls[i]? = some (.val (.int x1))) (hl' : storeLocals Ls i (.int (x1 + v)) = some Ls') (r : Go Q Z B k n h pc' Ls' (st)) : Go Q Z B k n h pc Ls (st) := fun x T P => by
  subst hp; exact lift (fun t q => XT.iincV P.here P.ex rfl v (P.d hd) hv hl hl' q) (r x T P)
theorem Go.irem (pc' : Nat) (hp : pc + 1 = pc') {x1 y1 : Int32} (hd : decode B.by pc = .ok (.irem, 1)) (hy : y1 ≠ 0) (r : Go Q Z B k n h pc' Ls (.int (x1 % y1) :: st)) : Go Q Z B k n h pc Ls (.int y1 :: .int x1 :: st) := fun x T P => by
  subst hp; obtain ⟨_, _, _, X, _⟩ := id P; exact lift (fun t q => iremM X P.ex rfl (P.d hd) rfl hy q) (r x T P)
theorem Go.goto (pc' : Nat) {o : Int} (hd : decode B.by pc = .ok (.goto o, 3)) (h0 : 0 ≤ (pc : Int) + o) (hp : ((pc : Int) + o).toNat = pc') (r : Go Q Z B k n h pc' Ls st) : Go Q Z B k n h pc Ls st := fun x T P =>
  lift (fun t q => XS.goto P.here P.ex rfl (pc0 := pc) rfl (P.d hd) h0 hp q) (r x T P)
theorem Go.icmp_lt (pT pF : Nat) {x1 y1 : Int32} {o : Int} (hd : decode B.by pc = .ok (.if_icmp .lt o, 3)) (h0 : 0 ≤ (pc : Int) + o) (hT : ((pc : Int) + o).toNat = pT) (hF : pc + 3 = pF) (rT : x1 < y1 → Go Q Z B k n h pT Ls st) (rF : ¬ x1 < y1 → Go Q Z B k n h pF Ls st) : Go Q Z B k n h pc Ls (.int y1 :: .int x1 :: st) := fun x T P => by
  subst hF
  by_cases c : x1 < y1
  · exact lift (fun t q => XS.icmpYes P.here P.ex rfl (pc0 := pc) rfl (P.d hd) rfl (tlt c).1 h0 hT q) (rT c x T P)
  · exact lift (fun t q => XS.icmpNo P.here P.ex rfl (P.d hd) rfl (flt c).1 q) (rF c x T P)
theorem Go.if_lt (pT pF : Nat) {x1 : Int32} {o : Int} (hd : decode B.by pc = .ok (.ifCond .lt o, 3)) (h0 : 0 ≤ (pc : Int) + o) (hT : ((pc : Int) + o).toNat = pT) (hF : pc + 3 = pF) (rT : x1 < 0 → Go Q Z B k n h pT Ls st) (rF : ¬ x1 < 0 → Go Q Z B k n h pF Ls st) : Go Q Z B k n h pc Ls (.int x1 :: st) := fun x T P => by
  subst hF
  by_cases c : x1 < 0
  · exact lift (fun t q => XS.ifYes P.here P.ex rfl (pc0 := pc) rfl (P.d hd) rfl ((if0 _ _).trans (tlt c).1) h0 hT q) (rT c x T P)
  · exact lift (fun t q => XS.ifNo P.here P.ex rfl (P.d hd) rfl ((if0 _ _).trans (flt c).1) q) (rF c x T P)
theorem Go.icmp_ge (pT pF : Nat) {x1 y1 : Int32} {o : Int} (hd : decode B.by pc = .ok (.if_icmp .ge o, 3)) (h0 : 0 ≤ (pc : Int) + o) (hT : ((pc : Int) + o).toNat = pT) (hF : pc + 3 = pF) (rT : ¬ x1 < y1 → Go Q Z B k n h pT Ls st) (rF : x1 < y1 → Go Q Z B k n h pF Ls st) : Go Q Z B k n h pc Ls (.int y1 :: .int x1 :: st) := fun x T P => by
  subst hF
  by_cases c : ¬ x1 < y1
  · exact lift (fun t q => XS.icmpYes P.here P.ex rfl (pc0 := pc) rfl (P.d hd) rfl (flt c).2.1 h0 hT q) (rT c x T P)
  · replace c := Decidable.not_not.mp c
    exact lift (fun t q => XS.icmpNo P.here P.ex rfl (P.d hd) rfl (tlt c).2.1 q) (rF c x T P)
theorem Go.if_ge (pT pF : Nat) {x1 : Int32} {o : Int} (hd : decode B.by pc = .ok (.ifCond .ge o, 3)) (h0 : 0 ≤ (pc : Int) + o) (hT : ((pc : Int) + o).toNat = pT) (hF : pc + 3 = pF) (rT : ¬ x1 < 0 → Go Q Z B k n h pT Ls st) (rF : x1 < 0 → Go Q Z B k n h pF Ls st) : Go Q Z B k n h pc Ls (.int x1 :: st) := fun x T P => by
  subst hF
  by_cases c : ¬ x1 < 0
  · exact lift (fun t q => XS.ifYes P.here P.ex rfl (pc0 := pc) rfl (P.d hd) rfl ((if0 _ _).trans (flt c).2.1) h0 hT q) (rT c x T P)
  · replace c := Decidable.not_not.mp c
    exact lift (fun t q => XS.ifNo P.here P.ex rfl (P.d hd) rfl ((if0 _ _).trans (tlt c).2.1) q) (rF c x T P)
theorem Go.icmp_gt (pT pF : Nat) {x1 y1 : Int32} {o : Int} (hd : decode B.by pc = .ok (.if_icmp .gt o, 3)) (h0 : 0 ≤ (pc : Int) + o) (hT : ((pc : Int) + o).toNat = pT) (hF : pc + 3 = pF) (rT : y1 < x1 → Go Q Z B k n h pT Ls st) (rF : ¬ y1 < x1 → Go Q Z B k n h pF Ls st) : Go Q Z B k n h pc Ls (.int y1 :: .int x1 :: st) := fun x T P => by
  subst hF
  by_cases c : y1 < x1
  · exact lift (fun t q => XS.icmpYes P.here P.ex rfl (pc0 := pc) rfl (P.d hd) rfl (tlt c).2.2.1 h0 hT q) (rT c x T P)
  · exact lift (fun t q => XS.icmpNo P.here P.ex rfl (P.d hd) rfl (flt c).2.2.1 q) (rF c x T P)
theorem Go.if_gt (pT pF : Nat) {x1 : Int32} {o : Int} (hd : decode B.by pc = .ok (.ifCond .gt o, 3)) (h0 : 0 ≤ (pc : Int) + o) (hT : ((pc : Int) + o).toNat = pT) (hF : pc + 3 = pF) (rT : 0 < x1 → Go Q Z B k n h pT Ls st) (rF : ¬ 0 < x1 → Go Q Z B k n h pF Ls st) : Go Q Z B k n h pc Ls (.int x1 :: st) := fun x T P => by
  subst hF
  by_cases c : 0 < x1
  · exact lift (fun t q => XS.ifYes P.here P.ex rfl (pc0 := pc) rfl (P.d hd) rfl ((if0 _ _).trans (tlt c).2.2.1) h0 hT q) (rT c x T P)
  · exact lift (fun t q => XS.ifNo P.here P.ex rfl (P.d hd) rfl ((if0 _ _).trans (flt c).2.2.1) q) (rF c x T P)
theorem Go.icmp_le (pT pF : Nat) {x1 y1 : Int32} {o : Int} (hd : decode B.by pc = .ok (.if_icmp .le o, 3)) (h0 : 0 ≤ (pc : Int) + o) (hT : ((pc : Int) + o).toNat = pT) (hF : pc + 3 = pF) (rT : ¬ y1 < x1 → Go Q Z B k n h pT Ls st) (rF : y1 < x1 → Go Q Z B k n h pF Ls st) : Go Q Z B k n h pc Ls (.int y1 :: .int x1 :: st) := fun x T P => by
  subst hF
  by_cases c : ¬ y1 < x1
  · exact lift (fun t q => XS.icmpYes P.here P.ex rfl (pc0 := pc) rfl (P.d hd) rfl (flt c).2.2.2 h0 hT q) (rT c x T P)
  · replace c := Decidable.not_not.mp c
    exact lift (fun t q => XS.icmpNo P.here P.ex rfl (P.d hd) rfl (tlt c).2.2.2 q) (rF c x T P)
theorem Go.if_le (pT pF : Nat) {x1 : Int32} {o : Int} (hd : decode B.by pc = .ok (.ifCond .le o, 3)) (h0 : 0 ≤ (pc : Int) + o) (hT : ((pc : Int) + o).toNat = pT) (hF : pc + 3 = pF) (rT : ¬ 0 < x1 → Go Q Z B k n h pT Ls st) (rF : 0 < x1 → Go Q Z B k n h pF Ls st) : Go Q Z B k n h pc Ls (.int x1 :: st) := fun x T P => by
  subst hF
  by_cases c : ¬ 0 < x1
  · exact lift (fun t q => XS.ifYes P.here P.ex rfl (pc0 := pc) rfl (P.d hd) rfl ((if0 _ _).trans (flt c).2.2.2) h0 hT q) (rT c x T P)
  · replace c := Decidable.not_not.mp c
    exact lift (fun t q => XS.ifNo P.here P.ex rfl (P.d hd) rfl ((if0 _ _).trans (tlt c).2.2.2) q) (rF c x T P)
theorem Go.icmp_eq (pT pF : Nat) {x1 y1 : Int32} {o : Int} (hd : decode B.by pc = .ok (.if_icmp .eq o, 3)) (h0 : 0 ≤ (pc : Int) + o) (hT : ((pc : Int) + o).toNat = pT) (hF : pc + 3 = pF) (rT : x1 = y1 → Go Q Z B k n h pT Ls st) (rF : ¬ x1 = y1 → Go Q Z B k n h pF Ls st) : Go Q Z B k n h pc Ls (.int y1 :: .int x1 :: st) := fun x T P => by
  subst hF
  by_cases c : x1 = y1
  · exact lift (fun t q => XS.icmpYes P.here P.ex rfl (pc0 := pc) rfl (P.d hd) rfl (teq c).1 h0 hT q) (rT c x T P)
  · exact lift (fun t q => XS.icmpNo P.here P.ex rfl (P.d hd) rfl (feq c).1 q) (rF c x T P)
theorem Go.if_eq (pT pF : Nat) {x1 : Int32} {o : Int} (hd : decode B.by pc = .ok (.ifCond .eq o, 3)) (h0 : 0 ≤ (pc : Int) + o) (hT : ((pc : Int) + o).toNat = pT) (hF : pc + 3 = pF) (rT : x1 = 0 → Go Q Z B k n h pT Ls st) (rF : ¬ x1 = 0 → Go Q Z B k n h pF Ls st) : Go Q Z B k n h pc Ls (.int x1 :: st) := fun x T P => by
  subst hF
  by_cases c : x1 = 0
  · exact lift (fun t q => XS.ifYes P.here P.ex rfl (pc0 := pc) rfl (P.d hd) rfl ((if0 _ _).trans (teq c).1) h0 hT q) (rT c x T P)
  · exact lift (fun t q => XS.ifNo P.here P.ex rfl (P.d hd) rfl ((if0 _ _).trans (feq c).1) q) (rF c x T P)
theorem Go.icmp_ne (pT pF : Nat) {x1 y1 : Int32} {o : Int} (hd : decode B.by pc = .ok (.if_icmp .ne o, 3)) (h0 : 0 ≤ (pc : Int) + o) (hT : ((pc : Int) + o).toNat = pT) (hF : pc + 3 = pF) (rT : ¬ x1 = y1 → Go Q Z B k n h pT Ls st) (rF : x1 = y1 → Go Q Z B k n h pF Ls st) : Go Q Z B k n h pc Ls (.int y1 :: .int x1 :: st) := fun x T P => by
  subst hF
  by_cases c : ¬ x1 = y1
  · exact lift (fun t q => XS.icmpYes P.here P.ex rfl (pc0 := pc) rfl (P.d hd) rfl (feq c).2 h0 hT q) (rT c x T P)
  · replace c := Decidable.not_not.mp c
    exact lift (fun t q => XS.icmpNo P.here P.ex rfl (P.d hd) rfl (teq c).2 q) (rF c x T P)
theorem Go.if_ne (pT pF : Nat) {x1 : Int32} {o : Int} (hd : decode B.by pc = .ok (.ifCond .ne o, 3)) (h0 : 0 ≤ (pc : Int) + o) (hT : ((pc : Int) + o).toNat = pT) (hF : pc + 3 = pF) (rT : ¬ x1 = 0 → Go Q Z B k n h pT Ls st) (rF : x1 = 0 → Go Q Z B k n h pF Ls st) : Go Q Z B k n h pc Ls (.int x1 :: st) := fun x T P => by
  subst hF
  by_cases c : ¬ x1 = 0
  · exact lift (fun t q => XS.ifYes P.here P.ex rfl (pc0 := pc) rfl (P.d hd) rfl ((if0 _ _).trans (feq c).2) h0 hT q) (rT c x T P)
  · replace c := Decidable.not_not.mp c
    exact lift (fun t q => XS.ifNo P.here P.ex rfl (P.d hd) rfl ((if0 _ _).trans (teq c).2) q) (rF c x T P)
theorem Go.ifnull_r (pF : Nat) {o : Int} {b : Addr} (hd : decode B.by pc = .ok (.ifnull o, 3)) (hF : pc + 3 = pF) (r : Go Q Z B k n h pF Ls st) : Go Q Z B k n h pc Ls (.ref b :: st) := fun x T P => by
  subst hF; exact lift (fun t q => XS.ifnullNo P.here P.ex rfl (P.d hd) rfl q) (r x T P)
theorem Go.ifnull_n (pT : Nat) {o : Int} (hd : decode B.by pc = .ok (.ifnull o, 3)) (h0 : 0 ≤ (pc : Int) + o) (hT : ((pc : Int) + o).toNat = pT) (r : Go Q Z B k n h pT Ls st) : Go Q Z B k n h pc Ls (.null :: st) := fun x T P =>
  lift (fun t q => XS.ifnullYes P.here P.ex rfl (pc0 := pc) rfl (P.d hd) rfl h0 hT q) (r x T P)
theorem Go.ifnonnull_r (pT : Nat) {o : Int} {b : Addr} (hd : decode B.by pc = .ok (.ifnonnull o, 3)) (h0 : 0 ≤ (pc : Int) + o) (hT : ((pc : Int) + o).toNat = pT) (r : Go Q Z B k n h pT Ls st) : Go Q Z B k n h pc Ls (.ref b :: st) := fun x T P =>
  lift (fun t q => XT.ifnonnullYes P.here P.ex rfl (pc0 := pc) rfl (P.d hd) rfl h0 hT q) (r x T P)
theorem Go.ifnonnull_n (pF : Nat) {o : Int} (hd : decode B.by pc = .ok (.ifnonnull o, 3)) (hF : pc + 3 = pF) (r : Go Q Z B k n h pF Ls st) : Go Q Z B k n h pc Ls (.null :: st) := fun x T P => by
  subst hF; exact lift (fun t q => XT.ifnonnullNo P.here P.ex rfl (P.d hd) rfl q) (r x T P)
theorem Go.acmp_eq (pT pF : Nat) {v w : Value} {o : Int} (hd : decode B.by pc = .ok (.if_acmp .eq o, 3)) (h0 : 0 ≤ (pc : Int) + o) (hT : ((pc : Int) + o).toNat = pT) (hF : pc + 3 = pF) (hv : v.isRef = true) (hw : w.isRef = true) (rT : v = w → Go Q Z B k n h pT Ls st) (rF : ¬ v = w → Go Q Z B k n h pF Ls st) : Go Q Z B k n h pc Ls (w :: v :: st) := fun x T P => by
  subst hF
  by_cases c : v = w
  · exact lift (fun t q => XT.acmpYes P.here P.ex rfl (pc0 := pc) rfl (P.d hd) rfl hv hw (XT.aa_eq_t c) h0 hT q) (rT c x T P)
  · exact lift (fun t q => XT.acmpNo P.here P.ex rfl (P.d hd) rfl hv hw (XT.aa_eq_f c) q) (rF c x T P)
theorem Go.acmp_ne (pT pF : Nat) {v w : Value} {o : Int} (hd : decode B.by pc = .ok (.if_acmp .ne o, 3)) (h0 : 0 ≤ (pc : Int) + o) (hT : ((pc : Int) + o).toNat = pT) (hF : pc + 3 = pF) (hv : v.isRef = true) (hw : w.isRef = true) (rT : ¬ v = w → Go Q Z B k n h pT Ls st) (rF : v = w → Go Q Z B k n h pF Ls st) : Go Q Z B k n h pc Ls (w :: v :: st) := fun x T P => by
  subst hF
  by_cases c : ¬ v = w
  · exact lift (fun t q => XT.acmpYes P.here P.ex rfl (pc0 := pc) rfl (P.d hd) rfl hv hw (XT.aa_ne_t c) h0 hT q) (rT c x T P)
  · replace c := Decidable.not_not.mp c
    exact lift (fun t q => XT.acmpNo P.here P.ex rfl (P.d hd) rfl hv hw (XT.aa_ne_f c) q) (rF c x T P)
theorem En.zz (E : En Z x B) : Z.Warmed39 x.s.vm := E.2.2.2.2.2.2.1
theorem En.own (E : En Z x B) : x.s.vm.findClass B.y.cls = some x.m.cls := E.2.2.2.1
theorem En.ml (E : En Z x B) : x.c.maxLocals = B.ml := E.2.2.1
theorem En.rt (E : En Z x B) : x.meth.sig.returnType = B.rt := E.2.2.2.2.2.1
theorem En.nl (E : En Z x B) : x.meth.locks = false := E.2.2.2.2.2.2.2.1
/-! ## constants of the pool -/
theorem Go.ldcI (pc' : Nat) (hp : pc + 2 = pc') {ix : Nat} {v : Int32} (i : Nat) (hd : decode B.by pc = .ok (.ldc ix, 2)) (w : B.tb[i]? = some (.constant B.y.cls ix v)) (r : Go Q Z B k n h pc' Ls (.int v :: st)) : Go Q Z B k n h pc Ls st := fun x T P => by
  subst hp
  obtain ⟨a0, hw⟩ := P.wd.w
  obtain ⟨E, _, _, X, _⟩ := id P
  exact lift (fun t q => X.ldcI P.ex E.own (mv E.zz (hw w)) rfl (P.d hd) q) (r x T P)
theorem Go.ldcWI (pc' : Nat) (hp : pc + 3 = pc') {ix : Nat} {v : Int32} (i : Nat) (hd : decode B.by pc = .ok (.ldc_w ix, 3)) (w : B.tb[i]? = some (.constant B.y.cls ix v)) (r : Go Q Z B k n h pc' Ls (.int v :: st)) : Go Q Z B k n h pc Ls st := fun x T P => by
  subst hp
  obtain ⟨a0, hw⟩ := P.wd.w
  obtain ⟨E, _, _, X, _⟩ := id P
  exact lift (fun t q => X.ldcWI P.ex E.own (mv E.zz (hw w)) rfl (P.d hd) q) (r x T P)
theorem Go.ldc2J (pc' : Nat) (hp : pc + 3 = pc') {ix : Nat} {v : Int64} (i : Nat) (hd : decode B.by pc = .ok (.ldc2_w ix, 3)) (w : B.tb[i]? = some (.constantLong B.y.cls ix v)) (r : Go Q Z B k n h pc' Ls (.long v :: st)) : Go Q Z B k n h pc Ls st := fun x T P => by
  subst hp
  obtain ⟨a0, hw⟩ := P.wd.w
  obtain ⟨E, _, _, X, _⟩ := id P
  exact lift (fun t q => X.ldc2J P.ex E.own (mv E.zz (hw w)) rfl (P.d hd) q) (r x T P)
theorem Go.ldc2D (pc' : Nat) (hp : pc + 3 = pc') {ix : Nat} {v : UInt64} (i : Nat) (hd : decode B.by pc = .ok (.ldc2_w ix, 3)) (w : B.tb[i]? = some (.constantDouble B.y.cls ix v)) (r : Go Q Z B k n h pc' Ls (.double v :: st)) : Go Q Z B k n h pc Ls st := fun x T P => by
  subst hp
  obtain ⟨a0, hw⟩ := P.wd.w
  obtain ⟨E, _, _, X, _⟩ := id P
  exact lift (fun t q => X.ldc2DoubleC P.ex E.own (mv E.zz (hw w)) (g := mkF x.m pc Ls st) rfl (P.d hd) t q) (r x T P)
/-! ## objects -/
theorem ltN {a : Addr} {m : Nat} (q : @LT.lt Nat instLTNat a m) : @LT.lt Nat instLTNat a m := q
theorem keep_ext (E : Ext h h') : Keep h h' [] := (Keep.refl h []).ext E
theorem keep_wr {a : Addr} {sl : Nat} {v : Value} (W : Wr h h' a sl v) : Keep h h' [a] := Keep.of_wr W
theorem ext_keep {H : Heap} {ws : List Addr} (E : Ext H h) (K : Keep h h' ws) (q : ∀ y ∈ ws, H.size ≤ y) : Ext H h' :=
  ⟨Nat.le_trans E.1 K.1, fun y c r => K.2.1 y c (E.2 y c r) fun z => absurd (Array.getElem?_eq_some_iff.mp r).1 (Nat.not_lt.mpr (q y z))⟩
theorem ge1 {H : Nat} {a : Addr} (q : H ≤ a) : ∀ y ∈ [a], H ≤ y := allS q all0
theorem fr_snoc {K : Nat} {locs : List Loc} {a : Addr} {sl : Nat} (N : Fr K locs) (q : K ≤ a) : Fr K (locs ++ [⟨a, sl⟩]) := N.app fun y hy => by cases List.mem_singleton.mp hy; exact q
theorem Go.newO (pc' : Nat) (hp : pc + 3 = pc') {C : String} {ix sz : Nat} (i1 i2 i3 : Nat) (hd : decode B.by pc = .ok (.new ix, 3)) (w1 : B.tb[i1]? = some (.classLink B.y.cls ix C)) (w2 : B.tb[i2]? = some (.instantiable C sz)) (w3 : B.tb[i3]? = some (.initialized C)) (hc : k + 1 ≤ B.R.cells) (hl : n + sz ≤ B.R.slots)
    (r : ∀ (h' : Heap) (a : Addr), @Eq Nat a h.size → Z.heap.size ≤ a → Keep h h' [] → Exa Z h' a C → (∀ (i : Nat) {O nm d : String} {ty : FieldType}, B.tb[i]? = some (.lays C O nm d) ∨ B.tb[i]? = some (.laysFinal C O nm d) → parseFieldDescriptor d = some ty → Fld Z h' a O nm d (defaultValue ty)) → Go Q Z B (k + 1) (n + sz) h' pc' Ls (.ref a :: st)) : Go Q Z B k n h pc Ls st := fun x T P => by
  subst hp
  obtain ⟨a0, hw⟩ := P.wd.w
  obtain ⟨E, O', locs, X, e, N⟩ := id P
  obtain ⟨T', h', X', e', Ex, A, D, -, s'⟩ := RoadKit.newO X P.ex E.zz E.own (hw w1) (hw w2) (hw w3) e (g := mkF x.m pc Ls st) rfl (P.d hd) hc hl
  exact lift s' (r h' h.size rfl P.le (keep_ext Ex) A (fun i {O nm d ty} q ht => D (q.imp (fun z => hw z) (fun z => hw z)) ht) x T' ⟨E, ⟨Nat.le_trans O'.1 Ex.1, fun y c q => Ex.2 y c (O'.2 y c q)⟩, locs, X', e', N⟩)
theorem Go.getF (pc' : Nat) (hp : pc + 3 = pc') {O nm d : String} {ix : Nat} {a : Addr} {v : Value} (i : Nat) (hd : decode B.by pc = .ok (.getfield ix, 3)) (w : B.tb[i]? = some (.fieldLink B.y.cls ix O nm d)) (F : Fld Z h a O nm d v) (r : Go Q Z B k n h pc' Ls (v :: st)) : Go Q Z B k n h pc Ls (.ref a :: st) := fun x T P => by
  subst hp
  obtain ⟨a0, hw⟩ := P.wd.w
  obtain ⟨E, O', locs, X, e, N⟩ := id P
  obtain ⟨T', X', e', s'⟩ := RoadKit.getF X P.ex E.zz E.own (host := "") (Or.inl (hw w)) Via.refl e F (g := mkF x.m pc Ls (.ref a :: st)) rfl rfl (P.d hd)
  exact lift s' (r x T' ⟨E, O', locs, X', e', N⟩)
theorem Go.getFN (pc' : Nat) (hp : pc + 3 = pc') {O nm d host : String} {ix : Nat} {a : Addr} {v : Value} (i : Nat) (hd : decode B.by pc = .ok (.getfield ix, 3)) (w : B.tb[i]? = some (.fieldLinkNest B.y.cls ix O nm d host)) (F : Fld Z h a O nm d v) (r : Go Q Z B k n h pc' Ls (v :: st)) : Go Q Z B k n h pc Ls (.ref a :: st) := fun x T P => by
  subst hp
  obtain ⟨a0, hw⟩ := P.wd.w
  obtain ⟨E, O', locs, X, e, N⟩ := id P
  obtain ⟨T', X', e', s'⟩ := RoadKit.getF X P.ex E.zz E.own (host := host) (Or.inr (hw w)) Via.refl e F (g := mkF x.m pc Ls (.ref a :: st)) rfl rfl (P.d hd)
  exact lift s' (r x T' ⟨E, O', locs, X', e', N⟩)
theorem Go.getFV (pc' : Nat) (hp : pc + 3 = pc') {R0 O nm d : String} {ix : Nat} {a : Addr} {v : Value} (i j : Nat) (hd : decode B.by pc = .ok (.getfield ix, 3)) (w : B.tb[i]? = some (.fieldLink B.y.cls ix R0 nm d)) (w2 : B.tb[j]? = some (.sameField R0 O nm d)) (F : Fld Z h a O nm d v) (r : Go Q Z B k n h pc' Ls (v :: st)) : Go Q Z B k n h pc Ls (.ref a :: st) := fun x T P => by
  subst hp
  obtain ⟨a0, hw⟩ := P.wd.w
  obtain ⟨E, O', locs, X, e, N⟩ := id P
  obtain ⟨T', X', e', s'⟩ := RoadKit.getF X P.ex E.zz E.own (host := "") (Or.inl (hw w)) (Via.of (hw w2)) e F (g := mkF x.m pc Ls (.ref a :: st)) rfl rfl (P.d hd)
  exact lift s' (r x T' ⟨E, O', locs, X', e', N⟩)
theorem Go.putF (pc' : Nat) (hp : pc + 3 = pc') {C O nm d : String} {ix sz : Nat} {ty : FieldType} {a : Addr} {v v' old : Value} (i1 i2 i3 : Nat) (hd : decode B.by pc = .ok (.putfield ix, 3)) (w1 : B.tb[i1]? = some (.fieldLink B.y.cls ix O nm d)) (F : Fld Z h a O nm d old) (Ea : Exa Z h a C)
    (L : B.tb[i2]? = some (.lays C O nm d) ∨ (B.tb[i2]? = some (.laysFinal C O nm d) ∧ B.y.cls = O ∧ B.y.name = "<init>")) (w3 : B.tb[i3]? = some (.instantiable C sz)) (hty : parseFieldDescriptor d = some ty) (hn : narrow ty v = v') (hf : fits ty v' = true) (ge : Z.heap.size ≤ a)
    (r : ∀ h' : Heap, Keep h h' [a] → Wr h h' a (RoadKit.slotOf Z O nm d) v' → Fld Z h' a O nm d v' → Go Q Z B k n h' pc' Ls st) : Go Q Z B k n h pc Ls (v :: .ref a :: st) := fun x T P => by
  subst hp
  obtain ⟨a0, hw⟩ := P.wd.w
  obtain ⟨E, O', locs, X, e, N⟩ := id P
  obtain ⟨T', h', X', e', W, s'⟩ := putFN X P.ex E.zz E.own (hw w1) Via.refl e F Ea (L.imp (fun z => hw z) (fun z => ⟨hw z.1, z.2.1, E.2.2.2.2.1.trans z.2.2⟩)) (hw w3) hty hn hf (g := mkF x.m pc Ls (v :: .ref a :: st)) rfl rfl (P.d hd)
  exact lift s' (r h' (keep_wr W) W (F.same W) x T' ⟨E, ext_keep O' (keep_wr W) (ge1 ge), _, X', e', fr_snoc N ge⟩)
theorem Go.putFV (pc' : Nat) (hp : pc + 3 = pc') {R0 C O nm d : String} {ix sz : Nat} {ty : FieldType} {a : Addr} {v v' old : Value} (i1 i2 i3 i4 : Nat) (hd : decode B.by pc = .ok (.putfield ix, 3)) (w1 : B.tb[i1]? = some (.fieldLink B.y.cls ix R0 nm d)) (w4 : B.tb[i4]? = some (.sameField R0 O nm d)) (F : Fld Z h a O nm d old) (Ea : Exa Z h a C)
    (L : B.tb[i2]? = some (.lays C O nm d) ∨ (B.tb[i2]? = some (.laysFinal C O nm d) ∧ B.y.cls = O ∧ B.y.name = "<init>")) (w3 : B.tb[i3]? = some (.instantiable C sz)) (hty : parseFieldDescriptor d = some ty) (hn : narrow ty v = v') (hf : fits ty v' = true) (ge : Z.heap.size ≤ a)
    (r : ∀ h' : Heap, Keep h h' [a] → Wr h h' a (RoadKit.slotOf Z O nm d) v' → Fld Z h' a O nm d v' → Go Q Z B k n h' pc' Ls st) : Go Q Z B k n h pc Ls (v :: .ref a :: st) := fun x T P => by
  subst hp
  obtain ⟨a0, hw⟩ := P.wd.w
  obtain ⟨E, O', locs, X, e, N⟩ := id P
  obtain ⟨T', h', X', e', W, s'⟩ := putFN X P.ex E.zz E.own (hw w1) (Via.of (hw w4)) e F Ea (L.imp (fun z => hw z) (fun z => ⟨hw z.1, z.2.1, E.2.2.2.2.1.trans z.2.2⟩)) (hw w3) hty hn hf (g := mkF x.m pc Ls (v :: .ref a :: st)) rfl rfl (P.d hd)
  exact lift s' (r h' (keep_wr W) W (F.same W) x T' ⟨E, ext_keep O' (keep_wr W) (ge1 ge), _, X', e', fr_snoc N ge⟩)
/-- another field of the object that was written -/
theorem Fld.oth {C O nm d O2 nm2 d2 : String} {tb : List Cond} {a b : Addr} {v w : Value} {t t' : FieldType} (hw : Wd Z tb) (F : Fld Z h b O nm d w) (W : Wr h h' a (RoadKit.slotOf Z O2 nm2 d2) v) (i j : Nat) (L1 : tb[i]? = some (.lays C O nm d) ∨ tb[i]? = some (.laysFinal C O nm d)) (L2 : tb[j]? = some (.lays C O2 nm2 d2) ∨ tb[j]? = some (.laysFinal C O2 nm2 d2))
    (hn : nm ≠ nm2) (ht : parseFieldDescriptor d = some t) (ht' : parseFieldDescriptor d2 = some t') : Fld Z h' b O nm d w := by
  obtain ⟨a0, hw⟩ := hw.w
  exact F.other W (Or.inr (RoadKit.slot_ne (a0 := a0) (L1.imp (fun z => hw z) (fun z => hw z)) (L2.imp (fun z => hw z) (fun z => hw z)) hn ht ht'))
theorem Go.getS (pc' : Nat) (hp : pc + 3 = pc') {O nm d : String} {ix : Nat} {v : Value} (i : Nat) (hd : decode B.by pc = .ok (.getstatic ix, 3)) (w : B.tb[i]? = some (.fieldLink B.y.cls ix O nm d)) (F : Sta Z Z.heap O nm d v) (r : Go Q Z B k n h pc' Ls (v :: st)) : Go Q Z B k n h pc Ls st := fun x T P => by
  subst hp
  obtain ⟨a0, hw⟩ := P.wd.w
  obtain ⟨E, O', locs, X, e, N⟩ := id P
  obtain ⟨T', X', e', s'⟩ := RoadKit.getS X P.ex E.zz (host := "") E.own (hw w) Via.refl e (F.ext O') (g := mkF x.m pc Ls st) rfl (P.d hd)
  exact lift s' (r x T' ⟨E, O', locs, X', e', N⟩)
theorem Go.getSN (pc' : Nat) (hp : pc + 3 = pc') {O nm d host : String} {ix : Nat} {v : Value} (i : Nat) (hd : decode B.by pc = .ok (.getstatic ix, 3)) (w : B.tb[i]? = some (.fieldLinkNest B.y.cls ix O nm d host)) (F : Sta Z Z.heap O nm d v) (r : Go Q Z B k n h pc' Ls (v :: st)) : Go Q Z B k n h pc Ls st := fun x T P => by
  subst hp
  obtain ⟨a0, hw⟩ := P.wd.w
  obtain ⟨E, O', locs, X, e, N⟩ := id P
  obtain ⟨T', X', e', s'⟩ := getS2 X P.ex E.zz (host := host) E.own (Or.inr (hw w)) Via.refl e (F.ext O') (g := mkF x.m pc Ls st) rfl (P.d hd)
  exact lift s' (r x T' ⟨E, O', locs, X', e', N⟩)
theorem Go.castY (pc' : Nat) (hp : pc + 3 = pc') {K : String} {ix : Nat} {a : Addr} (i : Nat) (hd : decode B.by pc = .ok (.checkcast ix, 3)) (w : B.tb[i]? = some (.classLink B.y.cls ix K)) (F : Ins Z h a K true) (r : Go Q Z B k n h pc' Ls (.ref a :: st)) : Go Q Z B k n h pc Ls (.ref a :: st) := fun x T P => by
  subst hp
  obtain ⟨a0, hw⟩ := P.wd.w
  obtain ⟨E, O', locs, X, e, N⟩ := id P
  obtain ⟨T', X', e', s'⟩ := RoadKit.castY X P.ex E.zz E.own (hw w) e F (g := mkF x.m pc Ls (.ref a :: st)) rfl rfl (P.d hd)
  exact lift s' (r x T' ⟨E, O', locs, X', e', N⟩)
theorem Go.instY (pc' : Nat) (hp : pc + 3 = pc') {K : String} {ix : Nat} {a : Addr} (i : Nat) (hd : decode B.by pc = .ok (.instanceof ix, 3)) (w : B.tb[i]? = some (.classLink B.y.cls ix K)) (F : Ins Z h a K true) (r : Go Q Z B k n h pc' Ls (.int 1 :: st)) : Go Q Z B k n h pc Ls (.ref a :: st) := fun x T P => by
  subst hp
  obtain ⟨a0, hw⟩ := P.wd.w
  obtain ⟨E, O', locs, X, e, N⟩ := id P
  obtain ⟨T', X', e', s'⟩ := RoadKit.instY X P.ex E.zz E.own (hw w) e F (g := mkF x.m pc Ls (.ref a :: st)) rfl rfl (P.d hd)
  exact lift s' (r x T' ⟨E, O', locs, X', e', N⟩)
theorem Go.instNo (pc' : Nat) (hp : pc + 3 = pc') {C K : String} {ix : Nat} {a : Addr} (i : Nat) (hd : decode B.by pc = .ok (.instanceof ix, 3)) (w : B.tb[i]? = some (.classLink B.y.cls ix K)) (Ea : Exa Z h a C) (F : ∃ c t, Z.vm.findClass C = some c ∧ Z.vm.findClass K = some t ∧ Z.vm.assignable c t = false) (r : Go Q Z B k n h pc' Ls (.int 0 :: st)) : Go Q Z B k n h pc Ls (.ref a :: st) := fun x T P => by
  subst hp
  obtain ⟨a0, hw⟩ := P.wd.w
  obtain ⟨E, O', locs, X, e, N⟩ := id P
  obtain ⟨T', X', e', s'⟩ := RoadKit.instNo X P.ex E.zz E.own (hw w) e Ea F (g := mkF x.m pc Ls (.ref a :: st)) rfl rfl (P.d hd)
  exact lift s' (r x T' ⟨E, O', locs, X', e', N⟩)
theorem Go.initO (pc' : Nat) (hp : pc + 3 = pc') {ix : Nat} {a : Addr} (i1 i2 i3 : Nat) (hd : decode B.by pc = .ok (.invokespecial ix, 3)) (w1 : B.tb[i1]? = some (.methodLink B.y.cls ix Lib.objectInit)) (w2 : B.tb[i2]? = some (.instanceMethod Lib.objectInit)) (w3 : B.tb[i3]? = some (.code Lib.objectInit ⟨#[0xb1]⟩ 1 none)) (hs : Ls.size = B.ml) (hf : 1 ≤ B.R.frames) {W : Nat} (hW : (st.map fun v => v.category).sum ≤ W) (hl : W + 12 ≤ B.R.locals)
    (r : Go Q Z B k n h pc' Ls st) : Go Q Z B k n h pc Ls (.ref a :: st) := fun x T P => by
  subst hp
  obtain ⟨a0, hw⟩ := P.wd.w
  obtain ⟨E, O', locs, X, e, N⟩ := id P
  obtain ⟨T', X', e', s'⟩ := RoadKit.initO X P.ex E.zz E.own (hw w1) (hw w2) (hw w3) e (g := mkF x.m pc Ls (.ref a :: st)) rfl (by rw [E.ml]; exact hs) rfl (P.d hd) hf (W := W) (by show 2 * 0 + _ ≤ _; omega) hl
  exact lift s' (r x T' ⟨E, O', locs, X', e', N⟩)
/-! ## arrays -/
theorem Ary.lt {a : Addr} {ty : FieldType} {vs : List Value} (A : Ary Z h a ty vs) : a < h.size := by obtain ⟨c, A, -⟩ := A; exact A.lt
theorem Ary.len {a : Addr} {ty : FieldType} {vs : List Value} (A : Ary Z h a ty vs) : vs.length < 2 ^ 31 := by obtain ⟨c, -, -, r, -⟩ := A; exact r
theorem len_ofNat {m : Nat} (hm : m < 2 ^ 31) : (Int32.ofNat m).toInt = m := Int32.toInt_ofNat_of_lt hm
theorem ofNat_zero {m : Nat} (hm : m < 2 ^ 31) : Int32.ofNat m = 0 ↔ m = 0 := by
  constructor
  · intro q; have := len_ofNat hm; rw [q] at this; have z : (0 : Int32).toInt = 0 := rfl; omega
  · intro q; subst q; rfl
theorem Ary.keep {a : Addr} {ty : FieldType} {vs : List Value} {ws : List Addr} (A : Ary Z h a ty vs) (K : Keep h h' ws) (q : a ∉ ws) : Ary Z h' a ty vs := by
  obtain ⟨c, A, r⟩ := A; exact ⟨c, ⟨K.2.1 a c A.1 q, A.2⟩, r⟩
theorem Ary.ext {a : Addr} {ty : FieldType} {vs : List Value} (E : Ext h h') (A : Ary Z h a ty vs) : Ary Z h' a ty vs := by
  obtain ⟨c, A, r⟩ := A; exact ⟨c, A.ext E, r⟩
theorem Aov.keep {a : Addr} {C : String} {ws : List Addr} (A : Aov Z h a C) (K : Keep h h' ws) : Aov Z h' a C := by
  obtain ⟨c, A, r⟩ := A; obtain ⟨c', q1, q2, -⟩ := K.2.2 a c A; exact ⟨c', q1, q2 ▸ r⟩
theorem Ins.keep {a : Addr} {C : String} {b : Bool} {ws : List Addr} (A : Ins Z h a C b) (K : Keep h h' ws) : Ins Z h' a C b := by
  obtain ⟨c, cT, A, r1, r2⟩ := A; obtain ⟨c', q1, q2, q3, -⟩ := K.2.2 a c A; exact ⟨c', cT, q1, r1, by rw [q2, q3]; exact r2⟩
theorem Sta.keepO {C nm d : String} {w : Value} (E : Ext Z.heap h) (F : Sta Z Z.heap C nm d w) : Sta Z h C nm d w := F.ext E
theorem ix_in {m : Nat} {j : Int32} (h0 : 0 ≤ j.toInt) (h1 : j.toInt < m) : ¬ (j < 0 ∨ m ≤ j.toNatClampNeg) := by
  intro q
  rcases q with q | q
  · rw [Int32.lt_iff_toInt_lt] at q; have : (0 : Int32).toInt = 0 := rfl; omega
  · have := nat_of (j := j) (by rw [Int32.lt_iff_toInt_lt]; have : (0 : Int32).toInt = 0 := rfl; omega); omega
theorem ix_nat {m : Nat} {j : Int32} (h0 : j.toInt = m) : j.toNatClampNeg = m := by
  have := nat_of (j := j) (by rw [Int32.lt_iff_toInt_lt]; have : (0 : Int32).toInt = 0 := rfl; omega); omega
theorem len_nat {m : Nat} (h : m < 2 ^ 31) : m.toInt32.toInt = m := len_toInt h
theorem slots_at {c : Cell} {vs : List Value} (e : c.slots.toList = vs) (j : Nat) : c.slots[j]? = vs[j]? := by rw [← e]; simp
theorem Go.newA (pc' : Nat) (hp : pc + 2 = pc') {aty : ArrayType} {m : Int32} (i cap N : Nat) (hd : decode B.by pc = .ok (.newarray aty, 2)) (w : B.tb[i]? = some (.arrayClass (newarray.typeOf aty))) (hN : m.toInt = N) (hcap : N ≤ cap) (hb : cap * 8 ≤ 536870912) (hc : k + 1 ≤ B.R.cells) (hl : n + cap ≤ B.R.slots)
    (r : ∀ (h' : Heap) (a : Addr), @Eq Nat a h.size → Z.heap.size ≤ a → Keep h h' [] → Ary Z h' a (newarray.typeOf aty) (List.replicate N (defaultValue (newarray.typeOf aty))) → Exa Z h' a ("[" ++ (newarray.typeOf aty).toString) → Go Q Z B (k + 1) (n + cap) h' pc' Ls (.ref a :: st)) : Go Q Z B k n h pc Ls (.int m :: st) := fun x T P => by
  subst hp
  obtain ⟨a0, hw⟩ := P.wd.w
  obtain ⟨E, O', locs, X, e, N'⟩ := id P
  have hm : ¬ m < 0 := by rw [Int32.lt_iff_toInt_lt]; have : (0 : Int32).toInt = 0 := rfl; omega
  obtain ⟨T', h', cA, X', e', Ex, A, A', s'⟩ := newPE X P.ex E.zz (hw w) e (g := mkF x.m pc Ls (.int m :: st)) rfl (P.d hd) rfl hm (cap := cap) (by rw [ix_nat hN]; exact hcap) hb hc hl rfl
  have hlen : N < 2 ^ 31 := by have := m.toInt_lt; omega
  refine lift s' (r h' h.size rfl P.le (keep_ext Ex) ⟨_, A, ?_, ?_, ?_⟩ A' x T' ⟨E, ⟨Nat.le_trans O'.1 Ex.1, fun y c q => Ex.2 y c (O'.2 y c q)⟩, locs, X', e', N'⟩)
  · show (Array.replicate _ _).toList = _
    rw [ix_nat hN, Array.toList_replicate]
  · rw [List.length_replicate]; exact hlen
  · intro v hv
    rw [List.eq_of_mem_replicate hv]
    cases aty <;> rfl
theorem Go.newR (pc' : Nat) (hp : pc + 3 = pc') {C : String} {ix : Nat} {m : Int32} (i1 i2 cap N : Nat) (hd : decode B.by pc = .ok (.anewarray ix, 3)) (w1 : B.tb[i1]? = some (.classLink B.y.cls ix C)) (w2 : B.tb[i2]? = some (.arrayOver (.object C))) (hN : m.toInt = N) (hcap : N ≤ cap) (hb : cap * 8 ≤ 536870912) (hc : k + 1 ≤ B.R.cells) (hl : n + cap ≤ B.R.slots)
    (r : ∀ (h' : Heap) (a : Addr), @Eq Nat a h.size → Z.heap.size ≤ a → Keep h h' [] → Ary Z h' a (.object C) (List.replicate N .null) → Exa Z h' a ("[" ++ (FieldType.object C).toString) → Aov Z h' a C → Go Q Z B (k + 1) (n + cap) h' pc' Ls (.ref a :: st)) : Go Q Z B k n h pc Ls (.int m :: st) := fun x T P => by
  subst hp
  obtain ⟨a0, hw⟩ := P.wd.w
  obtain ⟨E, O', locs, X, e, N'⟩ := id P
  have hm : ¬ m < 0 := by rw [Int32.lt_iff_toInt_lt]; have : (0 : Int32).toInt = 0 := rfl; omega
  obtain ⟨T', h', cA, X', e', Ex, A, A', O1, s'⟩ := newRE X P.ex E.zz E.own (hw w1) (hw w2) e (g := mkF x.m pc Ls (.int m :: st)) rfl (P.d hd) rfl hm (cap := cap) (by rw [ix_nat hN]; exact hcap) hb hc hl rfl
  have hlen : N < 2 ^ 31 := by have := m.toInt_lt; omega
  refine lift s' (r h' h.size rfl P.le (keep_ext Ex) ⟨_, A, ?_, ?_, ?_⟩ A' ⟨_, A.1, O1⟩ x T' ⟨E, ⟨Nat.le_trans O'.1 Ex.1, fun y c q => Ex.2 y c (O'.2 y c q)⟩, locs, X', e', N'⟩)
  · show (Array.replicate _ _).toList = _
    rw [ix_nat hN, Array.toList_replicate]; rfl
  · rw [List.length_replicate]; exact hlen
  · intro v hv
    rw [List.eq_of_mem_replicate hv]; rfl
theorem Go.alen (pc' : Nat) (hp : pc + 1 = pc') {ty : FieldType} {a : Addr} {vs : List Value} (v : Int32) (hd : decode B.by pc = .ok (.arraylength, 1)) (A : Ary Z h a ty vs) (hv : v.toInt = vs.length) (r : Go Q Z B k n h pc' Ls (.int v :: st)) : Go Q Z B k n h pc Ls (.ref a :: st) := fun x T P => by
  subst hp
  obtain ⟨E, O', locs, X, e, N'⟩ := id P
  obtain ⟨c, A, e1, e2, e3⟩ := A
  have : c.slots.size.toInt32 = v := by
    have q : c.slots.size = vs.length := by rw [← e1]; simp
    apply Int32.toInt_inj.mp
    rw [q, hv, len_toInt e2]
  exact lift (fun t q => X.arraylength P.ex (by rw [e]; exact A.1) (State.isArrayOf_alike E.zz.alike A.2.1) (g := mkF x.m pc Ls (.ref a :: st)) rfl rfl (P.d hd) t (by rw [this]; exact q)) (r x T P)
theorem Go.iaload (pc' : Nat) (hp : pc + 1 = pc') {a : Addr} {vs : List Value} {j : Int32} (v : Int32) (hd : decode B.by pc = .ok (.iaload, 1)) (A : Ary Z h a .int vs) (jn : Nat) (hj : j.toInt = jn) (hv : vs[jn]? = some (.int v)) (r : Go Q Z B k n h pc' Ls (.int v :: st)) : Go Q Z B k n h pc Ls (.int j :: .ref a :: st) := fun x T P => by
  subst hp
  obtain ⟨E, O', locs, X, e, N'⟩ := id P
  obtain ⟨c, A, e1, e2, e3⟩ := A
  have q : c.slots.size = vs.length := by rw [← e1]; simp
  have hlt := (List.getElem?_eq_some_iff.mp hv).1
  exact lift (fun t q' => X.iaload P.ex (j := j) (v := .int v) (by rw [e]; exact A.1) (State.isArrayOf_alike E.zz.alike A.2.1) A.2.2 (ix_in (by omega) (by omega)) (by rw [ix_nat hj, slots_at e1]; exact hv) (g := mkF x.m pc Ls (.int j :: .ref a :: st)) rfl rfl (P.d hd) t q') (r x T P)
theorem Go.laload (pc' : Nat) (hp : pc + 1 = pc') {a : Addr} {vs : List Value} {j : Int32} (v : Int64) (hd : decode B.by pc = .ok (.laload, 1)) (A : Ary Z h a .long vs) (jn : Nat) (hj : j.toInt = jn) (hv : vs[jn]? = some (.long v)) (r : Go Q Z B k n h pc' Ls (.long v :: st)) : Go Q Z B k n h pc Ls (.int j :: .ref a :: st) := fun x T P => by
  subst hp
  obtain ⟨E, O', locs, X, e, N'⟩ := id P
  obtain ⟨c, A, e1, e2, e3⟩ := A
  have q : c.slots.size = vs.length := by rw [← e1]; simp
  have hlt := (List.getElem?_eq_some_iff.mp hv).1
  exact lift (fun t q' => X.laload P.ex (j := j) (v := .long v) (by rw [e]; exact A.1) (State.isArrayOf_alike E.zz.alike A.2.1) A.2.2 (ix_in (by omega) (by omega)) (by rw [ix_nat hj, slots_at e1]; exact hv) (g := mkF x.m pc Ls (.int j :: .ref a :: st)) rfl rfl (P.d hd) t q') (r x T P)
theorem Go.caload (pc' : Nat) (hp : pc + 1 = pc') {a : Addr} {vs : List Value} {j : Int32} (v : Int32) (hd : decode B.by pc = .ok (.caload, 1)) (A : Ary Z h a .char vs) (jn : Nat) (hj : j.toInt = jn) (hv : vs[jn]? = some (.int v)) (r : Go Q Z B k n h pc' Ls (.int v :: st)) : Go Q Z B k n h pc Ls (.int j :: .ref a :: st) := fun x T P => by
  subst hp
  obtain ⟨E, O', locs, X, e, N'⟩ := id P
  obtain ⟨c, A, e1, e2, e3⟩ := A
  have q : c.slots.size = vs.length := by rw [← e1]; simp
  have hlt := (List.getElem?_eq_some_iff.mp hv).1
  exact lift (fun t q' => X.caload P.ex (j := j) (v := .int v) (by rw [e]; exact A.1) (State.isArrayOf_alike E.zz.alike A.2.1) A.2.2 (ix_in (by omega) (by omega)) (by rw [ix_nat hj, slots_at e1]; exact hv) (g := mkF x.m pc Ls (.int j :: .ref a :: st)) rfl rfl (P.d hd) t q') (r x T P)
theorem Go.saload (pc' : Nat) (hp : pc + 1 = pc') {a : Addr} {vs : List Value} {j : Int32} (v : Int32) (hd : decode B.by pc = .ok (.saload, 1)) (A : Ary Z h a .short vs) (jn : Nat) (hj : j.toInt = jn) (hv : vs[jn]? = some (.int v)) (r : Go Q Z B k n h pc' Ls (.int v :: st)) : Go Q Z B k n h pc Ls (.int j :: .ref a :: st) := fun x T P => by
  subst hp
  obtain ⟨E, O', locs, X, e, N'⟩ := id P
  obtain ⟨c, A, e1, e2, e3⟩ := A
  have q : c.slots.size = vs.length := by rw [← e1]; simp
  have hlt := (List.getElem?_eq_some_iff.mp hv).1
  exact lift (fun t q' => X.saload P.ex (j := j) (v := .int v) (by rw [e]; exact A.1) (State.isArrayOf_alike E.zz.alike A.2.1) A.2.2 (ix_in (by omega) (by omega)) (by rw [ix_nat hj, slots_at e1]; exact hv) (g := mkF x.m pc Ls (.int j :: .ref a :: st)) rfl rfl (P.d hd) t q') (r x T P)
theorem Go.baload (pc' : Nat) (hp : pc + 1 = pc') {a : Addr} {vs : List Value} {j : Int32} (v : Int32) (hd : decode B.by pc = .ok (.baload, 1)) (A : Ary Z h a .byte vs) (jn : Nat) (hj : j.toInt = jn) (hv : vs[jn]? = some (.int v)) (r : Go Q Z B k n h pc' Ls (.int v :: st)) : Go Q Z B k n h pc Ls (.int j :: .ref a :: st) := fun x T P => by
  subst hp
  obtain ⟨E, O', locs, X, e, N'⟩ := id P
  obtain ⟨c, A, e1, e2, e3⟩ := A
  have q : c.slots.size = vs.length := by rw [← e1]; simp
  have hlt := (List.getElem?_eq_some_iff.mp hv).1
  exact lift (fun t q' => X.baloadBytes P.ex (j := j) (v := .int v) (by rw [e]; exact A.1) (State.isArrayOf_alike E.zz.alike A.2.1) A.2.2 (ix_in (by omega) (by omega)) (by rw [ix_nat hj, slots_at e1]; exact hv) (g := mkF x.m pc Ls (.int j :: .ref a :: st)) rfl rfl (P.d hd) t q') (r x T P)
theorem Go.zaload (pc' : Nat) (hp : pc + 1 = pc') {a : Addr} {vs : List Value} {j : Int32} (v : Int32) (hd : decode B.by pc = .ok (.baload, 1)) (A : Ary Z h a .boolean vs) (jn : Nat) (hj : j.toInt = jn) (hv : vs[jn]? = some (.int v)) (r : Go Q Z B k n h pc' Ls (.int v :: st)) : Go Q Z B k n h pc Ls (.int j :: .ref a :: st) := fun x T P => by
  subst hp
  obtain ⟨E, O', locs, X, e, N'⟩ := id P
  obtain ⟨c, A, e1, e2, e3⟩ := A
  have q : c.slots.size = vs.length := by rw [← e1]; simp
  have hlt := (List.getElem?_eq_some_iff.mp hv).1
  exact lift (fun t q' => X.baloadBooleans P.ex (j := j) (v := .int v) (by rw [e]; exact A.1) (State.isArrayOf_alike E.zz.alike A.2.1) A.2.2 (ix_in (by omega) (by omega)) (by rw [ix_nat hj, slots_at e1]; exact hv) (g := mkF x.m pc Ls (.int j :: .ref a :: st)) rfl rfl (P.d hd) t q') (r x T P)
theorem Go.aaload (pc' : Nat) (hp : pc + 1 = pc') {ty : FieldType} {a : Addr} {vs : List Value} {j : Int32} (v : Value) (hd : decode B.by pc = .ok (.aaload, 1)) (hty : ty.isReference = true) (A : Ary Z h a ty vs) (jn : Nat) (hj : j.toInt = jn) (hv : vs[jn]? = some v) (r : Go Q Z B k n h pc' Ls (v :: st)) : Go Q Z B k n h pc Ls (.int j :: .ref a :: st) := fun x T P => by
  subst hp
  obtain ⟨E, O', locs, X, e, N'⟩ := id P
  obtain ⟨c, A, e1, e2, e3⟩ := A
  have q : c.slots.size = vs.length := by rw [← e1]; simp
  have hlt := (List.getElem?_eq_some_iff.mp hv).1
  exact lift (fun t q' => X.aaload P.ex (j := j) (v := v) (by rw [e]; exact A.1) (State.isArrayOf_alike E.zz.alike A.2.1) hty A.2.2 (ix_in (by omega) (by omega)) (by rw [ix_nat hj, slots_at e1]; exact hv) (g := mkF x.m pc Ls (.int j :: .ref a :: st)) rfl rfl (P.d hd) t q') (r x T P)
/-- a store into an array -/
theorem Ary.set {a : Addr} {ty : FieldType} {vs : List Value} {j : Nat} {v : Value} {c : Cell} (A : Arr Z h a c ty) (e1 : c.slots.toList = vs) (e2 : vs.length < 2 ^ 31) (e3 : ∀ v ∈ vs, fits ty v = true) (W : Wr h h' a j v) (hv : fits ty v = true) : Ary Z h' a ty (vs.set j v) := by
  refine ⟨c.setSlot j v, A.same W, ?_, by rw [List.length_set]; exact e2, fun w hw => ?_⟩
  · show (c.slots.setIfInBounds j v).toList = _
    rw [Array.toList_setIfInBounds, e1]
  · rcases List.mem_or_eq_of_mem_set hw with q | rfl
    · exact e3 _ q
    · exact hv
theorem Go.stI (pc' : Nat) (hp : pc + 1 = pc') {a : Addr} {vs : List Value} {j : Int32} {v : Int32} (hd : decode B.by pc = .ok (.iastore, 1)) (A : Ary Z h a .int vs) (jn : Nat) (hj : j.toInt = jn) (hlt : jn < vs.length) (ge : Z.heap.size ≤ a)
    (r : ∀ h' : Heap, Keep h h' [a] → Ary Z h' a .int (vs.set jn (.int v)) → Go Q Z B k n h' pc' Ls st) : Go Q Z B k n h pc Ls (.int v :: .int j :: .ref a :: st) := fun x T P => by
  subst hp
  obtain ⟨E, O', locs, X, e, N⟩ := id P
  obtain ⟨c, A, e1, e2, e3⟩ := A
  have q : c.slots.size = vs.length := by rw [← e1]; simp
  obtain ⟨T', h', X', e', W, s'⟩ := RoadKit.stI X P.ex E.zz e A (j := j) (ix_in (by omega) (by omega)) (g := mkF x.m pc Ls (.int v :: .int j :: .ref a :: st)) rfl rfl (P.d hd)
  rw [ix_nat hj] at W
  exact lift s' (r h' (keep_wr W) (Ary.set A e1 e2 e3 W (rfl)) x T' ⟨E, ext_keep O' (keep_wr W) (ge1 ge), _, X', e', fr_snoc N ge⟩)
theorem Go.stJ (pc' : Nat) (hp : pc + 1 = pc') {a : Addr} {vs : List Value} {j : Int32} {v : Int64} (hd : decode B.by pc = .ok (.lastore, 1)) (A : Ary Z h a .long vs) (jn : Nat) (hj : j.toInt = jn) (hlt : jn < vs.length) (ge : Z.heap.size ≤ a)
    (r : ∀ h' : Heap, Keep h h' [a] → Ary Z h' a .long (vs.set jn (.long v)) → Go Q Z B k n h' pc' Ls st) : Go Q Z B k n h pc Ls (.long v :: .int j :: .ref a :: st) := fun x T P => by
  subst hp
  obtain ⟨E, O', locs, X, e, N⟩ := id P
  obtain ⟨c, A, e1, e2, e3⟩ := A
  have q : c.slots.size = vs.length := by rw [← e1]; simp
  obtain ⟨T', h', X', e', W, s'⟩ := RoadKit.stJ X P.ex E.zz e A (j := j) (ix_in (by omega) (by omega)) (g := mkF x.m pc Ls (.long v :: .int j :: .ref a :: st)) rfl rfl (P.d hd)
  rw [ix_nat hj] at W
  exact lift s' (r h' (keep_wr W) (Ary.set A e1 e2 e3 W (rfl)) x T' ⟨E, ext_keep O' (keep_wr W) (ge1 ge), _, X', e', fr_snoc N ge⟩)
theorem Go.stC (pc' : Nat) (hp : pc + 1 = pc') {a : Addr} {vs : List Value} {j : Int32} {v : Int32} (hd : decode B.by pc = .ok (.castore, 1)) (A : Ary Z h a .char vs) (jn : Nat) (hj : j.toInt = jn) (hlt : jn < vs.length) (ge : Z.heap.size ≤ a)
    (r : ∀ h' : Heap, Keep h h' [a] → Ary Z h' a .char (vs.set jn (.int (nar .char v))) → Go Q Z B k n h' pc' Ls st) : Go Q Z B k n h pc Ls (.int v :: .int j :: .ref a :: st) := fun x T P => by
  subst hp
  obtain ⟨E, O', locs, X, e, N⟩ := id P
  obtain ⟨c, A, e1, e2, e3⟩ := A
  have q : c.slots.size = vs.length := by rw [← e1]; simp
  obtain ⟨T', h', X', e', W, s'⟩ := RoadKit.stC X P.ex E.zz e A (j := j) (ix_in (by omega) (by omega)) (g := mkF x.m pc Ls (.int v :: .int j :: .ref a :: st)) rfl rfl (P.d hd)
  rw [ix_nat hj] at W
  exact lift s' (r h' (keep_wr W) (Ary.set A e1 e2 e3 W (fits_nar_char v)) x T' ⟨E, ext_keep O' (keep_wr W) (ge1 ge), _, X', e', fr_snoc N ge⟩)
theorem Go.stS (pc' : Nat) (hp : pc + 1 = pc') {a : Addr} {vs : List Value} {j : Int32} {v : Int32} (hd : decode B.by pc = .ok (.sastore, 1)) (A : Ary Z h a .short vs) (jn : Nat) (hj : j.toInt = jn) (hlt : jn < vs.length) (ge : Z.heap.size ≤ a)
    (r : ∀ h' : Heap, Keep h h' [a] → Ary Z h' a .short (vs.set jn (.int (nar .short v))) → Go Q Z B k n h' pc' Ls st) : Go Q Z B k n h pc Ls (.int v :: .int j :: .ref a :: st) := fun x T P => by
  subst hp
  obtain ⟨E, O', locs, X, e, N⟩ := id P
  obtain ⟨c, A, e1, e2, e3⟩ := A
  have q : c.slots.size = vs.length := by rw [← e1]; simp
  obtain ⟨T', h', X', e', W, s'⟩ := RoadKit.stS X P.ex E.zz e A (j := j) (ix_in (by omega) (by omega)) (g := mkF x.m pc Ls (.int v :: .int j :: .ref a :: st)) rfl rfl (P.d hd)
  rw [ix_nat hj] at W
  exact lift s' (r h' (keep_wr W) (Ary.set A e1 e2 e3 W (fits_nar_short v)) x T' ⟨E, ext_keep O' (keep_wr W) (ge1 ge), _, X', e', fr_snoc N ge⟩)
theorem Go.stB (pc' : Nat) (hp : pc + 1 = pc') {a : Addr} {vs : List Value} {j : Int32} {v : Int32} (hd : decode B.by pc = .ok (.bastore, 1)) (A : Ary Z h a .byte vs) (jn : Nat) (hj : j.toInt = jn) (hlt : jn < vs.length) (ge : Z.heap.size ≤ a)
    (r : ∀ h' : Heap, Keep h h' [a] → Ary Z h' a .byte (vs.set jn (.int (nar .byte v))) → Go Q Z B k n h' pc' Ls st) : Go Q Z B k n h pc Ls (.int v :: .int j :: .ref a :: st) := fun x T P => by
  subst hp
  obtain ⟨E, O', locs, X, e, N⟩ := id P
  obtain ⟨c, A, e1, e2, e3⟩ := A
  have q : c.slots.size = vs.length := by rw [← e1]; simp
  obtain ⟨T', h', X', e', W, s'⟩ := RoadKit.stB X P.ex E.zz e A (j := j) (ix_in (by omega) (by omega)) (g := mkF x.m pc Ls (.int v :: .int j :: .ref a :: st)) rfl rfl (P.d hd)
  rw [ix_nat hj] at W
  exact lift s' (r h' (keep_wr W) (Ary.set A e1 e2 e3 W (fits_nar_byte v)) x T' ⟨E, ext_keep O' (keep_wr W) (ge1 ge), _, X', e', fr_snoc N ge⟩)
theorem Go.stZ (pc' : Nat) (hp : pc + 1 = pc') {a : Addr} {vs : List Value} {j : Int32} {v : Int32} (hd : decode B.by pc = .ok (.bastore, 1)) (A : Ary Z h a .boolean vs) (jn : Nat) (hj : j.toInt = jn) (hlt : jn < vs.length) (ge : Z.heap.size ≤ a)
    (r : ∀ h' : Heap, Keep h h' [a] → Ary Z h' a .boolean (vs.set jn (.int (nar .boolean v))) → Go Q Z B k n h' pc' Ls st) : Go Q Z B k n h pc Ls (.int v :: .int j :: .ref a :: st) := fun x T P => by
  subst hp
  obtain ⟨E, O', locs, X, e, N⟩ := id P
  obtain ⟨c, A, e1, e2, e3⟩ := A
  have q : c.slots.size = vs.length := by rw [← e1]; simp
  obtain ⟨T', h', X', e', W, s'⟩ := RoadKit.stZ X P.ex E.zz e A (j := j) (ix_in (by omega) (by omega)) (g := mkF x.m pc Ls (.int v :: .int j :: .ref a :: st)) rfl rfl (P.d hd)
  rw [ix_nat hj] at W
  exact lift s' (r h' (keep_wr W) (Ary.set A e1 e2 e3 W (fits_nar_bool v)) x T' ⟨E, ext_keep O' (keep_wr W) (ge1 ge), _, X', e', fr_snoc N ge⟩)
theorem Go.stR (pc' : Nat) (hp : pc + 1 = pc') {C : String} {a b : Addr} {vs : List Value} {j : Int32} (hd : decode B.by pc = .ok (.aastore, 1)) (A : Ary Z h a (.object C) vs) (O : Aov Z h a C) (I : Ins Z h b C true) (jn : Nat) (hj : j.toInt = jn) (hlt : jn < vs.length) (ge : Z.heap.size ≤ a)
    (r : ∀ h' : Heap, Keep h h' [a] → Ary Z h' a (.object C) (vs.set jn (.ref b)) → Go Q Z B k n h' pc' Ls st) : Go Q Z B k n h pc Ls (.ref b :: .int j :: .ref a :: st) := fun x T P => by
  subst hp
  obtain ⟨E, O', locs, X, e, N⟩ := id P
  obtain ⟨c, A, e1, e2, e3⟩ := A
  obtain ⟨c', q1, q2⟩ := O
  cases q1.symm.trans A.1
  have q : c.slots.size = vs.length := by rw [← e1]; simp
  obtain ⟨T', h', X', e', W, s'⟩ := RoadKit.stR X P.ex E.zz e A (j := j) (v := .ref b) (ix_in (by omega) (by omega)) rfl (Sto.of A q2 I) (g := mkF x.m pc Ls (.ref b :: .int j :: .ref a :: st)) rfl rfl (P.d hd)
  rw [ix_nat hj] at W
  exact lift s' (r h' (keep_wr W) (Ary.set A e1 e2 e3 W rfl) x T' ⟨E, ext_keep O' (keep_wr W) (ge1 ge), _, X', e', fr_snoc N ge⟩)
/-! ## returns -/
theorem ret_core {v : Option Value} {T : State} {locs : List Loc} {fs : List Frame} (E : En Z x B) (O' : Ext Z.heap h) (e : T.heap = h) (N : Fr Z.heap.size locs) (hk : k ≤ B.R.cells) (hn : n ≤ B.R.slots) (hQ : Q v h)
    (hs : Steps x.p.tables x.e x.below (T.setTop (mkF x.m pc Ls st)) (T.setFrames fs)) (hrun : (T.setFrames fs).status = .running) (hended : Ended (T.setFrames fs) x.below (.returned v)) (hW : x.s.WarmedH (T.setFrames fs).vm) (hsame : x.s.sameButNew ({ T.setFrames fs with vm := x.s.vm } : State) locs k n) : Rn Q Z x B T pc Ls st := by
  subst e
  exact ⟨T.setFrames fs, _, hs, hrun, hended, _, locs, rfl, ⟨hQ, O', N⟩, ⟨_, rfl⟩, hW, hsame.mono hk hn⟩
theorem Go.retV (hd : decode B.by pc = .ok (.return_, 1)) (ht : B.rt = none) (hk : k ≤ B.R.cells) (hn : n ≤ B.R.slots) (hQ : Q none h) : Go Q Z B k n h pc Ls [] := fun x T P => by
  obtain ⟨E, O', locs, X, e, N⟩ := id P
  obtain ⟨fs, hr, hrun, hended, hW, hsame⟩ := X.leave (v := none) (fun _ => rfl) E.nl
  exact ret_core E O' e N hk hn hQ (X.returnOut P.ex (E.rt.trans ht) (P.d hd) hr) hrun hended hW hsame
theorem Go.retI {z : Int32} (hd : decode B.by pc = .ok (.ireturn, 1)) (ht : B.rt = some .int) (hk : k ≤ B.R.cells) (hn : n ≤ B.R.slots) (hQ : Q (some (.int z)) h) : Go Q Z B k n h pc Ls [.int z] := fun x T P => by
  obtain ⟨E, O', locs, X, e, N⟩ := id P
  obtain ⟨fs, hr, hrun, hended, hW, hsame⟩ := X.leave (v := some (.int z)) (fun q => by rw [E.rt, ht] at q; cases q) E.nl
  exact ret_core E O' e N hk hn hQ (X.ireturnOut P.ex (E.rt.trans ht) rfl (Or.inl rfl) (P.d hd) hr) hrun hended hW hsame
theorem Go.retN {z z' : Int32} {t : FieldType} (hd : decode B.by pc = .ok (.ireturn, 1)) (ht : B.rt = some t) (hz : t = .boolean ∨ t = .byte ∨ t = .char ∨ t = .short) (hq : nar t z = z') (hk : k ≤ B.R.cells) (hn : n ≤ B.R.slots) (hQ : Q (some (.int z')) h) : Go Q Z B k n h pc Ls (.int z :: st) := fun x T P => by
  subst hq
  obtain ⟨E, O', locs, X, e, N⟩ := id P
  obtain ⟨fs, hr, hrun, hended, hW, hsame⟩ := X.leave (v := some (.int (nar t z))) (fun q => by rw [E.rt, ht] at q; cases q) E.nl
  exact ret_core E O' e N hk hn hQ (RoadKit.retN X P.ex (E.rt.trans ht) hz (P.d hd) hr) hrun hended hW hsame
theorem Go.retJ {z : Int64} (hd : decode B.by pc = .ok (.lreturn, 1)) (ht : B.rt = some .long) (hk : k ≤ B.R.cells) (hn : n ≤ B.R.slots) (hQ : Q (some (.long z)) h) : Go Q Z B k n h pc Ls [.long z] := fun x T P => by
  obtain ⟨E, O', locs, X, e, N⟩ := id P
  obtain ⟨fs, hr, hrun, hended, hW, hsame⟩ := X.leave (v := some (.long z)) (fun q => by rw [E.rt, ht] at q; cases q) E.nl
  exact ret_core E O' e N hk hn hQ (X.lreturnOut P.ex (E.rt.trans ht) (P.d hd) hr) hrun hended hW hsame
theorem Go.retD {z : UInt64} (hd : decode B.by pc = .ok (.dreturn, 1)) (ht : B.rt = some .double) (hk : k ≤ B.R.cells) (hn : n ≤ B.R.slots) (hQ : Q (some (.double z)) h) : Go Q Z B k n h pc Ls (.double z :: st) := fun x T P => by
  obtain ⟨E, O', locs, X, e, N⟩ := id P
  obtain ⟨fs, hr, hrun, hended, hW, hsame⟩ := X.leave (v := some (.double z)) (fun q => by rw [E.rt, ht] at q; cases q) E.nl
  exact ret_core E O' e N hk hn hQ (retOut X P.ex (i := .dreturn) (E.rt.trans ht) rfl (Or.inr (Or.inr (Or.inl ⟨rfl, rfl, _, rfl⟩))) (P.d hd) hr) hrun hended hW hsame
theorem Go.retA {z : Value} {t : FieldType} (hd : decode B.by pc = .ok (.areturn, 1)) (ht : B.rt = some t) (hr' : t.isReference = true) (hz : z.isRef = true) (hk : k ≤ B.R.cells) (hn : n ≤ B.R.slots) (hQ : Q (some z) h) : Go Q Z B k n h pc Ls [z] := fun x T P => by
  obtain ⟨E, O', locs, X, e, N⟩ := id P
  obtain ⟨fs, hr, hrun, hended, hW, hsame⟩ := X.leave (v := some z) (fun q => by rw [E.rt, ht] at q; cases q) E.nl
  exact ret_core E O' e N hk hn hQ (X.areturnOut P.ex hz (E.rt.trans ht) hr' (P.d hd) hr) hrun hended hW hsame
/-! ## calls -/
theorem Con.back {C : Bd} {as : Array Value} {Qc : Option Value → Heap → Prop} {len W : Nat} (K : Con Z C as h Qc) (P : Sp Z x B T k n h) (i j : Nat) (wc : B.tb[i]? = some (.code C.y C.by C.ml C.rt)) (wz : B.tb[j]? = some (.initialized C.y.cls)) (hf : C.R.frames + 1 ≤ B.R.frames) (hl : W + (C.ml + 11) + C.R.locals ≤ B.R.locals) :
    Back x.l B.R x.p x.e x.below x.s x.args C.y len W (fun A a => a = as ∧ A.U.heap = h ∧ A.cells + C.R.cells ≤ B.R.cells ∧ A.slots + C.R.slots ≤ B.R.slots)
      (fun A _ v D => ∃ L, (Qc v D.U.heap ∧ Ext Z.heap D.U.heap ∧ Fr Z.heap.size L) ∧ D.locs = A.locs ++ L ∧ D.cells = A.cells + C.R.cells ∧ D.slots = A.slots + C.R.slots) := by
  obtain ⟨a0, hw⟩ := P.wd.w
  exact backOf (a0 := a0) (Q := fun v h' L => Qc v h' ∧ Ext Z.heap h' ∧ Fr Z.heap.size L) (K P.old x.l []) P.1.zz (hw wc) (hw wz) hf hl
theorem Go.callS (pc' : Nat) (hp : pc + 3 = pc') {C : Bd} {Qc : Option Value → Heap → Prop} {ix : Nat} (argsL : List Value) {st : List Value} (i1 i2 i3 i4 : Nat) (K : Con Z C argsL.toArray h Qc) (hd : decode B.by pc = .ok (.invokestatic ix, 3)) (w1 : B.tb[i1]? = some (.methodLink B.y.cls ix C.y)) (w2 : B.tb[i2]? = some (.static C.y)) (w3 : B.tb[i3]? = some (.initialized C.y.cls)) (w4 : B.tb[i4]? = some (.code C.y C.by C.ml C.rt))
    (hy : C.y.cls ≠ "java/lang/invoke/MethodHandle" ∧ C.y.cls ≠ "java/lang/invoke/VarHandle") {ps : List FieldType} {rt : Option FieldType} (hpd : parseMethodDescriptor C.y.desc = some ⟨ps, rt⟩) (hlen : argsL.length = ps.length) (hs : Ls.size = B.ml) (hst : st = argsL.reverse ++ rest) {W : Nat} (hW : (rest.map fun v => v.category).sum ≤ W) (hf : C.R.frames + 1 ≤ B.R.frames) (hl : W + (C.ml + 11) + C.R.locals ≤ B.R.locals) (hc : k + C.R.cells ≤ B.R.cells) (hn : n + C.R.slots ≤ B.R.slots)
    (r : ∀ (v : Option Value) (h' : Heap), Qc v h' → Go Q Z B (k + C.R.cells) (n + C.R.slots) h' pc' Ls (v.toList ++ rest)) : Go Q Z B k n h pc Ls st := fun x T P => by
  subst hp hst
  obtain ⟨a0, hw⟩ := P.wd.w
  obtain ⟨E, O', locs, X, e, N⟩ := id P
  obtain ⟨v, vm₁, ⟨T1, L1, k1, n1⟩, -, X1, ⟨Lc, hQ, l1, y1, z1⟩, st1⟩ := Jvm.LawKit.callS X P.ex (y := C.y) E.own (mvT E.zz (hw w1)) (mvT E.zz (hw w2)) (mvT E.zz (hw w3)) (mvT E.zz (hw w4)) hy (K.back (W := W) P i4 i3 w4 w3 hf hl) (g := mkF x.m pc Ls (argsL.reverse ++ rest)) rfl (by rw [E.ml]; exact hs) (argsL := argsL) (rest := rest) (lenOf hpd hlen) rfl (by show 2 * 0 + _ ≤ _; omega) (P.d hd) (fun _ _ => ⟨rfl, e, hc, hn⟩)
  dsimp only [Pt.U, Pt.locs, Pt.cells, Pt.slots] at X1 l1 y1 z1 st1 hQ
  subst l1 y1 z1
  exact lift st1 (r v T1.heap hQ.1 x T1 ⟨E, hQ.2.1, _, X1, rfl, N.app hQ.2.2⟩)
theorem Go.callI (pc' : Nat) (hp : pc + 3 = pc') {C : Bd} {Qc : Option Value → Heap → Prop} {ix : Nat} (a : Addr) (argsL : List Value) {st : List Value} (i1 i2 i3 i4 : Nat) (K : Con Z C (.ref a :: argsL).toArray h Qc) (hd : decode B.by pc = .ok (.invokespecial ix, 3)) (w1 : B.tb[i1]? = some (.methodLink B.y.cls ix C.y)) (w2 : B.tb[i2]? = some (.instanceMethod C.y)) (w3 : B.tb[i3]? = some (.initialized C.y.cls)) (w4 : B.tb[i4]? = some (.code C.y C.by C.ml none)) (hrt : C.rt = none) (hi : C.y.name = "<init>")
    (hy : C.y.cls ≠ "java/lang/invoke/MethodHandle" ∧ C.y.cls ≠ "java/lang/invoke/VarHandle") {ps : List FieldType} {rt : Option FieldType} (hpd : parseMethodDescriptor C.y.desc = some ⟨ps, rt⟩) (hlen : argsL.length = ps.length) (hs : Ls.size = B.ml) (hst : st = argsL.reverse ++ .ref a :: rest) {W : Nat} (hW : (rest.map fun v => v.category).sum ≤ W) (hf : C.R.frames + 1 ≤ B.R.frames) (hl : W + (C.ml + 11) + C.R.locals ≤ B.R.locals) (hc : k + C.R.cells ≤ B.R.cells) (hn : n + C.R.slots ≤ B.R.slots)
    (r : ∀ (v : Option Value) (h' : Heap), Qc v h' → Go Q Z B (k + C.R.cells) (n + C.R.slots) h' pc' Ls (v.toList ++ rest)) : Go Q Z B k n h pc Ls st := fun x T P => by
  subst hp hst
  obtain ⟨a0, hw⟩ := P.wd.w
  obtain ⟨E, O', locs, X, e, N⟩ := id P
  obtain ⟨v, vm₁, ⟨T1, L1, k1, n1⟩, -, X1, ⟨Lc, hQ, l1, y1, z1⟩, st1⟩ := X.specialBack P.ex (y := C.y) hi E.own (mvT E.zz (hw w1)) (mvT E.zz (hw w2)) (mvT E.zz (hw w4)) hy (K.back (W := W) P i4 i3 (by rw [hrt]; exact w4) w3 hf hl) (g := mkF x.m pc Ls (argsL.reverse ++ .ref a :: rest)) rfl (by rw [E.ml]; exact hs) (Steps.refl _) (a := a) (argsL := argsL) (rest := rest) (lenOf hpd hlen) rfl (by show 2 * 0 + _ ≤ _; omega) (P.d hd) (fun _ _ => ⟨rfl, e, hc, hn⟩)
  dsimp only [Pt.U, Pt.locs, Pt.cells, Pt.slots] at X1 l1 y1 z1 st1 hQ
  subst l1 y1 z1
  exact liftS st1 (r v T1.heap hQ.1 x T1 ⟨E, hQ.2.1, _, X1, rfl, N.app hQ.2.2⟩)
theorem Go.callV (pc' : Nat) (hp : pc + 3 = pc') {C : Bd} {Qc : Option Value → Heap → Prop} {ix : Nat} {D : String} (a : Addr) (argsL : List Value) {st : List Value} (i1 i2 i3 i4 i5 i6 : Nat) (K : Con Z C (.ref a :: argsL).toArray h Qc) (Ea : Exa Z h a D) (hd : decode B.by pc = .ok (.invokevirtual ix, 3)) (w1 : B.tb[i1]? = some (.methodLink B.y.cls ix C.y)) (w2 : B.tb[i2]? = some (.declares C.y)) (w3 : B.tb[i3]? = some (.selects D C.y C.y)) (w4 : B.tb[i4]? = some (.instanceMethod C.y)) (w5 : B.tb[i5]? = some (.initialized C.y.cls)) (w6 : B.tb[i6]? = some (.code C.y C.by C.ml C.rt))
    (hy : C.y.cls ≠ "java/lang/invoke/MethodHandle" ∧ C.y.cls ≠ "java/lang/invoke/VarHandle") {ps : List FieldType} {rt : Option FieldType} (hpd : parseMethodDescriptor C.y.desc = some ⟨ps, rt⟩) (hlen : argsL.length = ps.length) (hs : Ls.size = B.ml) (hst : st = argsL.reverse ++ .ref a :: rest) {W : Nat} (hW : (rest.map fun v => v.category).sum ≤ W) (hf : C.R.frames + 1 ≤ B.R.frames) (hl : W + (C.ml + 11) + C.R.locals ≤ B.R.locals) (hc : k + C.R.cells ≤ B.R.cells) (hn : n + C.R.slots ≤ B.R.slots)
    (r : ∀ (v : Option Value) (h' : Heap), Qc v h' → Go Q Z B (k + C.R.cells) (n + C.R.slots) h' pc' Ls (v.toList ++ rest)) : Go Q Z B k n h pc Ls st := fun x T P => by
  subst hp hst
  obtain ⟨a0, hw⟩ := P.wd.w
  obtain ⟨E, O', locs, X, e, N⟩ := id P
  obtain ⟨cq, kq, qa, qb, qc⟩ := isOf E.zz e Ea
  obtain ⟨v, vm₁, ⟨T1, L1, k1, n1⟩, -, X1, ⟨Lc, hQ, l1, y1, z1⟩, st1⟩ := X.virtualBack P.ex (y := C.y) (z := C.y) E.own (mvT E.zz (hw w1)) (mvT E.zz (hw w2)) (notFace_of_selects (args := #[]) (mvT E.zz (hw w3))) (mvT E.zz (hw w3)) (mvT E.zz (hw w4)) hy (K.back (W := W) P i6 i5 w6 w5 hf hl) qa qc (g := mkF x.m pc Ls (argsL.reverse ++ .ref a :: rest)) rfl (by rw [E.ml]; exact hs) (Steps.refl _) (argsL := argsL) (rest := rest) (lenOf hpd hlen) rfl (by show 2 * 0 + _ ≤ _; omega) (P.d hd) (fun _ _ => ⟨rfl, e, hc, hn⟩)
  dsimp only [Pt.U, Pt.locs, Pt.cells, Pt.slots] at X1 l1 y1 z1 st1 hQ
  subst l1 y1 z1
  exact liftS st1 (r v T1.heap hQ.1 x T1 ⟨E, hQ.2.1, _, X1, rfl, N.app hQ.2.2⟩)
theorem Go.callP (pc' : Nat) (hp : pc + 3 = pc') {C : Bd} {Qc : Option Value → Heap → Prop} {ix : Nat} {D : String} (a : Addr) (argsL : List Value) {st : List Value} (i1 i2 i3 i4 i5 i6 : Nat) (K : Con Z C (.ref a :: argsL).toArray h Qc) (Ea : Exa Z h a D) (hd : decode B.by pc = .ok (.invokevirtual ix, 3)) (w1 : B.tb[i1]? = some (.methodLink B.y.cls ix C.y)) (w2 : B.tb[i2]? = some (.instanceMethod C.y)) (w3 : B.tb[i3]? = some (.selects C.y.cls C.y C.y)) (w4 : B.tb[i4]? = some (.privateMethod C.y)) (w5 : B.tb[i5]? = some (.initialized C.y.cls)) (w6 : B.tb[i6]? = some (.code C.y C.by C.ml C.rt))
    (hy : C.y.cls ≠ "java/lang/invoke/MethodHandle" ∧ C.y.cls ≠ "java/lang/invoke/VarHandle") {ps : List FieldType} {rt : Option FieldType} (hpd : parseMethodDescriptor C.y.desc = some ⟨ps, rt⟩) (hlen : argsL.length = ps.length) (hs : Ls.size = B.ml) (hst : st = argsL.reverse ++ .ref a :: rest) {W : Nat} (hW : (rest.map fun v => v.category).sum ≤ W) (hf : C.R.frames + 1 ≤ B.R.frames) (hl : W + (C.ml + 11) + C.R.locals ≤ B.R.locals) (hc : k + C.R.cells ≤ B.R.cells) (hn : n + C.R.slots ≤ B.R.slots)
    (r : ∀ (v : Option Value) (h' : Heap), Qc v h' → Go Q Z B (k + C.R.cells) (n + C.R.slots) h' pc' Ls (v.toList ++ rest)) : Go Q Z B k n h pc Ls st := fun x T P => by
  subst hp hst
  obtain ⟨a0, hw⟩ := P.wd.w
  obtain ⟨E, O', locs, X, e, N⟩ := id P
  obtain ⟨cq, qa, qb⟩ := Ea.cell
  obtain ⟨v, vm₁, ⟨T1, L1, k1, n1⟩, -, X1, ⟨Lc, hQ, l1, y1, z1⟩, st1⟩ := X.privateBack P.ex (y := C.y) E.own (mvT E.zz (hw w1)) (mvT E.zz (hw w2)) (mvT E.zz (hw w3)) (Cond.privateMethod_at (mvP E.zz (hw w4) (args := #[]))) (mvT E.zz (hw w6)) hy (K.back (W := W) P i6 i5 w6 w5 hf hl) (g := mkF x.m pc Ls (argsL.reverse ++ .ref a :: rest)) rfl (by rw [E.ml]; exact hs) (Steps.refl _) (a := a) (by rw [e]; exact qa) qb (argsL := argsL) (rest := rest) (lenOf hpd hlen) rfl (by show 2 * 0 + _ ≤ _; omega) (P.d hd) (fun _ _ => ⟨rfl, e, hc, hn⟩)
  dsimp only [Pt.U, Pt.locs, Pt.cells, Pt.slots] at X1 l1 y1 z1 st1 hQ
  subst l1 y1 z1
  exact liftS st1 (r v T1.heap hQ.1 x T1 ⟨E, hQ.2.1, _, X1, rfl, N.app hQ.2.2⟩)
end St
end Jvm.Ow
namespace Jvm.Ow
open Sem ClassFile Op Lib Jvm.Stand Jvm.Free Jvm.LawKit Jvm.RoadKit
section More
variable {Q : Option Value → Heap → Prop} {Z : State} {x : Cx} {B : Bd} {T : State} {k n : Nat} {h h' : Heap} {pc : Nat} {Ls Ls' : Array Slot} {st rest : List Value}
theorem Go.instNull (pc' : Nat) (hp : pc + 3 = pc') {ix : Nat} (hd : decode B.by pc = .ok (.instanceof ix, 3)) (r : Go Q Z B k n h pc' Ls (.int 0 :: st)) : Go Q Z B k n h pc Ls (.null :: st) := fun x T P => by
  subst hp
  obtain ⟨E, O', locs, X, e, N⟩ := id P
  exact lift (fun t q => X.instanceofNull P.ex (g := mkF x.m pc Ls (.null :: st)) rfl rfl (P.d hd) t q) (r x T P)
theorem ary_arv {a : Addr} {c0 : ClassId} {ty : FieldType} {z : Int32} {vs : List Value} {d : Value} (F : Arv Z h a c0 ty z vs d) (hl : z.toNatClampNeg = vs.length) : Ary Z h a ty vs := by
  obtain ⟨c, A, -, S, hz, H, G⟩ := F
  have e : c.slots.toList = vs := by
    apply List.ext_getElem?
    intro i
    rw [Array.getElem?_toList]
    by_cases hi : i < vs.length
    · rw [H i (by omega)]
      simp [List.getD, hi]
    · rw [List.getElem?_eq_none (by omega), Array.getElem?_eq_none (by omega)]
  refine ⟨c, A, e, ?_, fun v hv => ?_⟩
  · rw [← hl]; have := nat_of (j := z) hz; have := z.toInt_lt; omega
  · obtain ⟨i, hi, rfl⟩ := List.mem_iff_getElem.mp hv
    have := G i (by omega)
    simpa [List.getD, hi] using this
theorem Go.grid (pc' : Nat) (hp : pc + 4 = pc') {ad C : String} {ty : FieldType} {ix : Nat} {m1 m2 : Int32} (i1 i2 i3 N M cap : Nat) (hd : decode B.by pc = .ok (.multianewarray ix 2, 4)) (hC : (FieldType.array ty).toString = C) (had : "[" ++ C = ad) (w1 : B.tb[i1]? = some (.classLink B.y.cls ix ad)) (w2 : B.tb[i2]? = some (.arrayOver (.array ty))) (w3 : B.tb[i3]? = some (.arrayClass ty))
    (hN : m1.toInt = N) (hM : m2.toInt = M) (hcap : M ≤ cap) (hb : cap * 8 ≤ 536870912) (hb1 : N ≤ 1000) (hdf : fits ty (defaultValue ty) = true) (hdd : (defaultValue ty).isDefault = true) (hc : k + (1 + N) ≤ B.R.cells) (hl : n + (N + N * cap) ≤ B.R.slots)
    (r : ∀ (h' : Heap) (a : Addr), @Eq Nat a h.size → Z.heap.size ≤ a → Keep h h' [] → Ary Z h' a (.array ty) ((List.range N).map fun j => .ref (a + 1 + j)) → (∀ j, j < N → Ary Z h' (a + 1 + j) ty (List.replicate M (defaultValue ty))) → Go Q Z B (k + (1 + N)) (n + (N + N * cap)) h' pc' Ls (.ref a :: st)) : Go Q Z B k n h pc Ls (.int m2 :: .int m1 :: st) := fun x T P => by
  subst hp
  obtain ⟨a0, hw⟩ := P.wd.w
  obtain ⟨E, O', locs, X, e, N'⟩ := id P
  have z0 : (0 : Int32).toInt = 0 := rfl
  have hm1 : ¬ m1 < 0 := by rw [Int32.lt_iff_toInt_lt]; omega
  have hm2 : ¬ m2 < 0 := by rw [Int32.lt_iff_toInt_lt]; omega
  obtain ⟨T', h', cA, comp, X', e', Ex, A, -, -, R1, s'⟩ := gridM X P.ex E.zz E.own hC had (hw w1) (hw w2) (hw w3) e (g := mkF x.m pc Ls (.int m2 :: .int m1 :: st)) rfl (P.d hd) rfl hm1 hm2 (N := N) (ix_nat hN) rfl (cap := cap) (by rw [ix_nat hM]; exact hcap) hb hb1 hdf hdd hc hl
  have hlen : M < 2 ^ 31 := by have := m2.toInt_lt; omega
  refine lift s' (r h' h.size rfl P.le (keep_ext Ex) ?_ (fun j hj => ?_) x T' ⟨E, ⟨Nat.le_trans O'.1 Ex.1, fun y c q => Ex.2 y c (O'.2 y c q)⟩, locs, X', e', N'⟩)
  · have := ary_arv A (by rw [ix_nat hN]; simp)
    rw [List.map_map] at this
    exact this
  · obtain ⟨A1, -⟩ := R1 j (h.size + 1 + j) (by simp [hj])
    refine ⟨_, A1, ?_, by rw [List.length_replicate]; exact hlen, fun v hv => ?_⟩
    · show (Array.replicate _ _).toList = _
      rw [ix_nat hM, Array.toList_replicate]
    · rw [List.eq_of_mem_replicate hv]; exact hdf
/-- a class right under the root is not assignable to another plain class -/
theorem not_asg {tb : List Cond} (hw : Wd Z tb) {C S K : String} {sz : Nat} (i1 i2 i3 : Nat) (w1 : tb[i1]? = some (.superclass C S)) (w2 : tb[i2]? = some (.noSuperclass S)) (w3 : tb[i3]? = some (.instantiable K sz)) (n1 : C ≠ K) (n2 : S ≠ K) : ∃ c t, Z.vm.findClass C = some c ∧ Z.vm.findClass K = some t ∧ Z.vm.assignable c t = false := by
  obtain ⟨a0, hw⟩ := hw.w
  obtain ⟨c, h0⟩ := found_sup (hw w1)
  obtain ⟨p, k, kp, h1, h2, h3, h4, h5, -, h7⟩ := Cond.superclass_spec h0 (hw w1)
  obtain ⟨c', k', g1, g2, g3, -, -⟩ := Cond.noSuperclass_spec (hw w2)
  cases g1.symm.trans h1
  cases g2.symm.trans h3
  obtain ⟨t, kt, i1, i2, i3, i4, -⟩ := Cond.instantiable_spec (hw w3)
  have ne1 := ids_ne h0 i1 n1
  have ne2 := ids_ne h1 i1 n2
  have hi : kt.isInterface = false := (Bool.or_eq_false_iff.mp i4).1
  refine ⟨c, t, h0, i1, ?_⟩
  show Z.vm.assignableAux (255 + 1) c t = false
  have sub : ∀ fuel, Z.vm.isSubclassAux fuel c t = false := by
    intro fuel
    cases fuel with
    | zero => rfl
    | succ f =>
      cases f with
      | zero => simp [Vm.isSubclassAux, ne1, h2, h4]
      | succ f => simp [Vm.isSubclassAux, ne1, ne2, h2, h4, h3, g3]
  simp [Vm.assignableAux, ne1, h2, i2, h5, i3, hi, Vm.isSubclass, sub]
end More
end Jvm.Ow
namespace Jvm.Pilot.@@N@@
open Jvm Jvm.ClassFile Sem Op Lib Jvm.Free Jvm.Stand Jvm.LawKit Jvm.RoadKit Bundle Jvm.Ow Jvm.Pilot.@@N@@.Jvm.D
theorem own_rep : List.replicate 65536 (Value.int 0) = .int 0 :: .int 0 :: .int 0 :: .int 0 :: .int 0 :: .int 0 :: .int 0 :: .int 0 :: List.replicate 65528 (Value.int 0) :=
  (fun (n : Nat) => (rfl : List.replicate (n + 8) (Value.int 0) = .int 0 :: .int 0 :: .int 0 :: .int 0 :: .int 0 :: .int 0 :: .int 0 :: .int 0 :: List.replicate n (Value.int 0))) 65528
theorem own_inc {z : Int32} {zn : Nat} (h : z.toInt = zn) (hn : zn < 65536) : (z + 1).toInt = ((zn + 1 : Nat) : Int) := by
  have h1 : (1 : Int32).toInt = 1 := rfl
  have := Jvm.Free.XT.add32 (x := z) (y := 1) ⟨by omega, by omega⟩
  omega
def sameE (i p v a b : Int32) : Int32 := if ¬ i < p ∧ ¬ (p + 3) < i then v >>> ((24 - 8 * (i - p)) &&& 31) else if i < 4 then a >>> ((24 - 8 * i) &&& 31) else b >>> ((24 - 8 * (i - 4)) &&& 31)
theorem own_p {x v : Int32} (h : (x &&& (2147483647 : Int32)) % (5 : Int32) = v) : v = 0 ∨ v = 1 ∨ v = 2 ∨ v = 3 ∨ v = 4 := by
  have h1 : (x &&& (2147483647 : Int32)).toInt = x.toInt % (2 ^ 31 : Nat) := c_mask x 2147483647 31 (by decide) (by decide)
  have h2 := (c_irem (x &&& (2147483647 : Int32)) 5 5 (by decide)).1 (by omega)
  rw [h] at h2
  have h3 : v.toInt = 0 ∨ v.toInt = 1 ∨ v.toInt = 2 ∨ v.toInt = 3 ∨ v.toInt = 4 := by omega
  rcases h3 with q | q | q | q | q
  · exact Or.inl (Int32.toInt_inj.mp q)
  · exact Or.inr (Or.inl (Int32.toInt_inj.mp q))
  · exact Or.inr (Or.inr (Or.inl (Int32.toInt_inj.mp q)))
  · exact Or.inr (Or.inr (Or.inr (Or.inl (Int32.toInt_inj.mp q))))
  · exact Or.inr (Or.inr (Or.inr (Or.inr (Int32.toInt_inj.mp q))))
theorem own_nn (x : Int32) : nar .byte x.toInt8.toInt32 = x.toInt8.toInt32 := by
  have h1 := c_i2b x
  have h2 := c_i2b x.toInt8.toInt32
  show x.toInt8.toInt32.toInt8.toInt32 = _
  apply Int32.toInt_inj.mp
  omega
theorem own_sh (X q : Int32) (k : Nat) (hk : q.toBitVec.toNat % 32 = k) (h0 : 0 < k) (h24 : k ≤ 24) : nar .byte (XT.ushr X q).toInt8.toInt32 = (X >>> (q &&& 31)).toInt8.toInt32 := by
  rw [own_nn]
  have h1 := c_i2b (XT.ushr X q)
  have h2 := c_i2b (X >>> (q &&& 31))
  have h3 : (XT.ushr X q).toInt = (X.toInt % 4294967296) / (2 ^ k : Nat) := c_iushr X q k hk h0
  have h4 := c_ishr X q k hk
  apply Int32.toInt_inj.mp
  have hd : ∃ D : Int, ((2 ^ k : Nat) : Int) * D = 4294967296 ∧ 256 ∣ D := by
    refine ⟨((2 ^ (32 - k) : Nat) : Int), ?_, ?_⟩
    · rw [← Int.natCast_mul, ← Nat.pow_add, show k + (32 - k) = 32 by omega]; rfl
    · refine ⟨((2 ^ (24 - k) : Nat) : Int), ?_⟩
      rw [show (256 : Int) = ((2 ^ 8 : Nat) : Int) by rfl, ← Int.natCast_mul, ← Nat.pow_add, show 8 + (24 - k) = 32 - k by omega]
  obtain ⟨D, d1, E, d2⟩ := hd
  have hp : (0 : Int) < ((2 ^ k : Nat) : Int) := by have := Nat.two_pow_pos k; omega
  have h6 : X.toInt / ((2 ^ k : Nat) : Int) = (X.toInt % 4294967296) / ((2 ^ k : Nat) : Int) + D * (X.toInt / 4294967296) := by
    have e1 : X.toInt = X.toInt % 4294967296 + ((2 ^ k : Nat) : Int) * (D * (X.toInt / 4294967296)) := by
      rw [← Int.mul_assoc, d1]; omega
    rw [e1, Int.add_mul_ediv_left _ _ (Int.ne_of_gt hp), ← e1]
  rw [d2, Int.mul_assoc] at h6
  generalize E * (X.toInt / 4294967296) = G at h6
  omega
theorem own_s24 (X : Int32) : nar .byte (XT.ushr X (24 : Int32)).toInt8.toInt32 = (X >>> ((24 : Int32) &&& 31)).toInt8.toInt32 := own_sh X 24 24 (by decide) (by decide) (by decide)
theorem own_s16 (X : Int32) : nar .byte (XT.ushr X (16 : Int32)).toInt8.toInt32 = (X >>> ((16 : Int32) &&& 31)).toInt8.toInt32 := own_sh X 16 16 (by decide) (by decide) (by decide)
theorem own_s8 (X : Int32) : nar .byte (XT.ushr X (8 : Int32)).toInt8.toInt32 = (X >>> ((8 : Int32) &&& 31)).toInt8.toInt32 := own_sh X 8 8 (by decide) (by decide) (by decide)
theorem own_s0 (X : Int32) : nar .byte X.toInt8.toInt32 = (X >>> ((0 : Int32) &&& 31)).toInt8.toInt32 := by
  rw [own_nn]
  have h4 := c_ishr X 0 0 (by decide)
  have : X >>> ((0 : Int32) &&& 31) = X := by apply Int32.toInt_inj.mp; rw [h4]; simp
  rw [this]
theorem own_by (x : Int32) : ((nar .byte x.toInt8.toInt32) &&& (255 : Int32)).toInt = x.toInt % 256 := by
  have h1 : ((nar .byte x.toInt8.toInt32) &&& (255 : Int32)).toInt = (nar .byte x.toInt8.toInt32).toInt % (2 ^ 8 : Nat) := c_mask _ 255 8 (by decide) (by decide)
  rw [own_nn] at h1 ⊢
  have h3 := c_i2b x
  omega
theorem own_got (x : Int32) : (((((nar .byte (XT.ushr x (24 : Int32)).toInt8.toInt32) &&& (255 : Int32)) <<< ((24 : Int32) &&& 31)) ||| (((nar .byte (XT.ushr x (16 : Int32)).toInt8.toInt32) &&& (255 : Int32)) <<< ((16 : Int32) &&& 31))) ||| (((nar .byte (XT.ushr x (8 : Int32)).toInt8.toInt32) &&& (255 : Int32)) <<< ((8 : Int32) &&& 31))) ||| ((nar .byte x.toInt8.toInt32) &&& (255 : Int32)) = x := by
  have a0 := own_by x
  have a1 := own_by (XT.ushr x (8 : Int32))
  have a2 := own_by (XT.ushr x (16 : Int32))
  have a3 := own_by (XT.ushr x (24 : Int32))
  have s1 : (XT.ushr x 8).toInt = _ := c_iushr x 8 8 (by decide) (by decide)
  have s2 : (XT.ushr x 16).toInt = _ := c_iushr x 16 16 (by decide) (by decide)
  have s3 : (XT.ushr x 24).toInt = _ := c_iushr x 24 24 (by decide) (by decide)
  rw [s1] at a1; rw [s2] at a2; rw [s3] at a3
  generalize ((nar .byte x.toInt8.toInt32) &&& (255 : Int32)) = z0 at *
  generalize ((nar .byte (XT.ushr x (8 : Int32)).toInt8.toInt32) &&& (255 : Int32)) = z1 at *
  generalize ((nar .byte (XT.ushr x (16 : Int32)).toInt8.toInt32) &&& (255 : Int32)) = z2 at *
  generalize ((nar .byte (XT.ushr x (24 : Int32)).toInt8.toInt32) &&& (255 : Int32)) = z3 at *
  have l1 := c_ishl z1 8 8 (by decide)
  have l2 := c_ishl z2 16 16 (by decide)
  have l3 := c_ishl z3 24 24 (by decide)
  generalize (z1 <<< ((8 : Int32) &&& 31)) = w1 at *
  generalize (z2 <<< ((16 : Int32) &&& 31)) = w2 at *
  generalize (z3 <<< ((24 : Int32) &&& 31)) = w3 at *
  have r0 := rng32 x
  have r1 := rng32 w1
  have r2 := rng32 w2
  have r3 := rng32 w3
  have o1 := c_or w3 w2 24 (by decide) 16777216 rfl (by omega) (by omega) (by omega)
  have q1 := rng32 (w3 ||| w2)
  have o2 := c_or (w3 ||| w2) w1 16 (by decide) 65536 rfl (by omega) (by omega) (by omega)
  have q2 := rng32 (w3 ||| w2 ||| w1)
  have o3 := c_or (w3 ||| w2 ||| w1) z0 8 (by decide) 256 rfl (by omega) (by omega) (by omega)
  have q3 := rng32 (w3 ||| w2 ||| w1 ||| z0)
  apply Int32.toInt_inj.mp
  omega
theorem d1_0 : decode prog_23_method_1_code 0 = .ok (.aload_n 0, 1) := by decide +kernel
theorem d1_1 : decode prog_23_method_1_code 1 = .ok (.invokespecial 1, 3) := by decide +kernel
theorem d1_4 : decode prog_23_method_1_code 4 = .ok (.aload_n 0, 1) := by decide +kernel
theorem d1_5 : decode prog_23_method_1_code 5 = .ok (.ldc 7, 2) := by decide +kernel
theorem d1_7 : decode prog_23_method_1_code 7 = .ok (.newarray .byte, 2) := by decide +kernel
theorem d1_9 : decode prog_23_method_1_code 9 = .ok (.putfield 8, 3) := by decide +kernel
theorem d1_12 : decode prog_23_method_1_code 12 = .ok (.return_, 1) := by decide +kernel
theorem pd1 : parseMethodDescriptor "()V" = some ⟨[], none⟩ := by decide +kernel
theorem pn1 : plainName "locuscope/io/Bytes" = true := by first | (simp [plainName, overriddenIn]; done) | decide +kernel
abbrev B1 : Bd := ((⟨"locuscope/io/Bytes", "<init>", "()V"⟩ : MethodName), prog_23_method_1_code, 1, none, ({ frames := 1, cells := 1, slots := 65536, locals := 12 } : Room), tables_1)
theorem ef1 (m : MethodId) (a : Addr) : entryFrame m (List.toArray [.ref a]) 1 = mkF m 0 #[.val (.ref a)] [] := by first | (simp [entryFrame, mkF, argsToLocals, Value.category]; done) | rfl
def Q1 (Z : State) (a : Addr) (h0 : Heap) (v : Option Value) (h : Heap) : Prop := v = none ∧ ∃ t, ∃ r : List Value, h0.size ≤ t ∧ r.length = 65528 ∧ Keep h0 h [a] ∧ Fld Z h a "locuscope/io/Bytes" "bytes" "[B" (.ref t) ∧ Fld Z h a "locuscope/io/Bytes" "size" "I" (.int 0) ∧ Ary Z h t .byte (.int 0 :: .int 0 :: .int 0 :: .int 0 :: .int 0 :: .int 0 :: .int 0 :: .int 0 :: r)
set_option maxRecDepth 65536 in
set_option maxHeartbeats 40000000 in
theorem c1 (Z : State) (hw : Wd Z tables_1) (h0 : Heap) (a : Addr)  (hge : Z.heap.size ≤ a) (hE : Exa Z h0 a "locuscope/io/Bytes") (hFb : Fld Z h0 a "locuscope/io/Bytes" "bytes" "[B" .null) (hFs : Fld Z h0 a "locuscope/io/Bytes" "size" "I" (.int 0)) : Con Z B1 (List.toArray [.ref a]) h0 (Q1 Z a h0) := by
  refine Con.mk hw pn1 (fun m => ef1 m a) (Go.old fun hle' => ?_)
  have hle := hle'.1
  refine Go.aloadN 1 rfl d1_0 rfl rfl ?_
  refine Go.initO 4 rfl 7 8 9 d1_1 rfl rfl rfl rfl (by decide) (W := 0) (Nat.le_of_ble_eq_true rfl) (by decide) ?_
  refine Go.aloadN 5 rfl d1_4 rfl rfl ?_
  refine Go.ldcI 7 rfl (v := (65536 : Int32)) 10 d1_5 rfl ?_
  refine Go.newA 9 rfl 11 65536 65536 d1_7 rfl rfl (by decide) (by decide) (by decide) (by decide) fun h2 a1 g3 z4 K5 A6 E7 => ?_
  have A8 : Ary Z h2 a1 .byte (List.replicate 65536 (.int 0)) := A6
  have F9 : Fld Z h2 a "locuscope/io/Bytes" "bytes" "[B" (.null) := (hFb.keep K5 nin0)
  have F10 : Exa Z h2 a "locuscope/io/Bytes" := (hE.keep K5)
  refine Go.putF 12 rfl (v' := .ref a1) (ty := (.array .byte)) 12 13 2 d1_9 rfl F9 F10 (Or.inl rfl) rfl (by decide) rfl rfl hge fun h11 K12 W13 F14 => ?_
  have ne15 : a1 ≠ a := (show @Ne Nat a1 a from by have := ltN hE.lt; have := g3; omega)
  have F16 : Ary Z h11 a1 .byte (List.replicate 65536 (.int 0)) := (A8.keep K12 (ninS ne15 nin0))
  have F17 : Fld Z h11 a "locuscope/io/Bytes" "size" "I" (.int (0 : Int32)) := (Fld.oth hw (hFs.keep K5 nin0) W13 25 13 (Or.inl rfl) (Or.inl rfl) (by decide) rfl rfl)
  exact Go.retV d1_12 rfl (by decide) (by decide) ⟨rfl, a1, List.replicate 65528 (.int 0), by rw [g3]; exact Nat.le_refl _, List.length_replicate, (((Keep.refl h0 [a]).trans K5 all0).trans K12 (by simp)), F14, F17, own_rep ▸ F16⟩
theorem d4_0 : decode prog_23_method_5_code 0 = .ok (.aload_n 0, 1) := by decide +kernel
theorem d4_1 : decode prog_23_method_5_code 1 = .ok (.getfield 14, 3) := by decide +kernel
theorem d4_4 : decode prog_23_method_5_code 4 = .ok (.aload_n 0, 1) := by decide +kernel
theorem d4_5 : decode prog_23_method_5_code 5 = .ok (.getfield 8, 3) := by decide +kernel
theorem d4_8 : decode prog_23_method_5_code 8 = .ok (.arraylength, 1) := by decide +kernel
theorem d4_9 : decode prog_23_method_5_code 9 = .ok (.if_icmp .ne 21, 3) := by decide +kernel
theorem d4_12 : decode prog_23_method_5_code 12 = .ok (.aload_n 0, 1) := by decide +kernel
theorem d4_13 : decode prog_23_method_5_code 13 = .ok (.aload_n 0, 1) := by decide +kernel
theorem d4_14 : decode prog_23_method_5_code 14 = .ok (.getfield 8, 3) := by decide +kernel
theorem d4_17 : decode prog_23_method_5_code 17 = .ok (.aload_n 0, 1) := by decide +kernel
theorem d4_18 : decode prog_23_method_5_code 18 = .ok (.getfield 8, 3) := by decide +kernel
theorem d4_21 : decode prog_23_method_5_code 21 = .ok (.arraylength, 1) := by decide +kernel
theorem d4_22 : decode prog_23_method_5_code 22 = .ok (.iconst 2, 1) := by decide +kernel
theorem d4_23 : decode prog_23_method_5_code 23 = .ok (.imul, 1) := by decide +kernel
theorem d4_24 : decode prog_23_method_5_code 24 = .ok (.invokestatic 18, 3) := by decide +kernel
theorem d4_27 : decode prog_23_method_5_code 27 = .ok (.putfield 8, 3) := by decide +kernel
theorem d4_30 : decode prog_23_method_5_code 30 = .ok (.aload_n 0, 1) := by decide +kernel
theorem d4_31 : decode prog_23_method_5_code 31 = .ok (.getfield 8, 3) := by decide +kernel
theorem d4_34 : decode prog_23_method_5_code 34 = .ok (.aload_n 0, 1) := by decide +kernel
theorem d4_35 : decode prog_23_method_5_code 35 = .ok (.dup, 1) := by decide +kernel
theorem d4_36 : decode prog_23_method_5_code 36 = .ok (.getfield 14, 3) := by decide +kernel
theorem d4_39 : decode prog_23_method_5_code 39 = .ok (.dup_x1, 1) := by decide +kernel
theorem d4_40 : decode prog_23_method_5_code 40 = .ok (.iconst 1, 1) := by decide +kernel
theorem d4_41 : decode prog_23_method_5_code 41 = .ok (.iadd, 1) := by decide +kernel
theorem d4_42 : decode prog_23_method_5_code 42 = .ok (.putfield 14, 3) := by decide +kernel
theorem d4_45 : decode prog_23_method_5_code 45 = .ok (.iload_n 1, 1) := by decide +kernel
theorem d4_46 : decode prog_23_method_5_code 46 = .ok (.i2b, 1) := by decide +kernel
theorem d4_47 : decode prog_23_method_5_code 47 = .ok (.bastore, 1) := by decide +kernel
theorem d4_48 : decode prog_23_method_5_code 48 = .ok (.return_, 1) := by decide +kernel
theorem pd4 : parseMethodDescriptor "(I)V" = some ⟨[.int], none⟩ := by decide +kernel
theorem pn4 : plainName "locuscope/io/Bytes" = true := by first | (simp [plainName, overriddenIn]; done) | decide +kernel
abbrev B4 : Bd := ((⟨"locuscope/io/Bytes", "add", "(I)V"⟩ : MethodName), prog_23_method_5_code, 2, none, ({ frames := 0, cells := 0, slots := 0, locals := 0 } : Room), tables_1)
theorem ef4 (m : MethodId) (a : Addr) (y : Int32) : entryFrame m (List.toArray [.ref a, .int y]) 2 = mkF m 0 #[.val (.ref a), .val (.int y)] [] := by first | (simp [entryFrame, mkF, argsToLocals, Value.category]; done) | rfl
def Q4 (Z : State) (a : Addr) (y : Int32) (t : Addr) (z : Int32) (zn : Nat) (vs : List Value) (h0 : Heap) (v : Option Value) (h : Heap) : Prop := v = none ∧ Keep h0 h [a, t] ∧ Fld Z h a "locuscope/io/Bytes" "bytes" "[B" (.ref t) ∧ Fld Z h a "locuscope/io/Bytes" "size" "I" (.int (z + 1)) ∧ Ary Z h t .byte (vs.set zn (.int (nar .byte y.toInt8.toInt32)))
set_option maxRecDepth 65536 in
set_option maxHeartbeats 40000000 in
theorem c4 (Z : State) (hw : Wd Z tables_1) (h0 : Heap) (a : Addr) (y : Int32) (t : Addr) (z : Int32) (zn : Nat) (vs : List Value) (hge : Z.heap.size ≤ a) (hgt : Z.heap.size ≤ t) (hne : a ≠ t) (hE : Exa Z h0 a "locuscope/io/Bytes") (hFb : Fld Z h0 a "locuscope/io/Bytes" "bytes" "[B" (.ref t)) (hFs : Fld Z h0 a "locuscope/io/Bytes" "size" "I" (.int z)) (hA : Ary Z h0 t .byte vs) (hz : z.toInt = zn) (hlen : vs.length = 65536) (hzn : zn < 65536) : Con Z B4 (List.toArray [.ref a, .int y]) h0 (Q4 Z a y t z zn vs h0) := by
  refine Con.mk hw pn4 (fun m => ef4 m a y) (Go.old fun hle' => ?_)
  have hle := hle'.1
  refine Go.aloadN 1 rfl d4_0 rfl rfl ?_
  refine Go.getF 4 rfl (v := .int z) 24 d4_1 rfl hFs ?_
  refine Go.aloadN 5 rfl d4_4 rfl rfl ?_
  refine Go.getF 8 rfl (v := .ref t) 12 d4_5 rfl hFb ?_
  refine Go.alen 9 rfl (65536 : Int32) d4_8 hA (by rw [hlen]; rfl) ?_
  refine Go.icmp_ne 30 12 d4_9 (by decide) rfl rfl (fun (b1 : ¬ z = (65536 : Int32)) => ?_) (fun (b1 : z = (65536 : Int32)) => ?_)
  · refine Go.aloadN 31 rfl d4_30 rfl rfl ?_
    refine Go.getF 34 rfl (v := .ref t) 12 d4_31 rfl hFb ?_
    refine Go.aloadN 35 rfl d4_34 rfl rfl ?_
    refine Go.dup 36 rfl d4_35 rfl ?_
    refine Go.getF 39 rfl (v := .int z) 24 d4_36 rfl hFs ?_
    refine Go.dupX1 40 rfl d4_39 rfl rfl ?_
    refine Go.iconst 41 rfl (1 : Int32) d4_40 rfl ?_
    refine Go.iadd 42 rfl d4_41 ?_
    refine Go.putF 45 rfl (v' := .int (z + (1 : Int32))) (ty := .int) 24 25 2 d4_42 rfl hFs hE (Or.inl rfl) rfl (by decide) rfl rfl hge fun h2 K3 W4 F5 => ?_
    refine Go.iloadN 46 rfl d4_45 rfl ?_
    refine Go.i2b 47 rfl d4_46 ?_
    have F6 : Ary Z h2 t .byte vs := (hA.keep K3 (ninS (Ne.symm hne) nin0))
    refine Go.stB 48 rfl d4_47 F6 zn hz (by rw [hlen]; exact hzn) hgt fun h7 K8 A9 => ?_
    have A10 : Ary Z h7 t .byte (vs.set zn (.int (nar .byte y.toInt8.toInt32))) := A9
    have F11 : Fld Z h7 a "locuscope/io/Bytes" "bytes" "[B" (.ref t) := ((Fld.oth hw hFb W4 13 25 (Or.inl rfl) (Or.inl rfl) (by decide) rfl rfl).keep K8 (ninS hne nin0))
    have F12 : Fld Z h7 a "locuscope/io/Bytes" "size" "I" (.int (z + (1 : Int32))) := (F5.keep K8 (ninS hne nin0))
    exact Go.retV d4_48 rfl (by decide) (by decide) ⟨rfl, (((Keep.refl h0 [a, t]).trans K3 (by simp)).trans K8 (by simp)), F11, F12, A10⟩
  · exact absurd (b1 ▸ hz) (by show ¬ (65536 : Int) = (zn : Int); omega)
theorem d3_0 : decode prog_23_method_7_code 0 = .ok (.aload_n 0, 1) := by decide +kernel
theorem d3_1 : decode prog_23_method_7_code 1 = .ok (.iload_n 1, 1) := by decide +kernel
theorem d3_2 : decode prog_23_method_7_code 2 = .ok (.bipush 24, 2) := by decide +kernel
theorem d3_4 : decode prog_23_method_7_code 4 = .ok (.iushr, 1) := by decide +kernel
theorem d3_5 : decode prog_23_method_7_code 5 = .ok (.invokevirtual 24, 3) := by decide +kernel
theorem d3_8 : decode prog_23_method_7_code 8 = .ok (.aload_n 0, 1) := by decide +kernel
theorem d3_9 : decode prog_23_method_7_code 9 = .ok (.iload_n 1, 1) := by decide +kernel
theorem d3_10 : decode prog_23_method_7_code 10 = .ok (.bipush 16, 2) := by decide +kernel
theorem d3_12 : decode prog_23_method_7_code 12 = .ok (.iushr, 1) := by decide +kernel
theorem d3_13 : decode prog_23_method_7_code 13 = .ok (.invokevirtual 24, 3) := by decide +kernel
theorem d3_16 : decode prog_23_method_7_code 16 = .ok (.aload_n 0, 1) := by decide +kernel
theorem d3_17 : decode prog_23_method_7_code 17 = .ok (.iload_n 1, 1) := by decide +kernel
theorem d3_18 : decode prog_23_method_7_code 18 = .ok (.bipush 8, 2) := by decide +kernel
theorem d3_20 : decode prog_23_method_7_code 20 = .ok (.iushr, 1) := by decide +kernel
theorem d3_21 : decode prog_23_method_7_code 21 = .ok (.invokevirtual 24, 3) := by decide +kernel
theorem d3_24 : decode prog_23_method_7_code 24 = .ok (.aload_n 0, 1) := by decide +kernel
theorem d3_25 : decode prog_23_method_7_code 25 = .ok (.iload_n 1, 1) := by decide +kernel
theorem d3_26 : decode prog_23_method_7_code 26 = .ok (.invokevirtual 24, 3) := by decide +kernel
theorem d3_29 : decode prog_23_method_7_code 29 = .ok (.return_, 1) := by decide +kernel
theorem pd3 : parseMethodDescriptor "(I)V" = some ⟨[.int], none⟩ := by decide +kernel
theorem pn3 : plainName "locuscope/io/Bytes" = true := by first | (simp [plainName, overriddenIn]; done) | decide +kernel
abbrev B3 : Bd := ((⟨"locuscope/io/Bytes", "addInt", "(I)V"⟩ : MethodName), prog_23_method_7_code, 2, none, ({ frames := 1, cells := 0, slots := 0, locals := 13 } : Room), tables_1)
theorem ef3 (m : MethodId) (a : Addr) (y : Int32) : entryFrame m (List.toArray [.ref a, .int y]) 2 = mkF m 0 #[.val (.ref a), .val (.int y)] [] := by first | (simp [entryFrame, mkF, argsToLocals, Value.category]; done) | rfl
def Q3 (Z : State) (a : Addr) (y : Int32) (t : Addr) (z : Int32) (zn : Nat) (vs : List Value) (h0 : Heap) (v : Option Value) (h : Heap) : Prop := v = none ∧ Keep h0 h [a, t] ∧ Fld Z h a "locuscope/io/Bytes" "bytes" "[B" (.ref t) ∧ Fld Z h a "locuscope/io/Bytes" "size" "I" (.int ((((z + 1) + 1) + 1) + 1)) ∧ Ary Z h t .byte ((((vs.set zn (.int (nar .byte (XT.ushr y (24 : Int32)).toInt8.toInt32))).set (zn + 1) (.int (nar .byte (XT.ushr y (16 : Int32)).toInt8.toInt32))).set ((zn + 1) + 1) (.int (nar .byte (XT.ushr y (8 : Int32)).toInt8.toInt32))).set (((zn + 1) + 1) + 1) (.int (nar .byte y.toInt8.toInt32)))
set_option maxRecDepth 65536 in
set_option maxHeartbeats 40000000 in
theorem c3 (Z : State) (hw : Wd Z tables_1) (h0 : Heap) (a : Addr) (y : Int32) (t : Addr) (z : Int32) (zn : Nat) (vs : List Value) (hge : Z.heap.size ≤ a) (hgt : Z.heap.size ≤ t) (hne : a ≠ t) (hE : Exa Z h0 a "locuscope/io/Bytes") (hFb : Fld Z h0 a "locuscope/io/Bytes" "bytes" "[B" (.ref t)) (hFs : Fld Z h0 a "locuscope/io/Bytes" "size" "I" (.int z)) (hA : Ary Z h0 t .byte vs) (hz : z.toInt = zn) (hlen : vs.length = 65536) (hzn : zn + 4 ≤ 65536) : Con Z B3 (List.toArray [.ref a, .int y]) h0 (Q3 Z a y t z zn vs h0) := by
  refine Con.mk hw pn3 (fun m => ef3 m a y) (Go.old fun hle' => ?_)
  have hle := hle'.1
  refine Go.aloadN 1 rfl d3_0 rfl rfl ?_
  refine Go.iloadN 2 rfl d3_1 rfl ?_
  refine Go.bipush 4 rfl (24 : Int32) d3_2 rfl ?_
  refine Go.iushr 5 rfl d3_4 ?_
  refine Go.callV 8 rfl (C := B4) a [.int (XT.ushr y (24 : Int32))] (rest := []) 19 20 22 21 3 23 (c4 Z hw h0 a (XT.ushr y (24 : Int32)) t z zn vs hge hgt hne hE hFb hFs hA hz hlen (by omega)) hE d3_5 rfl rfl rfl rfl rfl rfl (by decide) pd4 rfl rfl rfl (W := 0) (Nat.le_of_ble_eq_true rfl) (by decide) (by decide) (by decide) (by decide) fun v1 h2 q3 => ?_
  obtain ⟨rfl, K4, F5, F6, A7⟩ := q3
  have e8 : (z + 1).toInt = ((zn + 1 : Nat) : Int) := own_inc hz (by omega)
  have e9 : (vs.set zn (.int (nar .byte (XT.ushr y (24 : Int32)).toInt8.toInt32))).length = 65536 := by rw [List.length_set]; exact hlen
  refine Go.aloadN 9 rfl d3_8 rfl rfl ?_
  refine Go.iloadN 10 rfl d3_9 rfl ?_
  refine Go.bipush 12 rfl (16 : Int32) d3_10 rfl ?_
  refine Go.iushr 13 rfl d3_12 ?_
  have F10 : Exa Z h2 a "locuscope/io/Bytes" := (hE.keep K4)
  refine Go.callV 16 rfl (C := B4) a [.int (XT.ushr y (16 : Int32))] (rest := []) 19 20 22 21 3 23 (c4 Z hw h2 a (XT.ushr y (16 : Int32)) t (z + 1) (zn + 1) (vs.set zn (.int (nar .byte (XT.ushr y (24 : Int32)).toInt8.toInt32))) hge hgt hne F10 F5 F6 A7 e8 e9 (by omega)) F10 d3_13 rfl rfl rfl rfl rfl rfl (by decide) pd4 rfl rfl rfl (W := 0) (Nat.le_of_ble_eq_true rfl) (by decide) (by decide) (by decide) (by decide) fun v11 h12 q13 => ?_
  obtain ⟨rfl, K14, F15, F16, A17⟩ := q13
  have e18 : ((z + 1) + 1).toInt = (((zn + 1) + 1 : Nat) : Int) := own_inc e8 (by omega)
  have e19 : ((vs.set zn (.int (nar .byte (XT.ushr y (24 : Int32)).toInt8.toInt32))).set (zn + 1) (.int (nar .byte (XT.ushr y (16 : Int32)).toInt8.toInt32))).length = 65536 := by rw [List.length_set]; exact e9
  refine Go.aloadN 17 rfl d3_16 rfl rfl ?_
  refine Go.iloadN 18 rfl d3_17 rfl ?_
  refine Go.bipush 20 rfl (8 : Int32) d3_18 rfl ?_
  refine Go.iushr 21 rfl d3_20 ?_
  have F20 : Exa Z h12 a "locuscope/io/Bytes" := (F10.keep K14)
  refine Go.callV 24 rfl (C := B4) a [.int (XT.ushr y (8 : Int32))] (rest := []) 19 20 22 21 3 23 (c4 Z hw h12 a (XT.ushr y (8 : Int32)) t ((z + 1) + 1) ((zn + 1) + 1) ((vs.set zn (.int (nar .byte (XT.ushr y (24 : Int32)).toInt8.toInt32))).set (zn + 1) (.int (nar .byte (XT.ushr y (16 : Int32)).toInt8.toInt32))) hge hgt hne F20 F15 F16 A17 e18 e19 (by omega)) F20 d3_21 rfl rfl rfl rfl rfl rfl (by decide) pd4 rfl rfl rfl (W := 0) (Nat.le_of_ble_eq_true rfl) (by decide) (by decide) (by decide) (by decide) fun v21 h22 q23 => ?_
  obtain ⟨rfl, K24, F25, F26, A27⟩ := q23
  have e28 : (((z + 1) + 1) + 1).toInt = ((((zn + 1) + 1) + 1 : Nat) : Int) := own_inc e18 (by omega)
  have e29 : (((vs.set zn (.int (nar .byte (XT.ushr y (24 : Int32)).toInt8.toInt32))).set (zn + 1) (.int (nar .byte (XT.ushr y (16 : Int32)).toInt8.toInt32))).set ((zn + 1) + 1) (.int (nar .byte (XT.ushr y (8 : Int32)).toInt8.toInt32))).length = 65536 := by rw [List.length_set]; exact e19
  refine Go.aloadN 25 rfl d3_24 rfl rfl ?_
  refine Go.iloadN 26 rfl d3_25 rfl ?_
  have F30 : Exa Z h22 a "locuscope/io/Bytes" := (F20.keep K24)
  refine Go.callV 29 rfl (C := B4) a [.int y] (rest := []) 19 20 22 21 3 23 (c4 Z hw h22 a y t (((z + 1) + 1) + 1) (((zn + 1) + 1) + 1) (((vs.set zn (.int (nar .byte (XT.ushr y (24 : Int32)).toInt8.toInt32))).set (zn + 1) (.int (nar .byte (XT.ushr y (16 : Int32)).toInt8.toInt32))).set ((zn + 1) + 1) (.int (nar .byte (XT.ushr y (8 : Int32)).toInt8.toInt32))) hge hgt hne F30 F25 F26 A27 e28 e29 (by omega)) F30 d3_26 rfl rfl rfl rfl rfl rfl (by decide) pd4 rfl rfl rfl (W := 0) (Nat.le_of_ble_eq_true rfl) (by decide) (by decide) (by decide) (by decide) fun v31 h32 q33 => ?_
  obtain ⟨rfl, K34, F35, F36, A37⟩ := q33
  have e38 : ((((z + 1) + 1) + 1) + 1).toInt = (((((zn + 1) + 1) + 1) + 1 : Nat) : Int) := own_inc e28 (by omega)
  have e39 : ((((vs.set zn (.int (nar .byte (XT.ushr y (24 : Int32)).toInt8.toInt32))).set (zn + 1) (.int (nar .byte (XT.ushr y (16 : Int32)).toInt8.toInt32))).set ((zn + 1) + 1) (.int (nar .byte (XT.ushr y (8 : Int32)).toInt8.toInt32))).set (((zn + 1) + 1) + 1) (.int (nar .byte y.toInt8.toInt32))).length = 65536 := by rw [List.length_set]; exact e29
  exact Go.retV d3_29 rfl (by decide) (by decide) ⟨rfl, (((((Keep.refl h0 [a, t]).trans K4 (by simp)).trans K14 (by simp)).trans K24 (by simp)).trans K34 (by simp)), F35, F36, A37⟩
theorem d5_0 : decode prog_23_method_8_code 0 = .ok (.aload_n 0, 1) := by decide +kernel
theorem d5_1 : decode prog_23_method_8_code 1 = .ok (.getfield 8, 3) := by decide +kernel
theorem d5_4 : decode prog_23_method_8_code 4 = .ok (.iload_n 1, 1) := by decide +kernel
theorem d5_5 : decode prog_23_method_8_code 5 = .ok (.iload_n 2, 1) := by decide +kernel
theorem d5_6 : decode prog_23_method_8_code 6 = .ok (.bipush 24, 2) := by decide +kernel
theorem d5_8 : decode prog_23_method_8_code 8 = .ok (.iushr, 1) := by decide +kernel
theorem d5_9 : decode prog_23_method_8_code 9 = .ok (.i2b, 1) := by decide +kernel
theorem d5_10 : decode prog_23_method_8_code 10 = .ok (.bastore, 1) := by decide +kernel
theorem d5_11 : decode prog_23_method_8_code 11 = .ok (.aload_n 0, 1) := by decide +kernel
theorem d5_12 : decode prog_23_method_8_code 12 = .ok (.getfield 8, 3) := by decide +kernel
theorem d5_15 : decode prog_23_method_8_code 15 = .ok (.iload_n 1, 1) := by decide +kernel
theorem d5_16 : decode prog_23_method_8_code 16 = .ok (.iconst 1, 1) := by decide +kernel
theorem d5_17 : decode prog_23_method_8_code 17 = .ok (.iadd, 1) := by decide +kernel
theorem d5_18 : decode prog_23_method_8_code 18 = .ok (.iload_n 2, 1) := by decide +kernel
theorem d5_19 : decode prog_23_method_8_code 19 = .ok (.bipush 16, 2) := by decide +kernel
theorem d5_21 : decode prog_23_method_8_code 21 = .ok (.iushr, 1) := by decide +kernel
theorem d5_22 : decode prog_23_method_8_code 22 = .ok (.i2b, 1) := by decide +kernel
theorem d5_23 : decode prog_23_method_8_code 23 = .ok (.bastore, 1) := by decide +kernel
theorem d5_24 : decode prog_23_method_8_code 24 = .ok (.aload_n 0, 1) := by decide +kernel
theorem d5_25 : decode prog_23_method_8_code 25 = .ok (.getfield 8, 3) := by decide +kernel
theorem d5_28 : decode prog_23_method_8_code 28 = .ok (.iload_n 1, 1) := by decide +kernel
theorem d5_29 : decode prog_23_method_8_code 29 = .ok (.iconst 2, 1) := by decide +kernel
theorem d5_30 : decode prog_23_method_8_code 30 = .ok (.iadd, 1) := by decide +kernel
theorem d5_31 : decode prog_23_method_8_code 31 = .ok (.iload_n 2, 1) := by decide +kernel
theorem d5_32 : decode prog_23_method_8_code 32 = .ok (.bipush 8, 2) := by decide +kernel
theorem d5_34 : decode prog_23_method_8_code 34 = .ok (.iushr, 1) := by decide +kernel
theorem d5_35 : decode prog_23_method_8_code 35 = .ok (.i2b, 1) := by decide +kernel
theorem d5_36 : decode prog_23_method_8_code 36 = .ok (.bastore, 1) := by decide +kernel
theorem d5_37 : decode prog_23_method_8_code 37 = .ok (.aload_n 0, 1) := by decide +kernel
theorem d5_38 : decode prog_23_method_8_code 38 = .ok (.getfield 8, 3) := by decide +kernel
theorem d5_41 : decode prog_23_method_8_code 41 = .ok (.iload_n 1, 1) := by decide +kernel
theorem d5_42 : decode prog_23_method_8_code 42 = .ok (.iconst 3, 1) := by decide +kernel
theorem d5_43 : decode prog_23_method_8_code 43 = .ok (.iadd, 1) := by decide +kernel
theorem d5_44 : decode prog_23_method_8_code 44 = .ok (.iload_n 2, 1) := by decide +kernel
theorem d5_45 : decode prog_23_method_8_code 45 = .ok (.i2b, 1) := by decide +kernel
theorem d5_46 : decode prog_23_method_8_code 46 = .ok (.bastore, 1) := by decide +kernel
theorem d5_47 : decode prog_23_method_8_code 47 = .ok (.return_, 1) := by decide +kernel
theorem pd5 : parseMethodDescriptor "(II)V" = some ⟨[.int, .int], none⟩ := by decide +kernel
theorem pn5 : plainName "locuscope/io/Bytes" = true := by first | (simp [plainName, overriddenIn]; done) | decide +kernel
abbrev B5 : Bd := ((⟨"locuscope/io/Bytes", "putInt", "(II)V"⟩ : MethodName), prog_23_method_8_code, 3, none, ({ frames := 0, cells := 0, slots := 0, locals := 0 } : Room), tables_1)
theorem ef5 (m : MethodId) (a : Addr) (p : Int32) (y : Int32) : entryFrame m (List.toArray [.ref a, .int p, .int y]) 3 = mkF m 0 #[.val (.ref a), .val (.int p), .val (.int y)] [] := by first | (simp [entryFrame, mkF, argsToLocals, Value.category]; done) | rfl
def Q5 (Z : State) (a : Addr) (y : Int32) (t : Addr) (pn : Nat) (vs : List Value) (h0 : Heap) (v : Option Value) (h : Heap) : Prop := v = none ∧ Keep h0 h [t] ∧ Ary Z h t .byte ((((vs.set pn (.int (nar .byte ((XT.ushr y (24 : Int32)).toInt8.toInt32)))).set (pn + 1) (.int (nar .byte ((XT.ushr y (16 : Int32)).toInt8.toInt32)))).set (pn + 2) (.int (nar .byte ((XT.ushr y (8 : Int32)).toInt8.toInt32)))).set (pn + 3) (.int (nar .byte y.toInt8.toInt32)))
set_option maxRecDepth 65536 in
set_option maxHeartbeats 40000000 in
theorem c5 (Z : State) (hw : Wd Z tables_1) (h0 : Heap) (a : Addr) (p : Int32) (y : Int32) (t : Addr) (pn : Nat) (vs : List Value) (hgt : Z.heap.size ≤ t) (hne : a ≠ t) (hFb : Fld Z h0 a "locuscope/io/Bytes" "bytes" "[B" (.ref t)) (hA : Ary Z h0 t .byte vs) (hlen : vs.length = 65536) (hpn : pn + 4 ≤ 65536) (hp0 : p.toInt = pn) (hp1 : (p + 1).toInt = ((pn + 1 : Nat) : Int)) (hp2 : (p + 2).toInt = ((pn + 2 : Nat) : Int)) (hp3 : (p + 3).toInt = ((pn + 3 : Nat) : Int)) : Con Z B5 (List.toArray [.ref a, .int p, .int y]) h0 (Q5 Z a y t pn vs h0) := by
  refine Con.mk hw pn5 (fun m => ef5 m a p y) (Go.old fun hle' => ?_)
  have hle := hle'.1
  refine Go.aloadN 1 rfl d5_0 rfl rfl ?_
  refine Go.getF 4 rfl (v := .ref t) 12 d5_1 rfl hFb ?_
  refine Go.iloadN 5 rfl d5_4 rfl ?_
  refine Go.iloadN 6 rfl d5_5 rfl ?_
  refine Go.bipush 8 rfl (24 : Int32) d5_6 rfl ?_
  refine Go.iushr 9 rfl d5_8 ?_
  refine Go.i2b 10 rfl d5_9 ?_
  refine Go.stB 11 rfl d5_10 hA pn hp0 (by rw [hlen]; omega) hgt fun h1 K2 A3 => ?_
  have A4 : Ary Z h1 t .byte (vs.set pn (.int (nar .byte ((XT.ushr y (24 : Int32)).toInt8.toInt32)))) := A3
  have e5 : (vs.set pn (.int (nar .byte ((XT.ushr y (24 : Int32)).toInt8.toInt32)))).length = 65536 := by rw [List.length_set]; exact hlen
  refine Go.aloadN 12 rfl d5_11 rfl rfl ?_
  have F6 : Fld Z h1 a "locuscope/io/Bytes" "bytes" "[B" (.ref t) := (hFb.keep K2 (ninS hne nin0))
  refine Go.getF 15 rfl (v := .ref t) 12 d5_12 rfl F6 ?_
  refine Go.iloadN 16 rfl d5_15 rfl ?_
  refine Go.iconst 17 rfl (1 : Int32) d5_16 rfl ?_
  refine Go.iadd 18 rfl d5_17 ?_
  refine Go.iloadN 19 rfl d5_18 rfl ?_
  refine Go.bipush 21 rfl (16 : Int32) d5_19 rfl ?_
  refine Go.iushr 22 rfl d5_21 ?_
  refine Go.i2b 23 rfl d5_22 ?_
  refine Go.stB 24 rfl d5_23 A4 (pn + 1) hp1 (by rw [e5]; omega) hgt fun h7 K8 A9 => ?_
  have A10 : Ary Z h7 t .byte ((vs.set pn (.int (nar .byte ((XT.ushr y (24 : Int32)).toInt8.toInt32)))).set (pn + 1) (.int (nar .byte ((XT.ushr y (16 : Int32)).toInt8.toInt32)))) := A9
  have e11 : ((vs.set pn (.int (nar .byte ((XT.ushr y (24 : Int32)).toInt8.toInt32)))).set (pn + 1) (.int (nar .byte ((XT.ushr y (16 : Int32)).toInt8.toInt32)))).length = 65536 := by rw [List.length_set]; exact e5
  refine Go.aloadN 25 rfl d5_24 rfl rfl ?_
  have F12 : Fld Z h7 a "locuscope/io/Bytes" "bytes" "[B" (.ref t) := (F6.keep K8 (ninS hne nin0))
  refine Go.getF 28 rfl (v := .ref t) 12 d5_25 rfl F12 ?_
  refine Go.iloadN 29 rfl d5_28 rfl ?_
  refine Go.iconst 30 rfl (2 : Int32) d5_29 rfl ?_
  refine Go.iadd 31 rfl d5_30 ?_
  refine Go.iloadN 32 rfl d5_31 rfl ?_
  refine Go.bipush 34 rfl (8 : Int32) d5_32 rfl ?_
  refine Go.iushr 35 rfl d5_34 ?_
  refine Go.i2b 36 rfl d5_35 ?_
  refine Go.stB 37 rfl d5_36 A10 (pn + 2) hp2 (by rw [e11]; omega) hgt fun h13 K14 A15 => ?_
  have A16 : Ary Z h13 t .byte (((vs.set pn (.int (nar .byte ((XT.ushr y (24 : Int32)).toInt8.toInt32)))).set (pn + 1) (.int (nar .byte ((XT.ushr y (16 : Int32)).toInt8.toInt32)))).set (pn + 2) (.int (nar .byte ((XT.ushr y (8 : Int32)).toInt8.toInt32)))) := A15
  have e17 : (((vs.set pn (.int (nar .byte ((XT.ushr y (24 : Int32)).toInt8.toInt32)))).set (pn + 1) (.int (nar .byte ((XT.ushr y (16 : Int32)).toInt8.toInt32)))).set (pn + 2) (.int (nar .byte ((XT.ushr y (8 : Int32)).toInt8.toInt32)))).length = 65536 := by rw [List.length_set]; exact e11
  refine Go.aloadN 38 rfl d5_37 rfl rfl ?_
  have F18 : Fld Z h13 a "locuscope/io/Bytes" "bytes" "[B" (.ref t) := (F12.keep K14 (ninS hne nin0))
  refine Go.getF 41 rfl (v := .ref t) 12 d5_38 rfl F18 ?_
  refine Go.iloadN 42 rfl d5_41 rfl ?_
  refine Go.iconst 43 rfl (3 : Int32) d5_42 rfl ?_
  refine Go.iadd 44 rfl d5_43 ?_
  refine Go.iloadN 45 rfl d5_44 rfl ?_
  refine Go.i2b 46 rfl d5_45 ?_
  refine Go.stB 47 rfl d5_46 A16 (pn + 3) hp3 (by rw [e17]; omega) hgt fun h19 K20 A21 => ?_
  have A22 : Ary Z h19 t .byte ((((vs.set pn (.int (nar .byte ((XT.ushr y (24 : Int32)).toInt8.toInt32)))).set (pn + 1) (.int (nar .byte ((XT.ushr y (16 : Int32)).toInt8.toInt32)))).set (pn + 2) (.int (nar .byte ((XT.ushr y (8 : Int32)).toInt8.toInt32)))).set (pn + 3) (.int (nar .byte y.toInt8.toInt32))) := A21
  have e23 : ((((vs.set pn (.int (nar .byte ((XT.ushr y (24 : Int32)).toInt8.toInt32)))).set (pn + 1) (.int (nar .byte ((XT.ushr y (16 : Int32)).toInt8.toInt32)))).set (pn + 2) (.int (nar .byte ((XT.ushr y (8 : Int32)).toInt8.toInt32)))).set (pn + 3) (.int (nar .byte y.toInt8.toInt32))).length = 65536 := by rw [List.length_set]; exact e17
  exact Go.retV d5_47 rfl (by decide) (by decide) ⟨rfl, (((((Keep.refl h0 [t]).trans K2 (by simp)).trans K8 (by simp)).trans K14 (by simp)).trans K20 (by simp)), A22⟩
theorem d6_0 : decode prog_23_method_2_code 0 = .ok (.aload_n 0, 1) := by decide +kernel
theorem d6_1 : decode prog_23_method_2_code 1 = .ok (.getfield 14, 3) := by decide +kernel
theorem d6_4 : decode prog_23_method_2_code 4 = .ok (.ireturn, 1) := by decide +kernel
theorem pd6 : parseMethodDescriptor "()I" = some ⟨[], some .int⟩ := by decide +kernel
theorem pn6 : plainName "locuscope/io/Bytes" = true := by first | (simp [plainName, overriddenIn]; done) | decide +kernel
abbrev B6 : Bd := ((⟨"locuscope/io/Bytes", "size", "()I"⟩ : MethodName), prog_23_method_2_code, 1, (some .int), ({ frames := 0, cells := 0, slots := 0, locals := 0 } : Room), tables_1)
theorem ef6 (m : MethodId) (a : Addr) : entryFrame m (List.toArray [.ref a]) 1 = mkF m 0 #[.val (.ref a)] [] := by first | (simp [entryFrame, mkF, argsToLocals, Value.category]; done) | rfl
def Q6 (z : Int32) (h0 : Heap) (v : Option Value) (h : Heap) : Prop := v = some (.int z) ∧ h0 = h
set_option maxRecDepth 65536 in
set_option maxHeartbeats 40000000 in
theorem c6 (Z : State) (hw : Wd Z tables_1) (h0 : Heap) (a : Addr) (z : Int32) (hFs : Fld Z h0 a "locuscope/io/Bytes" "size" "I" (.int z)) : Con Z B6 (List.toArray [.ref a]) h0 (Q6 z h0) := by
  refine Con.mk hw pn6 (fun m => ef6 m a) (Go.old fun hle' => ?_)
  have hle := hle'.1
  refine Go.aloadN 1 rfl d6_0 rfl rfl ?_
  refine Go.getF 4 rfl (v := .int z) 24 d6_1 rfl hFs ?_
  exact Go.retI d6_4 rfl (by decide) (by decide) ⟨rfl, rfl⟩
theorem d7_0 : decode prog_23_method_3_code 0 = .ok (.aload_n 0, 1) := by decide +kernel
theorem d7_1 : decode prog_23_method_3_code 1 = .ok (.getfield 8, 3) := by decide +kernel
theorem d7_4 : decode prog_23_method_3_code 4 = .ok (.areturn, 1) := by decide +kernel
theorem pd7 : parseMethodDescriptor "()[B" = some ⟨[], some (.array .byte)⟩ := by decide +kernel
theorem pn7 : plainName "locuscope/io/Bytes" = true := by first | (simp [plainName, overriddenIn]; done) | decide +kernel
abbrev B7 : Bd := ((⟨"locuscope/io/Bytes", "array", "()[B"⟩ : MethodName), prog_23_method_3_code, 1, (some (.array .byte)), ({ frames := 0, cells := 0, slots := 0, locals := 0 } : Room), tables_1)
theorem ef7 (m : MethodId) (a : Addr) : entryFrame m (List.toArray [.ref a]) 1 = mkF m 0 #[.val (.ref a)] [] := by first | (simp [entryFrame, mkF, argsToLocals, Value.category]; done) | rfl
def Q7 (t : Addr) (h0 : Heap) (v : Option Value) (h : Heap) : Prop := v = some (.ref t) ∧ h0 = h
set_option maxRecDepth 65536 in
set_option maxHeartbeats 40000000 in
theorem c7 (Z : State) (hw : Wd Z tables_1) (h0 : Heap) (a : Addr) (t : Addr) (hFb : Fld Z h0 a "locuscope/io/Bytes" "bytes" "[B" (.ref t)) : Con Z B7 (List.toArray [.ref a]) h0 (Q7 t h0) := by
  refine Con.mk hw pn7 (fun m => ef7 m a) (Go.old fun hle' => ?_)
  have hle := hle'.1
  refine Go.aloadN 1 rfl d7_0 rfl rfl ?_
  refine Go.getF 4 rfl (v := .ref t) 12 d7_1 rfl hFb ?_
  exact Go.retA d7_4 rfl rfl rfl (by decide) (by decide) ⟨rfl, rfl⟩
theorem d8_0 : decode method_3_code 0 = .ok (.iload_n 1, 1) := by decide +kernel
theorem d8_1 : decode method_3_code 1 = .ok (.iload_n 2, 1) := by decide +kernel
theorem d8_2 : decode method_3_code 2 = .ok (.if_icmp .lt 26, 3) := by decide +kernel
theorem d8_5 : decode method_3_code 5 = .ok (.iload_n 1, 1) := by decide +kernel
theorem d8_6 : decode method_3_code 6 = .ok (.iload_n 2, 1) := by decide +kernel
theorem d8_7 : decode method_3_code 7 = .ok (.iconst 3, 1) := by decide +kernel
theorem d8_8 : decode method_3_code 8 = .ok (.iadd, 1) := by decide +kernel
theorem d8_9 : decode method_3_code 9 = .ok (.if_icmp .gt 19, 3) := by decide +kernel
theorem d8_12 : decode method_3_code 12 = .ok (.iload_n 3, 1) := by decide +kernel
theorem d8_13 : decode method_3_code 13 = .ok (.bipush 24, 2) := by decide +kernel
theorem d8_15 : decode method_3_code 15 = .ok (.bipush 8, 2) := by decide +kernel
theorem d8_17 : decode method_3_code 17 = .ok (.iload_n 1, 1) := by decide +kernel
theorem d8_18 : decode method_3_code 18 = .ok (.iload_n 2, 1) := by decide +kernel
theorem d8_19 : decode method_3_code 19 = .ok (.isub, 1) := by decide +kernel
theorem d8_20 : decode method_3_code 20 = .ok (.imul, 1) := by decide +kernel
theorem d8_21 : decode method_3_code 21 = .ok (.isub, 1) := by decide +kernel
theorem d8_22 : decode method_3_code 22 = .ok (.ishr, 1) := by decide +kernel
theorem d8_23 : decode method_3_code 23 = .ok (.istore 6, 2) := by decide +kernel
theorem d8_25 : decode method_3_code 25 = .ok (.goto 37, 3) := by decide +kernel
theorem d8_28 : decode method_3_code 28 = .ok (.iload_n 1, 1) := by decide +kernel
theorem d8_29 : decode method_3_code 29 = .ok (.iconst 4, 1) := by decide +kernel
theorem d8_30 : decode method_3_code 30 = .ok (.if_icmp .ge 18, 3) := by decide +kernel
theorem d8_33 : decode method_3_code 33 = .ok (.iload 4, 2) := by decide +kernel
theorem d8_35 : decode method_3_code 35 = .ok (.bipush 24, 2) := by decide +kernel
theorem d8_37 : decode method_3_code 37 = .ok (.bipush 8, 2) := by decide +kernel
theorem d8_39 : decode method_3_code 39 = .ok (.iload_n 1, 1) := by decide +kernel
theorem d8_40 : decode method_3_code 40 = .ok (.imul, 1) := by decide +kernel
theorem d8_41 : decode method_3_code 41 = .ok (.isub, 1) := by decide +kernel
theorem d8_42 : decode method_3_code 42 = .ok (.ishr, 1) := by decide +kernel
theorem d8_43 : decode method_3_code 43 = .ok (.istore 6, 2) := by decide +kernel
theorem d8_45 : decode method_3_code 45 = .ok (.goto 17, 3) := by decide +kernel
theorem d8_48 : decode method_3_code 48 = .ok (.iload 5, 2) := by decide +kernel
theorem d8_50 : decode method_3_code 50 = .ok (.bipush 24, 2) := by decide +kernel
theorem d8_52 : decode method_3_code 52 = .ok (.bipush 8, 2) := by decide +kernel
theorem d8_54 : decode method_3_code 54 = .ok (.iload_n 1, 1) := by decide +kernel
theorem d8_55 : decode method_3_code 55 = .ok (.iconst 4, 1) := by decide +kernel
theorem d8_56 : decode method_3_code 56 = .ok (.isub, 1) := by decide +kernel
theorem d8_57 : decode method_3_code 57 = .ok (.imul, 1) := by decide +kernel
theorem d8_58 : decode method_3_code 58 = .ok (.isub, 1) := by decide +kernel
theorem d8_59 : decode method_3_code 59 = .ok (.ishr, 1) := by decide +kernel
theorem d8_60 : decode method_3_code 60 = .ok (.istore 6, 2) := by decide +kernel
theorem d8_62 : decode method_3_code 62 = .ok (.aload_n 0, 1) := by decide +kernel
theorem d8_63 : decode method_3_code 63 = .ok (.iload_n 1, 1) := by decide +kernel
theorem d8_64 : decode method_3_code 64 = .ok (.baload, 1) := by decide +kernel
theorem d8_65 : decode method_3_code 65 = .ok (.iload 6, 2) := by decide +kernel
theorem d8_67 : decode method_3_code 67 = .ok (.i2b, 1) := by decide +kernel
theorem d8_68 : decode method_3_code 68 = .ok (.if_icmp .ne 7, 3) := by decide +kernel
theorem d8_71 : decode method_3_code 71 = .ok (.iconst 1, 1) := by decide +kernel
theorem d8_72 : decode method_3_code 72 = .ok (.goto 4, 3) := by decide +kernel
theorem d8_75 : decode method_3_code 75 = .ok (.iconst 0, 1) := by decide +kernel
theorem d8_76 : decode method_3_code 76 = .ok (.ireturn, 1) := by decide +kernel
theorem pd8 : parseMethodDescriptor "([BIIIII)Z" = some ⟨[(.array .byte), .int, .int, .int, .int, .int], some .boolean⟩ := by decide +kernel
theorem pn8 : plainName "locuscope/io/BytesPutIntPinLaw" = true := by first | (simp [plainName, overriddenIn]; done) | decide +kernel
abbrev B8 : Bd := ((⟨"locuscope/io/BytesPutIntPinLaw", "same", "([BIIIII)Z"⟩ : MethodName), method_3_code, 7, (some .boolean), ({ frames := 0, cells := 0, slots := 0, locals := 0 } : Room), tables_1)
theorem ef8 (m : MethodId) (t : Addr) (i : Int32) (p : Int32) (v' : Int32) (a : Int32) (b : Int32) : entryFrame m (List.toArray [.ref t, .int i, .int p, .int v', .int a, .int b]) 7 = mkF m 0 #[.val (.ref t), .val (.int i), .val (.int p), .val (.int v'), .val (.int a), .val (.int b), .unset] [] := by first | (simp [entryFrame, mkF, argsToLocals, Value.category]; done) | rfl
def Q8 (i : Int32) (p : Int32) (v' : Int32) (a : Int32) (b : Int32) (y : Int32) (h0 : Heap) (v : Option Value) (h : Heap) : Prop := v = some (.int (if y = (sameE i p v' a b).toInt8.toInt32 then 1 else 0)) ∧ h0 = h
set_option maxRecDepth 65536 in
set_option maxHeartbeats 40000000 in
theorem c8 (Z : State) (hw : Wd Z tables_1) (h0 : Heap) (t : Addr) (i : Int32) (p : Int32) (v' : Int32) (a : Int32) (b : Int32) (y : Int32) (vs : List Value) (hA : Ary Z h0 t .byte vs) (inn : Nat) (hi : i.toInt = inn) (hy : vs[inn]? = some (.int y)) : Con Z B8 (List.toArray [.ref t, .int i, .int p, .int v', .int a, .int b]) h0 (Q8 i p v' a b y h0) := by
  refine Con.mk hw pn8 (fun m => ef8 m t i p v' a b) (Go.old fun hle' => ?_)
  have hle := hle'.1
  refine Go.iloadN 1 rfl d8_0 rfl ?_
  refine Go.iloadN 2 rfl d8_1 rfl ?_
  refine cut (∀ e : Int32, sameE i p v' a b = e → Go (Q8 i p v' a b y h0) Z B8 0 0 h0 62 #[.val (.ref t), .val (.int i), .val (.int p), .val (.int v'), .val (.int a), .val (.int b), .val (.int e)] []) (fun J => ?_) (fun e he => ?_)
  · refine Go.icmp_lt 28 5 d8_2 (by decide) rfl rfl (fun (b1 : i < p) => ?_) (fun (b1 : ¬ i < p) => ?_)
    · refine Go.iloadN 29 rfl d8_28 rfl ?_
      refine Go.iconst 30 rfl (4 : Int32) d8_29 rfl ?_
      refine Go.icmp_ge 48 33 d8_30 (by decide) rfl rfl (fun (b2 : ¬ i < (4 : Int32)) => ?_) (fun (b2 : i < (4 : Int32)) => ?_)
      · refine Go.iload 50 rfl d8_48 rfl ?_
        refine Go.bipush 52 rfl (24 : Int32) d8_50 rfl ?_
        refine Go.bipush 54 rfl (8 : Int32) d8_52 rfl ?_
        refine Go.iloadN 55 rfl d8_54 rfl ?_
        refine Go.iconst 56 rfl (4 : Int32) d8_55 rfl ?_
        refine Go.isub 57 rfl d8_56 ?_
        refine Go.imul 58 rfl d8_57 ?_
        refine Go.isub 59 rfl d8_58 ?_
        refine Go.ishr 60 rfl d8_59 ?_
        refine Go.nameI fun v3 hv3 => ?_
        refine Go.istore 62 rfl d8_60 (Ls' := #[.val (.ref t), .val (.int i), .val (.int p), .val (.int v'), .val (.int a), .val (.int b), .val (.int v3)]) rfl ?_
        exact J _ (by rw [← hv3]; simp [sameE, b1, b2])
      · refine Go.iload 35 rfl d8_33 rfl ?_
        refine Go.bipush 37 rfl (24 : Int32) d8_35 rfl ?_
        refine Go.bipush 39 rfl (8 : Int32) d8_37 rfl ?_
        refine Go.iloadN 40 rfl d8_39 rfl ?_
        refine Go.imul 41 rfl d8_40 ?_
        refine Go.isub 42 rfl d8_41 ?_
        refine Go.ishr 43 rfl d8_42 ?_
        refine Go.nameI fun v4 hv4 => ?_
        refine Go.istore 45 rfl d8_43 (Ls' := #[.val (.ref t), .val (.int i), .val (.int p), .val (.int v'), .val (.int a), .val (.int b), .val (.int v4)]) rfl ?_
        refine Go.goto 62 d8_45 (by decide) (by decide) ?_
        exact J _ (by rw [← hv4]; simp [sameE, b1, b2])
    · refine Go.iloadN 6 rfl d8_5 rfl ?_
      refine Go.iloadN 7 rfl d8_6 rfl ?_
      refine Go.iconst 8 rfl (3 : Int32) d8_7 rfl ?_
      refine Go.iadd 9 rfl d8_8 ?_
      refine Go.icmp_gt 28 12 d8_9 (by decide) rfl rfl (fun (b5 : (p + (3 : Int32)) < i) => ?_) (fun (b5 : ¬ (p + (3 : Int32)) < i) => ?_)
      · refine Go.iloadN 29 rfl d8_28 rfl ?_
        refine Go.iconst 30 rfl (4 : Int32) d8_29 rfl ?_
        refine Go.icmp_ge 48 33 d8_30 (by decide) rfl rfl (fun (b6 : ¬ i < (4 : Int32)) => ?_) (fun (b6 : i < (4 : Int32)) => ?_)
        · refine Go.iload 50 rfl d8_48 rfl ?_
          refine Go.bipush 52 rfl (24 : Int32) d8_50 rfl ?_
          refine Go.bipush 54 rfl (8 : Int32) d8_52 rfl ?_
          refine Go.iloadN 55 rfl d8_54 rfl ?_
          refine Go.iconst 56 rfl (4 : Int32) d8_55 rfl ?_
          refine Go.isub 57 rfl d8_56 ?_
          refine Go.imul 58 rfl d8_57 ?_
          refine Go.isub 59 rfl d8_58 ?_
          refine Go.ishr 60 rfl d8_59 ?_
          refine Go.nameI fun v7 hv7 => ?_
          refine Go.istore 62 rfl d8_60 (Ls' := #[.val (.ref t), .val (.int i), .val (.int p), .val (.int v'), .val (.int a), .val (.int b), .val (.int v7)]) rfl ?_
          exact J _ (by rw [← hv7]; simp [sameE, b1, b5, b6])
        · refine Go.iload 35 rfl d8_33 rfl ?_
          refine Go.bipush 37 rfl (24 : Int32) d8_35 rfl ?_
          refine Go.bipush 39 rfl (8 : Int32) d8_37 rfl ?_
          refine Go.iloadN 40 rfl d8_39 rfl ?_
          refine Go.imul 41 rfl d8_40 ?_
          refine Go.isub 42 rfl d8_41 ?_
          refine Go.ishr 43 rfl d8_42 ?_
          refine Go.nameI fun v8 hv8 => ?_
          refine Go.istore 45 rfl d8_43 (Ls' := #[.val (.ref t), .val (.int i), .val (.int p), .val (.int v'), .val (.int a), .val (.int b), .val (.int v8)]) rfl ?_
          refine Go.goto 62 d8_45 (by decide) (by decide) ?_
          exact J _ (by rw [← hv8]; simp [sameE, b1, b5, b6])
      · refine Go.iloadN 13 rfl d8_12 rfl ?_
        refine Go.bipush 15 rfl (24 : Int32) d8_13 rfl ?_
        refine Go.bipush 17 rfl (8 : Int32) d8_15 rfl ?_
        refine Go.iloadN 18 rfl d8_17 rfl ?_
        refine Go.iloadN 19 rfl d8_18 rfl ?_
        refine Go.isub 20 rfl d8_19 ?_
        refine Go.imul 21 rfl d8_20 ?_
        refine Go.isub 22 rfl d8_21 ?_
        refine Go.ishr 23 rfl d8_22 ?_
        refine Go.nameI fun v9 hv9 => ?_
        refine Go.istore 25 rfl d8_23 (Ls' := #[.val (.ref t), .val (.int i), .val (.int p), .val (.int v'), .val (.int a), .val (.int b), .val (.int v9)]) rfl ?_
        refine Go.goto 62 d8_25 (by decide) (by decide) ?_
        exact J _ (by rw [← hv9]; simp [sameE, b1, b5])
  · refine Go.aloadN 63 rfl d8_62 rfl rfl ?_
    refine Go.iloadN 64 rfl d8_63 rfl ?_
    refine Go.baload 65 rfl y d8_64 hA inn hi hy ?_
    refine Go.iload 67 rfl d8_65 rfl ?_
    refine Go.i2b 68 rfl d8_67 ?_
    refine Go.icmp_ne 75 71 d8_68 (by decide) rfl rfl (fun (b10 : ¬ y = e.toInt8.toInt32) => ?_) (fun (b10 : y = e.toInt8.toInt32) => ?_)
    · refine Go.iconst 76 rfl (0 : Int32) d8_75 rfl ?_
      exact Go.retN (t := .boolean) (z' := (0 : Int32)) d8_76 rfl (by decide) rfl (by decide) (by decide) ⟨by rw [he, if_neg b10], rfl⟩
    · refine Go.iconst 72 rfl (1 : Int32) d8_71 rfl ?_
      refine Go.goto 76 d8_72 (by decide) (by decide) ?_
      exact Go.retN (t := .boolean) (z' := (1 : Int32)) d8_76 rfl (by decide) rfl (by decide) (by decide) ⟨by rw [he, if_pos b10], rfl⟩
theorem pn0 : plainName "locuscope/io/BytesPutIntPinLaw" = true := by first | (simp [plainName, overriddenIn]; done) | decide +kernel
abbrev B0 : Bd := (x, code, maxLocals, ret, room_1, tables_1)
theorem ef0 (m : MethodId) (at' : Int32) (va : Int32) (pa : Int32) (pb : Int32) : entryFrame m (List.toArray [.int at', .int va, .int pa, .int pb]) maxLocals = mkF m 0 #[.val (.int at'), .val (.int va), .val (.int pa), .val (.int pb), .unset, .unset, .unset, .unset] [] := by first | (simp [entryFrame, mkF, argsToLocals, Value.category, maxLocals]; done) | rfl
def Q0  (v : Option Value) (h : Heap) : Prop := v = some (.int 1)
set_option maxRecDepth 65536 in
set_option maxHeartbeats 40000000 in
theorem c0 (Z : State) (hw : Wd Z tables_1) (h0 : Heap) (at' : Int32) (va : Int32) (pa : Int32) (pb : Int32)   : Con Z B0 (List.toArray [.int at', .int va, .int pa, .int pb]) h0 (Q0 ) := by
  refine Con.mk hw pn0 (fun m => ef0 m at' va pa pb) (Go.old fun hle' => ?_)
  have hle := hle'.1
  refine Go.iloadN 1 rfl at_0 rfl ?_
  refine Go.ldcI 3 rfl (v := (2147483647 : Int32)) 0 at_1 rfl ?_
  refine Go.iand 4 rfl at_3 ?_
  refine Go.iconst 5 rfl (5 : Int32) at_4 rfl ?_
  refine Go.irem 6 rfl at_5 (by decide) ?_
  refine Go.nameI fun v1 hv1 => ?_
  refine Go.istore 8 rfl at_6 (Ls' := #[.val (.int at'), .val (.int va), .val (.int pa), .val (.int pb), .val (.int v1), .unset, .unset, .unset]) rfl ?_
  refine Go.newO 11 rfl 1 2 3 at_8 rfl rfl rfl (by decide) (by decide) fun h3 a2 g4 z5 K6 E7 D8 => ?_
  refine Go.dup 12 rfl at_11 rfl ?_
  refine Go.callI 15 rfl (C := B1) a2 [] (rest := [.ref a2]) 4 5 3 6 (c1 Z hw h3 a2 z5 E7 (D8 13 (Or.inl rfl) (ty := (.array .byte)) (by decide) : Fld Z h3 a2 "locuscope/io/Bytes" "bytes" "[B" (.null)) (D8 25 (Or.inl rfl) (ty := .int) (by decide) : Fld Z h3 a2 "locuscope/io/Bytes" "size" "I" (.int (0 : Int32)))) at_12 rfl rfl rfl rfl rfl rfl (by decide) pd1 rfl rfl rfl (W := 1) (Nat.le_of_ble_eq_true rfl) (by decide) (by decide) (by decide) (by decide) fun v9 h10 q11 => ?_
  obtain ⟨rfl, t, r, g12, e13, K14, F15, F16, A17⟩ := q11
  have gt : Z.heap.size ≤ t := by have := ltN E7.lt; have := z5; omega
  have hne : a2 ≠ t := Nat.ne_of_lt (Nat.lt_of_lt_of_le E7.lt g12)
  refine Go.astore 17 rfl at_15 rfl (Ls' := #[.val (.int at'), .val (.int va), .val (.int pa), .val (.int pb), .val (.int v1), .val (.ref a2), .unset, .unset]) rfl ?_
  refine Go.aload 19 rfl at_17 rfl rfl ?_
  refine Go.iloadN 20 rfl at_19 rfl ?_
  have F18 : Exa Z h10 a2 "locuscope/io/Bytes" := (E7.keep K14)
  refine Go.callV 23 rfl (C := B3) a2 [.int pa] (rest := []) 14 15 17 16 3 18 (c3 Z hw h10 a2 pa t (0 : Int32) 0 (.int 0 :: .int 0 :: .int 0 :: .int 0 :: .int 0 :: .int 0 :: .int 0 :: .int 0 :: r) z5 gt hne F18 F15 F16 A17 rfl (by simp [e13]) (by decide)) F18 at_20 rfl rfl rfl rfl rfl rfl (by decide) pd3 rfl rfl rfl (W := 0) (Nat.le_of_ble_eq_true rfl) (by decide) (by decide) (by decide) (by decide) fun v19 h20 q21 => ?_
  obtain ⟨rfl, K22, F23, F24, A25⟩ := q21
  have F26 : Fld Z h20 a2 "locuscope/io/Bytes" "size" "I" (.int (4 : Int32)) := F24
  have A27 : Ary Z h20 t .byte (.int (nar .byte (XT.ushr pa (24 : Int32)).toInt8.toInt32) :: .int (nar .byte (XT.ushr pa (16 : Int32)).toInt8.toInt32) :: .int (nar .byte (XT.ushr pa (8 : Int32)).toInt8.toInt32) :: .int (nar .byte pa.toInt8.toInt32) :: .int 0 :: .int 0 :: .int 0 :: .int 0 :: r) := A25
  refine Go.aload 25 rfl at_23 rfl rfl ?_
  refine Go.iloadN 26 rfl at_25 rfl ?_
  have F28 : Exa Z h20 a2 "locuscope/io/Bytes" := (F18.keep K22)
  refine Go.callV 29 rfl (C := B3) a2 [.int pb] (rest := []) 14 15 17 16 3 18 (c3 Z hw h20 a2 pb t (4 : Int32) 4 (.int (nar .byte (XT.ushr pa (24 : Int32)).toInt8.toInt32) :: .int (nar .byte (XT.ushr pa (16 : Int32)).toInt8.toInt32) :: .int (nar .byte (XT.ushr pa (8 : Int32)).toInt8.toInt32) :: .int (nar .byte pa.toInt8.toInt32) :: .int 0 :: .int 0 :: .int 0 :: .int 0 :: r) z5 gt hne F28 F23 F26 A27 rfl (by simp [e13]) (by decide)) F28 at_26 rfl rfl rfl rfl rfl rfl (by decide) pd3 rfl rfl rfl (W := 0) (Nat.le_of_ble_eq_true rfl) (by decide) (by decide) (by decide) (by decide) fun v29 h30 q31 => ?_
  obtain ⟨rfl, K32, F33, F34, A35⟩ := q31
  have F36 : Fld Z h30 a2 "locuscope/io/Bytes" "size" "I" (.int (8 : Int32)) := F34
  have A37 : Ary Z h30 t .byte (.int (nar .byte (XT.ushr pa (24 : Int32)).toInt8.toInt32) :: .int (nar .byte (XT.ushr pa (16 : Int32)).toInt8.toInt32) :: .int (nar .byte (XT.ushr pa (8 : Int32)).toInt8.toInt32) :: .int (nar .byte pa.toInt8.toInt32) :: .int (nar .byte (XT.ushr pb (24 : Int32)).toInt8.toInt32) :: .int (nar .byte (XT.ushr pb (16 : Int32)).toInt8.toInt32) :: .int (nar .byte (XT.ushr pb (8 : Int32)).toInt8.toInt32) :: .int (nar .byte pb.toInt8.toInt32) :: r) := A35
  have F38 : Exa Z h30 a2 "locuscope/io/Bytes" := (F28.keep K32)
  rcases own_p hv1 with rfl | rfl | rfl | rfl | rfl
  · refine Go.aload 31 rfl at_29 rfl rfl ?_
    refine Go.iload 33 rfl at_31 rfl ?_
    refine Go.iloadN 34 rfl at_33 rfl ?_
    refine Go.callV 37 rfl (C := B5) a2 [.int (0 : Int32), .int va] (rest := []) 26 27 29 28 3 30 (c5 Z hw h30 a2 (0 : Int32) va t 0 (.int (nar .byte (XT.ushr pa (24 : Int32)).toInt8.toInt32) :: .int (nar .byte (XT.ushr pa (16 : Int32)).toInt8.toInt32) :: .int (nar .byte (XT.ushr pa (8 : Int32)).toInt8.toInt32) :: .int (nar .byte pa.toInt8.toInt32) :: .int (nar .byte (XT.ushr pb (24 : Int32)).toInt8.toInt32) :: .int (nar .byte (XT.ushr pb (16 : Int32)).toInt8.toInt32) :: .int (nar .byte (XT.ushr pb (8 : Int32)).toInt8.toInt32) :: .int (nar .byte pb.toInt8.toInt32) :: r) gt hne F33 A37 (by simp [e13]) (by decide) rfl rfl rfl rfl) F38 at_34 rfl rfl rfl rfl rfl rfl (by decide) pd5 rfl rfl rfl (W := 0) (Nat.le_of_ble_eq_true rfl) (by decide) (by decide) (by decide) (by decide) fun v39 h40 q41 => ?_
    obtain ⟨rfl, K42, A43⟩ := q41
    have A44 : Ary Z h40 t .byte (.int (nar .byte (XT.ushr va (24 : Int32)).toInt8.toInt32) :: .int (nar .byte (XT.ushr va (16 : Int32)).toInt8.toInt32) :: .int (nar .byte (XT.ushr va (8 : Int32)).toInt8.toInt32) :: .int (nar .byte va.toInt8.toInt32) :: .int (nar .byte (XT.ushr pb (24 : Int32)).toInt8.toInt32) :: .int (nar .byte (XT.ushr pb (16 : Int32)).toInt8.toInt32) :: .int (nar .byte (XT.ushr pb (8 : Int32)).toInt8.toInt32) :: .int (nar .byte pb.toInt8.toInt32) :: r) := A43
    refine Go.aload 39 rfl at_37 rfl rfl ?_
    have F45 : Fld Z h40 a2 "locuscope/io/Bytes" "size" "I" (.int (8 : Int32)) := (F36.keep K42 (ninS hne nin0))
    have F49 : Exa Z h40 a2 "locuscope/io/Bytes" := (F38.keep K42)
    refine Go.callV 42 rfl (C := B6) a2 [] (rest := []) 31 32 34 33 3 35 (c6 Z hw h40 a2 (8 : Int32) F45) F49 at_39 rfl rfl rfl rfl rfl rfl (by decide) pd6 rfl rfl rfl (W := 0) (Nat.le_of_ble_eq_true rfl) (by decide) (by decide) (by decide) (by decide) fun v46 h47 q48 => ?_
    obtain ⟨rfl, rfl⟩ := q48
    refine Go.bipush 44 rfl (8 : Int32) at_42 rfl ?_
    refine Go.icmp_eq 49 47 at_44 (by decide) rfl rfl (fun (b50 : (8 : Int32) = (8 : Int32)) => ?_) (fun (b50 : ¬ (8 : Int32) = (8 : Int32)) => ?_)
    · refine Go.aload 51 rfl at_49 rfl rfl ?_
      have F51 : Fld Z h40 a2 "locuscope/io/Bytes" "bytes" "[B" (.ref t) := (F33.keep K42 (ninS hne nin0))
      refine Go.callV 54 rfl (C := B7) a2 [] (rest := []) 36 37 39 38 3 40 (c7 Z hw h40 a2 t F51) F49 at_51 rfl rfl rfl rfl rfl rfl (by decide) pd7 rfl rfl rfl (W := 0) (Nat.le_of_ble_eq_true rfl) (by decide) (by decide) (by decide) (by decide) fun v52 h53 q54 => ?_
      obtain ⟨rfl, rfl⟩ := q54
      refine Go.astore 56 rfl at_54 rfl (Ls' := #[.val (.int at'), .val (.int va), .val (.int pa), .val (.int pb), .val (.int (0 : Int32)), .val (.ref a2), .val (.ref t), .unset]) rfl ?_
      refine Go.aload 58 rfl at_56 rfl rfl ?_
      refine Go.alen 59 rfl (65536 : Int32) at_58 A44 (by simp [e13]) ?_
      refine Go.bipush 61 rfl (8 : Int32) at_59 rfl ?_
      refine Go.icmp_ge 66 64 at_61 (by decide) rfl rfl (fun (b55 : ¬ (65536 : Int32) < (8 : Int32)) => ?_) (fun (b55 : (65536 : Int32) < (8 : Int32)) => ?_)
      · refine Go.aload 68 rfl at_66 rfl rfl ?_
        refine Go.iload 70 rfl at_68 rfl ?_
        refine Go.baload 71 rfl (nar .byte (XT.ushr va (24 : Int32)).toInt8.toInt32) at_70 A44 0 rfl rfl ?_
        refine Go.sipush 74 rfl (255 : Int32) at_71 rfl ?_
        refine Go.iand 75 rfl at_74 ?_
        refine Go.bipush 77 rfl (24 : Int32) at_75 rfl ?_
        refine Go.ishl 78 rfl at_77 ?_
        refine Go.aload 80 rfl at_78 rfl rfl ?_
        refine Go.iload 82 rfl at_80 rfl ?_
        refine Go.iconst 83 rfl (1 : Int32) at_82 rfl ?_
        refine Go.iadd 84 rfl at_83 ?_
        refine Go.baload 85 rfl (nar .byte (XT.ushr va (16 : Int32)).toInt8.toInt32) at_84 A44 1 rfl rfl ?_
        refine Go.sipush 88 rfl (255 : Int32) at_85 rfl ?_
        refine Go.iand 89 rfl at_88 ?_
        refine Go.bipush 91 rfl (16 : Int32) at_89 rfl ?_
        refine Go.ishl 92 rfl at_91 ?_
        refine Go.ior 93 rfl at_92 ?_
        refine Go.aload 95 rfl at_93 rfl rfl ?_
        refine Go.iload 97 rfl at_95 rfl ?_
        refine Go.iconst 98 rfl (2 : Int32) at_97 rfl ?_
        refine Go.iadd 99 rfl at_98 ?_
        refine Go.baload 100 rfl (nar .byte (XT.ushr va (8 : Int32)).toInt8.toInt32) at_99 A44 2 rfl rfl ?_
        refine Go.sipush 103 rfl (255 : Int32) at_100 rfl ?_
        refine Go.iand 104 rfl at_103 ?_
        refine Go.bipush 106 rfl (8 : Int32) at_104 rfl ?_
        refine Go.ishl 107 rfl at_106 ?_
        refine Go.ior 108 rfl at_107 ?_
        refine Go.aload 110 rfl at_108 rfl rfl ?_
        refine Go.iload 112 rfl at_110 rfl ?_
        refine Go.iconst 113 rfl (3 : Int32) at_112 rfl ?_
        refine Go.iadd 114 rfl at_113 ?_
        refine Go.baload 115 rfl (nar .byte va.toInt8.toInt32) at_114 A44 3 rfl rfl ?_
        refine Go.sipush 118 rfl (255 : Int32) at_115 rfl ?_
        refine Go.iand 119 rfl at_118 ?_
        refine Go.ior 120 rfl at_119 ?_
        refine Go.nameI fun v56 hv56 => ?_
        refine Go.istore 122 rfl at_120 (Ls' := #[.val (.int at'), .val (.int va), .val (.int pa), .val (.int pb), .val (.int (0 : Int32)), .val (.ref a2), .val (.ref t), .val (.int v56)]) rfl ?_
        refine Go.iload 124 rfl at_122 rfl ?_
        refine Go.iloadN 125 rfl at_124 rfl ?_
        refine Go.icmp_eq 130 128 at_125 (by decide) rfl rfl (fun (b57 : v56 = va) => ?_) (fun (b57 : ¬ v56 = va) => ?_)
        · refine Go.aload 132 rfl at_130 rfl rfl ?_
          refine Go.iconst 133 rfl (0 : Int32) at_132 rfl ?_
          refine Go.iload 135 rfl at_133 rfl ?_
          refine Go.iloadN 136 rfl at_135 rfl ?_
          refine Go.iloadN 137 rfl at_136 rfl ?_
          refine Go.iloadN 138 rfl at_137 rfl ?_
          refine Go.callS 141 rfl (C := B8) [.ref t, .int (0 : Int32), .int (0 : Int32), .int va, .int pa, .int pb] (rest := []) 41 42 43 44 (c8 Z hw h40 t (0 : Int32) (0 : Int32) va pa pb (nar .byte (XT.ushr va (24 : Int32)).toInt8.toInt32) (.int (nar .byte (XT.ushr va (24 : Int32)).toInt8.toInt32) :: .int (nar .byte (XT.ushr va (16 : Int32)).toInt8.toInt32) :: .int (nar .byte (XT.ushr va (8 : Int32)).toInt8.toInt32) :: .int (nar .byte va.toInt8.toInt32) :: .int (nar .byte (XT.ushr pb (24 : Int32)).toInt8.toInt32) :: .int (nar .byte (XT.ushr pb (16 : Int32)).toInt8.toInt32) :: .int (nar .byte (XT.ushr pb (8 : Int32)).toInt8.toInt32) :: .int (nar .byte pb.toInt8.toInt32) :: r) A44 0 rfl rfl) at_138 rfl rfl rfl rfl (by decide) pd8 rfl rfl rfl (W := 0) (Nat.le_of_ble_eq_true rfl) (by decide) (by decide) (by decide) (by decide) fun v58 h59 q60 => ?_
          obtain ⟨rfl, rfl⟩ := q60
          refine Go.eqI (w := 1) (if_pos (own_s24 _)) ?_
          refine Go.if_eq 248 144 at_141 (by decide) rfl rfl (fun (b61 : (1 : Int32) = 0) => ?_) (fun (b61 : ¬ (1 : Int32) = 0) => ?_)
          · exact absurd b61 (by decide)
          · refine Go.aload 146 rfl at_144 rfl rfl ?_
            refine Go.iconst 147 rfl (1 : Int32) at_146 rfl ?_
            refine Go.iload 149 rfl at_147 rfl ?_
            refine Go.iloadN 150 rfl at_149 rfl ?_
            refine Go.iloadN 151 rfl at_150 rfl ?_
            refine Go.iloadN 152 rfl at_151 rfl ?_
            refine Go.callS 155 rfl (C := B8) [.ref t, .int (1 : Int32), .int (0 : Int32), .int va, .int pa, .int pb] (rest := []) 41 42 43 44 (c8 Z hw h40 t (1 : Int32) (0 : Int32) va pa pb (nar .byte (XT.ushr va (16 : Int32)).toInt8.toInt32) (.int (nar .byte (XT.ushr va (24 : Int32)).toInt8.toInt32) :: .int (nar .byte (XT.ushr va (16 : Int32)).toInt8.toInt32) :: .int (nar .byte (XT.ushr va (8 : Int32)).toInt8.toInt32) :: .int (nar .byte va.toInt8.toInt32) :: .int (nar .byte (XT.ushr pb (24 : Int32)).toInt8.toInt32) :: .int (nar .byte (XT.ushr pb (16 : Int32)).toInt8.toInt32) :: .int (nar .byte (XT.ushr pb (8 : Int32)).toInt8.toInt32) :: .int (nar .byte pb.toInt8.toInt32) :: r) A44 1 rfl rfl) at_152 rfl rfl rfl rfl (by decide) pd8 rfl rfl rfl (W := 0) (Nat.le_of_ble_eq_true rfl) (by decide) (by decide) (by decide) (by decide) fun v62 h63 q64 => ?_
            obtain ⟨rfl, rfl⟩ := q64
            refine Go.eqI (w := 1) (if_pos (own_s16 _)) ?_
            refine Go.if_eq 248 158 at_155 (by decide) rfl rfl (fun (b65 : (1 : Int32) = 0) => ?_) (fun (b65 : ¬ (1 : Int32) = 0) => ?_)
            · exact absurd b65 (by decide)
            · refine Go.aload 160 rfl at_158 rfl rfl ?_
              refine Go.iconst 161 rfl (2 : Int32) at_160 rfl ?_
              refine Go.iload 163 rfl at_161 rfl ?_
              refine Go.iloadN 164 rfl at_163 rfl ?_
              refine Go.iloadN 165 rfl at_164 rfl ?_
              refine Go.iloadN 166 rfl at_165 rfl ?_
              refine Go.callS 169 rfl (C := B8) [.ref t, .int (2 : Int32), .int (0 : Int32), .int va, .int pa, .int pb] (rest := []) 41 42 43 44 (c8 Z hw h40 t (2 : Int32) (0 : Int32) va pa pb (nar .byte (XT.ushr va (8 : Int32)).toInt8.toInt32) (.int (nar .byte (XT.ushr va (24 : Int32)).toInt8.toInt32) :: .int (nar .byte (XT.ushr va (16 : Int32)).toInt8.toInt32) :: .int (nar .byte (XT.ushr va (8 : Int32)).toInt8.toInt32) :: .int (nar .byte va.toInt8.toInt32) :: .int (nar .byte (XT.ushr pb (24 : Int32)).toInt8.toInt32) :: .int (nar .byte (XT.ushr pb (16 : Int32)).toInt8.toInt32) :: .int (nar .byte (XT.ushr pb (8 : Int32)).toInt8.toInt32) :: .int (nar .byte pb.toInt8.toInt32) :: r) A44 2 rfl rfl) at_166 rfl rfl rfl rfl (by decide) pd8 rfl rfl rfl (W := 0) (Nat.le_of_ble_eq_true rfl) (by decide) (by decide) (by decide) (by decide) fun v66 h67 q68 => ?_
              obtain ⟨rfl, rfl⟩ := q68
              refine Go.eqI (w := 1) (if_pos (own_s8 _)) ?_
              refine Go.if_eq 248 172 at_169 (by decide) rfl rfl (fun (b69 : (1 : Int32) = 0) => ?_) (fun (b69 : ¬ (1 : Int32) = 0) => ?_)
              · exact absurd b69 (by decide)
              · refine Go.aload 174 rfl at_172 rfl rfl ?_
                refine Go.iconst 175 rfl (3 : Int32) at_174 rfl ?_
                refine Go.iload 177 rfl at_175 rfl ?_
                refine Go.iloadN 178 rfl at_177 rfl ?_
                refine Go.iloadN 179 rfl at_178 rfl ?_
                refine Go.iloadN 180 rfl at_179 rfl ?_
                refine Go.callS 183 rfl (C := B8) [.ref t, .int (3 : Int32), .int (0 : Int32), .int va, .int pa, .int pb] (rest := []) 41 42 43 44 (c8 Z hw h40 t (3 : Int32) (0 : Int32) va pa pb (nar .byte va.toInt8.toInt32) (.int (nar .byte (XT.ushr va (24 : Int32)).toInt8.toInt32) :: .int (nar .byte (XT.ushr va (16 : Int32)).toInt8.toInt32) :: .int (nar .byte (XT.ushr va (8 : Int32)).toInt8.toInt32) :: .int (nar .byte va.toInt8.toInt32) :: .int (nar .byte (XT.ushr pb (24 : Int32)).toInt8.toInt32) :: .int (nar .byte (XT.ushr pb (16 : Int32)).toInt8.toInt32) :: .int (nar .byte (XT.ushr pb (8 : Int32)).toInt8.toInt32) :: .int (nar .byte pb.toInt8.toInt32) :: r) A44 3 rfl rfl) at_180 rfl rfl rfl rfl (by decide) pd8 rfl rfl rfl (W := 0) (Nat.le_of_ble_eq_true rfl) (by decide) (by decide) (by decide) (by decide) fun v70 h71 q72 => ?_
                obtain ⟨rfl, rfl⟩ := q72
                refine Go.eqI (w := 1) (if_pos (own_s0 _)) ?_
                refine Go.if_eq 248 186 at_183 (by decide) rfl rfl (fun (b73 : (1 : Int32) = 0) => ?_) (fun (b73 : ¬ (1 : Int32) = 0) => ?_)
                · exact absurd b73 (by decide)
                · refine Go.aload 188 rfl at_186 rfl rfl ?_
                  refine Go.iconst 189 rfl (4 : Int32) at_188 rfl ?_
                  refine Go.iload 191 rfl at_189 rfl ?_
                  refine Go.iloadN 192 rfl at_191 rfl ?_
                  refine Go.iloadN 193 rfl at_192 rfl ?_
                  refine Go.iloadN 194 rfl at_193 rfl ?_
                  refine Go.callS 197 rfl (C := B8) [.ref t, .int (4 : Int32), .int (0 : Int32), .int va, .int pa, .int pb] (rest := []) 41 42 43 44 (c8 Z hw h40 t (4 : Int32) (0 : Int32) va pa pb (nar .byte (XT.ushr pb (24 : Int32)).toInt8.toInt32) (.int (nar .byte (XT.ushr va (24 : Int32)).toInt8.toInt32) :: .int (nar .byte (XT.ushr va (16 : Int32)).toInt8.toInt32) :: .int (nar .byte (XT.ushr va (8 : Int32)).toInt8.toInt32) :: .int (nar .byte va.toInt8.toInt32) :: .int (nar .byte (XT.ushr pb (24 : Int32)).toInt8.toInt32) :: .int (nar .byte (XT.ushr pb (16 : Int32)).toInt8.toInt32) :: .int (nar .byte (XT.ushr pb (8 : Int32)).toInt8.toInt32) :: .int (nar .byte pb.toInt8.toInt32) :: r) A44 4 rfl rfl) at_194 rfl rfl rfl rfl (by decide) pd8 rfl rfl rfl (W := 0) (Nat.le_of_ble_eq_true rfl) (by decide) (by decide) (by decide) (by decide) fun v74 h75 q76 => ?_
                  obtain ⟨rfl, rfl⟩ := q76
                  refine Go.eqI (w := 1) (if_pos (own_s24 _)) ?_
                  refine Go.if_eq 248 200 at_197 (by decide) rfl rfl (fun (b77 : (1 : Int32) = 0) => ?_) (fun (b77 : ¬ (1 : Int32) = 0) => ?_)
                  · exact absurd b77 (by decide)
                  · refine Go.aload 202 rfl at_200 rfl rfl ?_
                    refine Go.iconst 203 rfl (5 : Int32) at_202 rfl ?_
                    refine Go.iload 205 rfl at_203 rfl ?_
                    refine Go.iloadN 206 rfl at_205 rfl ?_
                    refine Go.iloadN 207 rfl at_206 rfl ?_
                    refine Go.iloadN 208 rfl at_207 rfl ?_
                    refine Go.callS 211 rfl (C := B8) [.ref t, .int (5 : Int32), .int (0 : Int32), .int va, .int pa, .int pb] (rest := []) 41 42 43 44 (c8 Z hw h40 t (5 : Int32) (0 : Int32) va pa pb (nar .byte (XT.ushr pb (16 : Int32)).toInt8.toInt32) (.int (nar .byte (XT.ushr va (24 : Int32)).toInt8.toInt32) :: .int (nar .byte (XT.ushr va (16 : Int32)).toInt8.toInt32) :: .int (nar .byte (XT.ushr va (8 : Int32)).toInt8.toInt32) :: .int (nar .byte va.toInt8.toInt32) :: .int (nar .byte (XT.ushr pb (24 : Int32)).toInt8.toInt32) :: .int (nar .byte (XT.ushr pb (16 : Int32)).toInt8.toInt32) :: .int (nar .byte (XT.ushr pb (8 : Int32)).toInt8.toInt32) :: .int (nar .byte pb.toInt8.toInt32) :: r) A44 5 rfl rfl) at_208 rfl rfl rfl rfl (by decide) pd8 rfl rfl rfl (W := 0) (Nat.le_of_ble_eq_true rfl) (by decide) (by decide) (by decide) (by decide) fun v78 h79 q80 => ?_
                    obtain ⟨rfl, rfl⟩ := q80
                    refine Go.eqI (w := 1) (if_pos (own_s16 _)) ?_
                    refine Go.if_eq 248 214 at_211 (by decide) rfl rfl (fun (b81 : (1 : Int32) = 0) => ?_) (fun (b81 : ¬ (1 : Int32) = 0) => ?_)
                    · exact absurd b81 (by decide)
                    · refine Go.aload 216 rfl at_214 rfl rfl ?_
                      refine Go.bipush 218 rfl (6 : Int32) at_216 rfl ?_
                      refine Go.iload 220 rfl at_218 rfl ?_
                      refine Go.iloadN 221 rfl at_220 rfl ?_
                      refine Go.iloadN 222 rfl at_221 rfl ?_
                      refine Go.iloadN 223 rfl at_222 rfl ?_
                      refine Go.callS 226 rfl (C := B8) [.ref t, .int (6 : Int32), .int (0 : Int32), .int va, .int pa, .int pb] (rest := []) 41 42 43 44 (c8 Z hw h40 t (6 : Int32) (0 : Int32) va pa pb (nar .byte (XT.ushr pb (8 : Int32)).toInt8.toInt32) (.int (nar .byte (XT.ushr va (24 : Int32)).toInt8.toInt32) :: .int (nar .byte (XT.ushr va (16 : Int32)).toInt8.toInt32) :: .int (nar .byte (XT.ushr va (8 : Int32)).toInt8.toInt32) :: .int (nar .byte va.toInt8.toInt32) :: .int (nar .byte (XT.ushr pb (24 : Int32)).toInt8.toInt32) :: .int (nar .byte (XT.ushr pb (16 : Int32)).toInt8.toInt32) :: .int (nar .byte (XT.ushr pb (8 : Int32)).toInt8.toInt32) :: .int (nar .byte pb.toInt8.toInt32) :: r) A44 6 rfl rfl) at_223 rfl rfl rfl rfl (by decide) pd8 rfl rfl rfl (W := 0) (Nat.le_of_ble_eq_true rfl) (by decide) (by decide) (by decide) (by decide) fun v82 h83 q84 => ?_
                      obtain ⟨rfl, rfl⟩ := q84
                      refine Go.eqI (w := 1) (if_pos (own_s8 _)) ?_
                      refine Go.if_eq 248 229 at_226 (by decide) rfl rfl (fun (b85 : (1 : Int32) = 0) => ?_) (fun (b85 : ¬ (1 : Int32) = 0) => ?_)
                      · exact absurd b85 (by decide)
                      · refine Go.aload 231 rfl at_229 rfl rfl ?_
                        refine Go.bipush 233 rfl (7 : Int32) at_231 rfl ?_
                        refine Go.iload 235 rfl at_233 rfl ?_
                        refine Go.iloadN 236 rfl at_235 rfl ?_
                        refine Go.iloadN 237 rfl at_236 rfl ?_
                        refine Go.iloadN 238 rfl at_237 rfl ?_
                        refine Go.callS 241 rfl (C := B8) [.ref t, .int (7 : Int32), .int (0 : Int32), .int va, .int pa, .int pb] (rest := []) 41 42 43 44 (c8 Z hw h40 t (7 : Int32) (0 : Int32) va pa pb (nar .byte pb.toInt8.toInt32) (.int (nar .byte (XT.ushr va (24 : Int32)).toInt8.toInt32) :: .int (nar .byte (XT.ushr va (16 : Int32)).toInt8.toInt32) :: .int (nar .byte (XT.ushr va (8 : Int32)).toInt8.toInt32) :: .int (nar .byte va.toInt8.toInt32) :: .int (nar .byte (XT.ushr pb (24 : Int32)).toInt8.toInt32) :: .int (nar .byte (XT.ushr pb (16 : Int32)).toInt8.toInt32) :: .int (nar .byte (XT.ushr pb (8 : Int32)).toInt8.toInt32) :: .int (nar .byte pb.toInt8.toInt32) :: r) A44 7 rfl rfl) at_238 rfl rfl rfl rfl (by decide) pd8 rfl rfl rfl (W := 0) (Nat.le_of_ble_eq_true rfl) (by decide) (by decide) (by decide) (by decide) fun v86 h87 q88 => ?_
                        obtain ⟨rfl, rfl⟩ := q88
                        refine Go.eqI (w := 1) (if_pos (own_s0 _)) ?_
                        refine Go.if_eq 248 244 at_241 (by decide) rfl rfl (fun (b89 : (1 : Int32) = 0) => ?_) (fun (b89 : ¬ (1 : Int32) = 0) => ?_)
                        · exact absurd b89 (by decide)
                        · refine Go.iconst 245 rfl (1 : Int32) at_244 rfl ?_
                          refine Go.goto 249 at_245 (by decide) (by decide) ?_
                          exact Go.retN (t := .boolean) (z' := (1 : Int32)) at_249 rfl (by decide) rfl (by decide) (by decide) rfl
        · exact absurd (hv56.symm.trans (own_got va)) b57
      · exact absurd b55 (by decide)
    · exact absurd rfl b50
  · refine Go.aload 31 rfl at_29 rfl rfl ?_
    refine Go.iload 33 rfl at_31 rfl ?_
    refine Go.iloadN 34 rfl at_33 rfl ?_
    refine Go.callV 37 rfl (C := B5) a2 [.int (1 : Int32), .int va] (rest := []) 26 27 29 28 3 30 (c5 Z hw h30 a2 (1 : Int32) va t 1 (.int (nar .byte (XT.ushr pa (24 : Int32)).toInt8.toInt32) :: .int (nar .byte (XT.ushr pa (16 : Int32)).toInt8.toInt32) :: .int (nar .byte (XT.ushr pa (8 : Int32)).toInt8.toInt32) :: .int (nar .byte pa.toInt8.toInt32) :: .int (nar .byte (XT.ushr pb (24 : Int32)).toInt8.toInt32) :: .int (nar .byte (XT.ushr pb (16 : Int32)).toInt8.toInt32) :: .int (nar .byte (XT.ushr pb (8 : Int32)).toInt8.toInt32) :: .int (nar .byte pb.toInt8.toInt32) :: r) gt hne F33 A37 (by simp [e13]) (by decide) rfl rfl rfl rfl) F38 at_34 rfl rfl rfl rfl rfl rfl (by decide) pd5 rfl rfl rfl (W := 0) (Nat.le_of_ble_eq_true rfl) (by decide) (by decide) (by decide) (by decide) fun v90 h91 q92 => ?_
    obtain ⟨rfl, K93, A94⟩ := q92
    have A95 : Ary Z h91 t .byte (.int (nar .byte (XT.ushr pa (24 : Int32)).toInt8.toInt32) :: .int (nar .byte (XT.ushr va (24 : Int32)).toInt8.toInt32) :: .int (nar .byte (XT.ushr va (16 : Int32)).toInt8.toInt32) :: .int (nar .byte (XT.ushr va (8 : Int32)).toInt8.toInt32) :: .int (nar .byte va.toInt8.toInt32) :: .int (nar .byte (XT.ushr pb (16 : Int32)).toInt8.toInt32) :: .int (nar .byte (XT.ushr pb (8 : Int32)).toInt8.toInt32) :: .int (nar .byte pb.toInt8.toInt32) :: r) := A94
    refine Go.aload 39 rfl at_37 rfl rfl ?_
    have F96 : Fld Z h91 a2 "locuscope/io/Bytes" "size" "I" (.int (8 : Int32)) := (F36.keep K93 (ninS hne nin0))
    have F100 : Exa Z h91 a2 "locuscope/io/Bytes" := (F38.keep K93)
    refine Go.callV 42 rfl (C := B6) a2 [] (rest := []) 31 32 34 33 3 35 (c6 Z hw h91 a2 (8 : Int32) F96) F100 at_39 rfl rfl rfl rfl rfl rfl (by decide) pd6 rfl rfl rfl (W := 0) (Nat.le_of_ble_eq_true rfl) (by decide) (by decide) (by decide) (by decide) fun v97 h98 q99 => ?_
    obtain ⟨rfl, rfl⟩ := q99
    refine Go.bipush 44 rfl (8 : Int32) at_42 rfl ?_
    refine Go.icmp_eq 49 47 at_44 (by decide) rfl rfl (fun (b101 : (8 : Int32) = (8 : Int32)) => ?_) (fun (b101 : ¬ (8 : Int32) = (8 : Int32)) => ?_)
    · refine Go.aload 51 rfl at_49 rfl rfl ?_
      have F102 : Fld Z h91 a2 "locuscope/io/Bytes" "bytes" "[B" (.ref t) := (F33.keep K93 (ninS hne nin0))
      refine Go.callV 54 rfl (C := B7) a2 [] (rest := []) 36 37 39 38 3 40 (c7 Z hw h91 a2 t F102) F100 at_51 rfl rfl rfl rfl rfl rfl (by decide) pd7 rfl rfl rfl (W := 0) (Nat.le_of_ble_eq_true rfl) (by decide) (by decide) (by decide) (by decide) fun v103 h104 q105 => ?_
      obtain ⟨rfl, rfl⟩ := q105
      refine Go.astore 56 rfl at_54 rfl (Ls' := #[.val (.int at'), .val (.int va), .val (.int pa), .val (.int pb), .val (.int (1 : Int32)), .val (.ref a2), .val (.ref t), .unset]) rfl ?_
      refine Go.aload 58 rfl at_56 rfl rfl ?_
      refine Go.alen 59 rfl (65536 : Int32) at_58 A95 (by simp [e13]) ?_
      refine Go.bipush 61 rfl (8 : Int32) at_59 rfl ?_
      refine Go.icmp_ge 66 64 at_61 (by decide) rfl rfl (fun (b106 : ¬ (65536 : Int32) < (8 : Int32)) => ?_) (fun (b106 : (65536 : Int32) < (8 : Int32)) => ?_)
      · refine Go.aload 68 rfl at_66 rfl rfl ?_
        refine Go.iload 70 rfl at_68 rfl ?_
        refine Go.baload 71 rfl (nar .byte (XT.ushr va (24 : Int32)).toInt8.toInt32) at_70 A95 1 rfl rfl ?_
        refine Go.sipush 74 rfl (255 : Int32) at_71 rfl ?_
        refine Go.iand 75 rfl at_74 ?_
        refine Go.bipush 77 rfl (24 : Int32) at_75 rfl ?_
        refine Go.ishl 78 rfl at_77 ?_
        refine Go.aload 80 rfl at_78 rfl rfl ?_
        refine Go.iload 82 rfl at_80 rfl ?_
        refine Go.iconst 83 rfl (1 : Int32) at_82 rfl ?_
        refine Go.iadd 84 rfl at_83 ?_
        refine Go.baload 85 rfl (nar .byte (XT.ushr va (16 : Int32)).toInt8.toInt32) at_84 A95 2 rfl rfl ?_
        refine Go.sipush 88 rfl (255 : Int32) at_85 rfl ?_
        refine Go.iand 89 rfl at_88 ?_
        refine Go.bipush 91 rfl (16 : Int32) at_89 rfl ?_
        refine Go.ishl 92 rfl at_91 ?_
        refine Go.ior 93 rfl at_92 ?_
        refine Go.aload 95 rfl at_93 rfl rfl ?_
        refine Go.iload 97 rfl at_95 rfl ?_
        refine Go.iconst 98 rfl (2 : Int32) at_97 rfl ?_
        refine Go.iadd 99 rfl at_98 ?_
        refine Go.baload 100 rfl (nar .byte (XT.ushr va (8 : Int32)).toInt8.toInt32) at_99 A95 3 rfl rfl ?_
        refine Go.sipush 103 rfl (255 : Int32) at_100 rfl ?_
        refine Go.iand 104 rfl at_103 ?_
        refine Go.bipush 106 rfl (8 : Int32) at_104 rfl ?_
        refine Go.ishl 107 rfl at_106 ?_
        refine Go.ior 108 rfl at_107 ?_
        refine Go.aload 110 rfl at_108 rfl rfl ?_
        refine Go.iload 112 rfl at_110 rfl ?_
        refine Go.iconst 113 rfl (3 : Int32) at_112 rfl ?_
        refine Go.iadd 114 rfl at_113 ?_
        refine Go.baload 115 rfl (nar .byte va.toInt8.toInt32) at_114 A95 4 rfl rfl ?_
        refine Go.sipush 118 rfl (255 : Int32) at_115 rfl ?_
        refine Go.iand 119 rfl at_118 ?_
        refine Go.ior 120 rfl at_119 ?_
        refine Go.nameI fun v107 hv107 => ?_
        refine Go.istore 122 rfl at_120 (Ls' := #[.val (.int at'), .val (.int va), .val (.int pa), .val (.int pb), .val (.int (1 : Int32)), .val (.ref a2), .val (.ref t), .val (.int v107)]) rfl ?_
        refine Go.iload 124 rfl at_122 rfl ?_
        refine Go.iloadN 125 rfl at_124 rfl ?_
        refine Go.icmp_eq 130 128 at_125 (by decide) rfl rfl (fun (b108 : v107 = va) => ?_) (fun (b108 : ¬ v107 = va) => ?_)
        · refine Go.aload 132 rfl at_130 rfl rfl ?_
          refine Go.iconst 133 rfl (0 : Int32) at_132 rfl ?_
          refine Go.iload 135 rfl at_133 rfl ?_
          refine Go.iloadN 136 rfl at_135 rfl ?_
          refine Go.iloadN 137 rfl at_136 rfl ?_
          refine Go.iloadN 138 rfl at_137 rfl ?_
          refine Go.callS 141 rfl (C := B8) [.ref t, .int (0 : Int32), .int (1 : Int32), .int va, .int pa, .int pb] (rest := []) 41 42 43 44 (c8 Z hw h91 t (0 : Int32) (1 : Int32) va pa pb (nar .byte (XT.ushr pa (24 : Int32)).toInt8.toInt32) (.int (nar .byte (XT.ushr pa (24 : Int32)).toInt8.toInt32) :: .int (nar .byte (XT.ushr va (24 : Int32)).toInt8.toInt32) :: .int (nar .byte (XT.ushr va (16 : Int32)).toInt8.toInt32) :: .int (nar .byte (XT.ushr va (8 : Int32)).toInt8.toInt32) :: .int (nar .byte va.toInt8.toInt32) :: .int (nar .byte (XT.ushr pb (16 : Int32)).toInt8.toInt32) :: .int (nar .byte (XT.ushr pb (8 : Int32)).toInt8.toInt32) :: .int (nar .byte pb.toInt8.toInt32) :: r) A95 0 rfl rfl) at_138 rfl rfl rfl rfl (by decide) pd8 rfl rfl rfl (W := 0) (Nat.le_of_ble_eq_true rfl) (by decide) (by decide) (by decide) (by decide) fun v109 h110 q111 => ?_
          obtain ⟨rfl, rfl⟩ := q111
          refine Go.eqI (w := 1) (if_pos (own_s24 _)) ?_
          refine Go.if_eq 248 144 at_141 (by decide) rfl rfl (fun (b112 : (1 : Int32) = 0) => ?_) (fun (b112 : ¬ (1 : Int32) = 0) => ?_)
          · exact absurd b112 (by decide)
          · refine Go.aload 146 rfl at_144 rfl rfl ?_
            refine Go.iconst 147 rfl (1 : Int32) at_146 rfl ?_
            refine Go.iload 149 rfl at_147 rfl ?_
            refine Go.iloadN 150 rfl at_149 rfl ?_
            refine Go.iloadN 151 rfl at_150 rfl ?_
            refine Go.iloadN 152 rfl at_151 rfl ?_
            refine Go.callS 155 rfl (C := B8) [.ref t, .int (1 : Int32), .int (1 : Int32), .int va, .int pa, .int pb] (rest := []) 41 42 43 44 (c8 Z hw h91 t (1 : Int32) (1 : Int32) va pa pb (nar .byte (XT.ushr va (24 : Int32)).toInt8.toInt32) (.int (nar .byte (XT.ushr pa (24 : Int32)).toInt8.toInt32) :: .int (nar .byte (XT.ushr va (24 : Int32)).toInt8.toInt32) :: .int (nar .byte (XT.ushr va (16 : Int32)).toInt8.toInt32) :: .int (nar .byte (XT.ushr va (8 : Int32)).toInt8.toInt32) :: .int (nar .byte va.toInt8.toInt32) :: .int (nar .byte (XT.ushr pb (16 : Int32)).toInt8.toInt32) :: .int (nar .byte (XT.ushr pb (8 : Int32)).toInt8.toInt32) :: .int (nar .byte pb.toInt8.toInt32) :: r) A95 1 rfl rfl) at_152 rfl rfl rfl rfl (by decide) pd8 rfl rfl rfl (W := 0) (Nat.le_of_ble_eq_true rfl) (by decide) (by decide) (by decide) (by decide) fun v113 h114 q115 => ?_
            obtain ⟨rfl, rfl⟩ := q115
            refine Go.eqI (w := 1) (if_pos (own_s24 _)) ?_
            refine Go.if_eq 248 158 at_155 (by decide) rfl rfl (fun (b116 : (1 : Int32) = 0) => ?_) (fun (b116 : ¬ (1 : Int32) = 0) => ?_)
            · exact absurd b116 (by decide)
            · refine Go.aload 160 rfl at_158 rfl rfl ?_
              refine Go.iconst 161 rfl (2 : Int32) at_160 rfl ?_
              refine Go.iload 163 rfl at_161 rfl ?_
              refine Go.iloadN 164 rfl at_163 rfl ?_
              refine Go.iloadN 165 rfl at_164 rfl ?_
              refine Go.iloadN 166 rfl at_165 rfl ?_
              refine Go.callS 169 rfl (C := B8) [.ref t, .int (2 : Int32), .int (1 : Int32), .int va, .int pa, .int pb] (rest := []) 41 42 43 44 (c8 Z hw h91 t (2 : Int32) (1 : Int32) va pa pb (nar .byte (XT.ushr va (16 : Int32)).toInt8.toInt32) (.int (nar .byte (XT.ushr pa (24 : Int32)).toInt8.toInt32) :: .int (nar .byte (XT.ushr va (24 : Int32)).toInt8.toInt32) :: .int (nar .byte (XT.ushr va (16 : Int32)).toInt8.toInt32) :: .int (nar .byte (XT.ushr va (8 : Int32)).toInt8.toInt32) :: .int (nar .byte va.toInt8.toInt32) :: .int (nar .byte (XT.ushr pb (16 : Int32)).toInt8.toInt32) :: .int (nar .byte (XT.ushr pb (8 : Int32)).toInt8.toInt32) :: .int (nar .byte pb.toInt8.toInt32) :: r) A95 2 rfl rfl) at_166 rfl rfl rfl rfl (by decide) pd8 rfl rfl rfl (W := 0) (Nat.le_of_ble_eq_true rfl) (by decide) (by decide) (by decide) (by decide) fun v117 h118 q119 => ?_
              obtain ⟨rfl, rfl⟩ := q119
              refine Go.eqI (w := 1) (if_pos (own_s16 _)) ?_
              refine Go.if_eq 248 172 at_169 (by decide) rfl rfl (fun (b120 : (1 : Int32) = 0) => ?_) (fun (b120 : ¬ (1 : Int32) = 0) => ?_)
              · exact absurd b120 (by decide)
              · refine Go.aload 174 rfl at_172 rfl rfl ?_
                refine Go.iconst 175 rfl (3 : Int32) at_174 rfl ?_
                refine Go.iload 177 rfl at_175 rfl ?_
                refine Go.iloadN 178 rfl at_177 rfl ?_
                refine Go.iloadN 179 rfl at_178 rfl ?_
                refine Go.iloadN 180 rfl at_179 rfl ?_
                refine Go.callS 183 rfl (C := B8) [.ref t, .int (3 : Int32), .int (1 : Int32), .int va, .int pa, .int pb] (rest := []) 41 42 43 44 (c8 Z hw h91 t (3 : Int32) (1 : Int32) va pa pb (nar .byte (XT.ushr va (8 : Int32)).toInt8.toInt32) (.int (nar .byte (XT.ushr pa (24 : Int32)).toInt8.toInt32) :: .int (nar .byte (XT.ushr va (24 : Int32)).toInt8.toInt32) :: .int (nar .byte (XT.ushr va (16 : Int32)).toInt8.toInt32) :: .int (nar .byte (XT.ushr va (8 : Int32)).toInt8.toInt32) :: .int (nar .byte va.toInt8.toInt32) :: .int (nar .byte (XT.ushr pb (16 : Int32)).toInt8.toInt32) :: .int (nar .byte (XT.ushr pb (8 : Int32)).toInt8.toInt32) :: .int (nar .byte pb.toInt8.toInt32) :: r) A95 3 rfl rfl) at_180 rfl rfl rfl rfl (by decide) pd8 rfl rfl rfl (W := 0) (Nat.le_of_ble_eq_true rfl) (by decide) (by decide) (by decide) (by decide) fun v121 h122 q123 => ?_
                obtain ⟨rfl, rfl⟩ := q123
                refine Go.eqI (w := 1) (if_pos (own_s8 _)) ?_
                refine Go.if_eq 248 186 at_183 (by decide) rfl rfl (fun (b124 : (1 : Int32) = 0) => ?_) (fun (b124 : ¬ (1 : Int32) = 0) => ?_)
                · exact absurd b124 (by decide)
                · refine Go.aload 188 rfl at_186 rfl rfl ?_
                  refine Go.iconst 189 rfl (4 : Int32) at_188 rfl ?_
                  refine Go.iload 191 rfl at_189 rfl ?_
                  refine Go.iloadN 192 rfl at_191 rfl ?_
                  refine Go.iloadN 193 rfl at_192 rfl ?_
                  refine Go.iloadN 194 rfl at_193 rfl ?_
                  refine Go.callS 197 rfl (C := B8) [.ref t, .int (4 : Int32), .int (1 : Int32), .int va, .int pa, .int pb] (rest := []) 41 42 43 44 (c8 Z hw h91 t (4 : Int32) (1 : Int32) va pa pb (nar .byte va.toInt8.toInt32) (.int (nar .byte (XT.ushr pa (24 : Int32)).toInt8.toInt32) :: .int (nar .byte (XT.ushr va (24 : Int32)).toInt8.toInt32) :: .int (nar .byte (XT.ushr va (16 : Int32)).toInt8.toInt32) :: .int (nar .byte (XT.ushr va (8 : Int32)).toInt8.toInt32) :: .int (nar .byte va.toInt8.toInt32) :: .int (nar .byte (XT.ushr pb (16 : Int32)).toInt8.toInt32) :: .int (nar .byte (XT.ushr pb (8 : Int32)).toInt8.toInt32) :: .int (nar .byte pb.toInt8.toInt32) :: r) A95 4 rfl rfl) at_194 rfl rfl rfl rfl (by decide) pd8 rfl rfl rfl (W := 0) (Nat.le_of_ble_eq_true rfl) (by decide) (by decide) (by decide) (by decide) fun v125 h126 q127 => ?_
                  obtain ⟨rfl, rfl⟩ := q127
                  refine Go.eqI (w := 1) (if_pos (own_s0 _)) ?_
                  refine Go.if_eq 248 200 at_197 (by decide) rfl rfl (fun (b128 : (1 : Int32) = 0) => ?_) (fun (b128 : ¬ (1 : Int32) = 0) => ?_)
                  · exact absurd b128 (by decide)
                  · refine Go.aload 202 rfl at_200 rfl rfl ?_
                    refine Go.iconst 203 rfl (5 : Int32) at_202 rfl ?_
                    refine Go.iload 205 rfl at_203 rfl ?_
                    refine Go.iloadN 206 rfl at_205 rfl ?_
                    refine Go.iloadN 207 rfl at_206 rfl ?_
                    refine Go.iloadN 208 rfl at_207 rfl ?_
                    refine Go.callS 211 rfl (C := B8) [.ref t, .int (5 : Int32), .int (1 : Int32), .int va, .int pa, .int pb] (rest := []) 41 42 43 44 (c8 Z hw h91 t (5 : Int32) (1 : Int32) va pa pb (nar .byte (XT.ushr pb (16 : Int32)).toInt8.toInt32) (.int (nar .byte (XT.ushr pa (24 : Int32)).toInt8.toInt32) :: .int (nar .byte (XT.ushr va (24 : Int32)).toInt8.toInt32) :: .int (nar .byte (XT.ushr va (16 : Int32)).toInt8.toInt32) :: .int (nar .byte (XT.ushr va (8 : Int32)).toInt8.toInt32) :: .int (nar .byte va.toInt8.toInt32) :: .int (nar .byte (XT.ushr pb (16 : Int32)).toInt8.toInt32) :: .int (nar .byte (XT.ushr pb (8 : Int32)).toInt8.toInt32) :: .int (nar .byte pb.toInt8.toInt32) :: r) A95 5 rfl rfl) at_208 rfl rfl rfl rfl (by decide) pd8 rfl rfl rfl (W := 0) (Nat.le_of_ble_eq_true rfl) (by decide) (by decide) (by decide) (by decide) fun v129 h130 q131 => ?_
                    obtain ⟨rfl, rfl⟩ := q131
                    refine Go.eqI (w := 1) (if_pos (own_s16 _)) ?_
                    refine Go.if_eq 248 214 at_211 (by decide) rfl rfl (fun (b132 : (1 : Int32) = 0) => ?_) (fun (b132 : ¬ (1 : Int32) = 0) => ?_)
                    · exact absurd b132 (by decide)
                    · refine Go.aload 216 rfl at_214 rfl rfl ?_
                      refine Go.bipush 218 rfl (6 : Int32) at_216 rfl ?_
                      refine Go.iload 220 rfl at_218 rfl ?_
                      refine Go.iloadN 221 rfl at_220 rfl ?_
                      refine Go.iloadN 222 rfl at_221 rfl ?_
                      refine Go.iloadN 223 rfl at_222 rfl ?_
                      refine Go.callS 226 rfl (C := B8) [.ref t, .int (6 : Int32), .int (1 : Int32), .int va, .int pa, .int pb] (rest := []) 41 42 43 44 (c8 Z hw h91 t (6 : Int32) (1 : Int32) va pa pb (nar .byte (XT.ushr pb (8 : Int32)).toInt8.toInt32) (.int (nar .byte (XT.ushr pa (24 : Int32)).toInt8.toInt32) :: .int (nar .byte (XT.ushr va (24 : Int32)).toInt8.toInt32) :: .int (nar .byte (XT.ushr va (16 : Int32)).toInt8.toInt32) :: .int (nar .byte (XT.ushr va (8 : Int32)).toInt8.toInt32) :: .int (nar .byte va.toInt8.toInt32) :: .int (nar .byte (XT.ushr pb (16 : Int32)).toInt8.toInt32) :: .int (nar .byte (XT.ushr pb (8 : Int32)).toInt8.toInt32) :: .int (nar .byte pb.toInt8.toInt32) :: r) A95 6 rfl rfl) at_223 rfl rfl rfl rfl (by decide) pd8 rfl rfl rfl (W := 0) (Nat.le_of_ble_eq_true rfl) (by decide) (by decide) (by decide) (by decide) fun v133 h134 q135 => ?_
                      obtain ⟨rfl, rfl⟩ := q135
                      refine Go.eqI (w := 1) (if_pos (own_s8 _)) ?_
                      refine Go.if_eq 248 229 at_226 (by decide) rfl rfl (fun (b136 : (1 : Int32) = 0) => ?_) (fun (b136 : ¬ (1 : Int32) = 0) => ?_)
                      · exact absurd b136 (by decide)
                      · refine Go.aload 231 rfl at_229 rfl rfl ?_
                        refine Go.bipush 233 rfl (7 : Int32) at_231 rfl ?_
                        refine Go.iload 235 rfl at_233 rfl ?_
                        refine Go.iloadN 236 rfl at_235 rfl ?_
                        refine Go.iloadN 237 rfl at_236 rfl ?_
                        refine Go.iloadN 238 rfl at_237 rfl ?_
                        refine Go.callS 241 rfl (C := B8) [.ref t, .int (7 : Int32), .int (1 : Int32), .int va, .int pa, .int pb] (rest := []) 41 42 43 44 (c8 Z hw h91 t (7 : Int32) (1 : Int32) va pa pb (nar .byte pb.toInt8.toInt32) (.int (nar .byte (XT.ushr pa (24 : Int32)).toInt8.toInt32) :: .int (nar .byte (XT.ushr va (24 : Int32)).toInt8.toInt32) :: .int (nar .byte (XT.ushr va (16 : Int32)).toInt8.toInt32) :: .int (nar .byte (XT.ushr va (8 : Int32)).toInt8.toInt32) :: .int (nar .byte va.toInt8.toInt32) :: .int (nar .byte (XT.ushr pb (16 : Int32)).toInt8.toInt32) :: .int (nar .byte (XT.ushr pb (8 : Int32)).toInt8.toInt32) :: .int (nar .byte pb.toInt8.toInt32) :: r) A95 7 rfl rfl) at_238 rfl rfl rfl rfl (by decide) pd8 rfl rfl rfl (W := 0) (Nat.le_of_ble_eq_true rfl) (by decide) (by decide) (by decide) (by decide) fun v137 h138 q139 => ?_
                        obtain ⟨rfl, rfl⟩ := q139
                        refine Go.eqI (w := 1) (if_pos (own_s0 _)) ?_
                        refine Go.if_eq 248 244 at_241 (by decide) rfl rfl (fun (b140 : (1 : Int32) = 0) => ?_) (fun (b140 : ¬ (1 : Int32) = 0) => ?_)
                        · exact absurd b140 (by decide)
                        · refine Go.iconst 245 rfl (1 : Int32) at_244 rfl ?_
                          refine Go.goto 249 at_245 (by decide) (by decide) ?_
                          exact Go.retN (t := .boolean) (z' := (1 : Int32)) at_249 rfl (by decide) rfl (by decide) (by decide) rfl
        · exact absurd (hv107.symm.trans (own_got va)) b108
      · exact absurd b106 (by decide)
    · exact absurd rfl b101
  · refine Go.aload 31 rfl at_29 rfl rfl ?_
    refine Go.iload 33 rfl at_31 rfl ?_
    refine Go.iloadN 34 rfl at_33 rfl ?_
    refine Go.callV 37 rfl (C := B5) a2 [.int (2 : Int32), .int va] (rest := []) 26 27 29 28 3 30 (c5 Z hw h30 a2 (2 : Int32) va t 2 (.int (nar .byte (XT.ushr pa (24 : Int32)).toInt8.toInt32) :: .int (nar .byte (XT.ushr pa (16 : Int32)).toInt8.toInt32) :: .int (nar .byte (XT.ushr pa (8 : Int32)).toInt8.toInt32) :: .int (nar .byte pa.toInt8.toInt32) :: .int (nar .byte (XT.ushr pb (24 : Int32)).toInt8.toInt32) :: .int (nar .byte (XT.ushr pb (16 : Int32)).toInt8.toInt32) :: .int (nar .byte (XT.ushr pb (8 : Int32)).toInt8.toInt32) :: .int (nar .byte pb.toInt8.toInt32) :: r) gt hne F33 A37 (by simp [e13]) (by decide) rfl rfl rfl rfl) F38 at_34 rfl rfl rfl rfl rfl rfl (by decide) pd5 rfl rfl rfl (W := 0) (Nat.le_of_ble_eq_true rfl) (by decide) (by decide) (by decide) (by decide) fun v141 h142 q143 => ?_
    obtain ⟨rfl, K144, A145⟩ := q143
    have A146 : Ary Z h142 t .byte (.int (nar .byte (XT.ushr pa (24 : Int32)).toInt8.toInt32) :: .int (nar .byte (XT.ushr pa (16 : Int32)).toInt8.toInt32) :: .int (nar .byte (XT.ushr va (24 : Int32)).toInt8.toInt32) :: .int (nar .byte (XT.ushr va (16 : Int32)).toInt8.toInt32) :: .int (nar .byte (XT.ushr va (8 : Int32)).toInt8.toInt32) :: .int (nar .byte va.toInt8.toInt32) :: .int (nar .byte (XT.ushr pb (8 : Int32)).toInt8.toInt32) :: .int (nar .byte pb.toInt8.toInt32) :: r) := A145
    refine Go.aload 39 rfl at_37 rfl rfl ?_
    have F147 : Fld Z h142 a2 "locuscope/io/Bytes" "size" "I" (.int (8 : Int32)) := (F36.keep K144 (ninS hne nin0))
    have F151 : Exa Z h142 a2 "locuscope/io/Bytes" := (F38.keep K144)
    refine Go.callV 42 rfl (C := B6) a2 [] (rest := []) 31 32 34 33 3 35 (c6 Z hw h142 a2 (8 : Int32) F147) F151 at_39 rfl rfl rfl rfl rfl rfl (by decide) pd6 rfl rfl rfl (W := 0) (Nat.le_of_ble_eq_true rfl) (by decide) (by decide) (by decide) (by decide) fun v148 h149 q150 => ?_
    obtain ⟨rfl, rfl⟩ := q150
    refine Go.bipush 44 rfl (8 : Int32) at_42 rfl ?_
    refine Go.icmp_eq 49 47 at_44 (by decide) rfl rfl (fun (b152 : (8 : Int32) = (8 : Int32)) => ?_) (fun (b152 : ¬ (8 : Int32) = (8 : Int32)) => ?_)
    · refine Go.aload 51 rfl at_49 rfl rfl ?_
      have F153 : Fld Z h142 a2 "locuscope/io/Bytes" "bytes" "[B" (.ref t) := (F33.keep K144 (ninS hne nin0))
      refine Go.callV 54 rfl (C := B7) a2 [] (rest := []) 36 37 39 38 3 40 (c7 Z hw h142 a2 t F153) F151 at_51 rfl rfl rfl rfl rfl rfl (by decide) pd7 rfl rfl rfl (W := 0) (Nat.le_of_ble_eq_true rfl) (by decide) (by decide) (by decide) (by decide) fun v154 h155 q156 => ?_
      obtain ⟨rfl, rfl⟩ := q156
      refine Go.astore 56 rfl at_54 rfl (Ls' := #[.val (.int at'), .val (.int va), .val (.int pa), .val (.int pb), .val (.int (2 : Int32)), .val (.ref a2), .val (.ref t), .unset]) rfl ?_
      refine Go.aload 58 rfl at_56 rfl rfl ?_
      refine Go.alen 59 rfl (65536 : Int32) at_58 A146 (by simp [e13]) ?_
      refine Go.bipush 61 rfl (8 : Int32) at_59 rfl ?_
      refine Go.icmp_ge 66 64 at_61 (by decide) rfl rfl (fun (b157 : ¬ (65536 : Int32) < (8 : Int32)) => ?_) (fun (b157 : (65536 : Int32) < (8 : Int32)) => ?_)
      · refine Go.aload 68 rfl at_66 rfl rfl ?_
        refine Go.iload 70 rfl at_68 rfl ?_
        refine Go.baload 71 rfl (nar .byte (XT.ushr va (24 : Int32)).toInt8.toInt32) at_70 A146 2 rfl rfl ?_
        refine Go.sipush 74 rfl (255 : Int32) at_71 rfl ?_
        refine Go.iand 75 rfl at_74 ?_
        refine Go.bipush 77 rfl (24 : Int32) at_75 rfl ?_
        refine Go.ishl 78 rfl at_77 ?_
        refine Go.aload 80 rfl at_78 rfl rfl ?_
        refine Go.iload 82 rfl at_80 rfl ?_
        refine Go.iconst 83 rfl (1 : Int32) at_82 rfl ?_
        refine Go.iadd 84 rfl at_83 ?_
        refine Go.baload 85 rfl (nar .byte (XT.ushr va (16 : Int32)).toInt8.toInt32) at_84 A146 3 rfl rfl ?_
        refine Go.sipush 88 rfl (255 : Int32) at_85 rfl ?_
        refine Go.iand 89 rfl at_88 ?_
        refine Go.bipush 91 rfl (16 : Int32) at_89 rfl ?_
        refine Go.ishl 92 rfl at_91 ?_
        refine Go.ior 93 rfl at_92 ?_
        refine Go.aload 95 rfl at_93 rfl rfl ?_
        refine Go.iload 97 rfl at_95 rfl ?_
        refine Go.iconst 98 rfl (2 : Int32) at_97 rfl ?_
        refine Go.iadd 99 rfl at_98 ?_
        refine Go.baload 100 rfl (nar .byte (XT.ushr va (8 : Int32)).toInt8.toInt32) at_99 A146 4 rfl rfl ?_
        refine Go.sipush 103 rfl (255 : Int32) at_100 rfl ?_
        refine Go.iand 104 rfl at_103 ?_
        refine Go.bipush 106 rfl (8 : Int32) at_104 rfl ?_
        refine Go.ishl 107 rfl at_106 ?_
        refine Go.ior 108 rfl at_107 ?_
        refine Go.aload 110 rfl at_108 rfl rfl ?_
        refine Go.iload 112 rfl at_110 rfl ?_
        refine Go.iconst 113 rfl (3 : Int32) at_112 rfl ?_
        refine Go.iadd 114 rfl at_113 ?_
        refine Go.baload 115 rfl (nar .byte va.toInt8.toInt32) at_114 A146 5 rfl rfl ?_
        refine Go.sipush 118 rfl (255 : Int32) at_115 rfl ?_
        refine Go.iand 119 rfl at_118 ?_
        refine Go.ior 120 rfl at_119 ?_
        refine Go.nameI fun v158 hv158 => ?_
        refine Go.istore 122 rfl at_120 (Ls' := #[.val (.int at'), .val (.int va), .val (.int pa), .val (.int pb), .val (.int (2 : Int32)), .val (.ref a2), .val (.ref t), .val (.int v158)]) rfl ?_
        refine Go.iload 124 rfl at_122 rfl ?_
        refine Go.iloadN 125 rfl at_124 rfl ?_
        refine Go.icmp_eq 130 128 at_125 (by decide) rfl rfl (fun (b159 : v158 = va) => ?_) (fun (b159 : ¬ v158 = va) => ?_)
        · refine Go.aload 132 rfl at_130 rfl rfl ?_
          refine Go.iconst 133 rfl (0 : Int32) at_132 rfl ?_
          refine Go.iload 135 rfl at_133 rfl ?_
          refine Go.iloadN 136 rfl at_135 rfl ?_
          refine Go.iloadN 137 rfl at_136 rfl ?_
          refine Go.iloadN 138 rfl at_137 rfl ?_
          refine Go.callS 141 rfl (C := B8) [.ref t, .int (0 : Int32), .int (2 : Int32), .int va, .int pa, .int pb] (rest := []) 41 42 43 44 (c8 Z hw h142 t (0 : Int32) (2 : Int32) va pa pb (nar .byte (XT.ushr pa (24 : Int32)).toInt8.toInt32) (.int (nar .byte (XT.ushr pa (24 : Int32)).toInt8.toInt32) :: .int (nar .byte (XT.ushr pa (16 : Int32)).toInt8.toInt32) :: .int (nar .byte (XT.ushr va (24 : Int32)).toInt8.toInt32) :: .int (nar .byte (XT.ushr va (16 : Int32)).toInt8.toInt32) :: .int (nar .byte (XT.ushr va (8 : Int32)).toInt8.toInt32) :: .int (nar .byte va.toInt8.toInt32) :: .int (nar .byte (XT.ushr pb (8 : Int32)).toInt8.toInt32) :: .int (nar .byte pb.toInt8.toInt32) :: r) A146 0 rfl rfl) at_138 rfl rfl rfl rfl (by decide) pd8 rfl rfl rfl (W := 0) (Nat.le_of_ble_eq_true rfl) (by decide) (by decide) (by decide) (by decide) fun v160 h161 q162 => ?_
          obtain ⟨rfl, rfl⟩ := q162
          refine Go.eqI (w := 1) (if_pos (own_s24 _)) ?_
          refine Go.if_eq 248 144 at_141 (by decide) rfl rfl (fun (b163 : (1 : Int32) = 0) => ?_) (fun (b163 : ¬ (1 : Int32) = 0) => ?_)
          · exact absurd b163 (by decide)
          · refine Go.aload 146 rfl at_144 rfl rfl ?_
            refine Go.iconst 147 rfl (1 : Int32) at_146 rfl ?_
            refine Go.iload 149 rfl at_147 rfl ?_
            refine Go.iloadN 150 rfl at_149 rfl ?_
            refine Go.iloadN 151 rfl at_150 rfl ?_
            refine Go.iloadN 152 rfl at_151 rfl ?_
            refine Go.callS 155 rfl (C := B8) [.ref t, .int (1 : Int32), .int (2 : Int32), .int va, .int pa, .int pb] (rest := []) 41 42 43 44 (c8 Z hw h142 t (1 : Int32) (2 : Int32) va pa pb (nar .byte (XT.ushr pa (16 : Int32)).toInt8.toInt32) (.int (nar .byte (XT.ushr pa (24 : Int32)).toInt8.toInt32) :: .int (nar .byte (XT.ushr pa (16 : Int32)).toInt8.toInt32) :: .int (nar .byte (XT.ushr va (24 : Int32)).toInt8.toInt32) :: .int (nar .byte (XT.ushr va (16 : Int32)).toInt8.toInt32) :: .int (nar .byte (XT.ushr va (8 : Int32)).toInt8.toInt32) :: .int (nar .byte va.toInt8.toInt32) :: .int (nar .byte (XT.ushr pb (8 : Int32)).toInt8.toInt32) :: .int (nar .byte pb.toInt8.toInt32) :: r) A146 1 rfl rfl) at_152 rfl rfl rfl rfl (by decide) pd8 rfl rfl rfl (W := 0) (Nat.le_of_ble_eq_true rfl) (by decide) (by decide) (by decide) (by decide) fun v164 h165 q166 => ?_
            obtain ⟨rfl, rfl⟩ := q166
            refine Go.eqI (w := 1) (if_pos (own_s16 _)) ?_
            refine Go.if_eq 248 158 at_155 (by decide) rfl rfl (fun (b167 : (1 : Int32) = 0) => ?_) (fun (b167 : ¬ (1 : Int32) = 0) => ?_)
            · exact absurd b167 (by decide)
            · refine Go.aload 160 rfl at_158 rfl rfl ?_
              refine Go.iconst 161 rfl (2 : Int32) at_160 rfl ?_
              refine Go.iload 163 rfl at_161 rfl ?_
              refine Go.iloadN 164 rfl at_163 rfl ?_
              refine Go.iloadN 165 rfl at_164 rfl ?_
              refine Go.iloadN 166 rfl at_165 rfl ?_
              refine Go.callS 169 rfl (C := B8) [.ref t, .int (2 : Int32), .int (2 : Int32), .int va, .int pa, .int pb] (rest := []) 41 42 43 44 (c8 Z hw h142 t (2 : Int32) (2 : Int32) va pa pb (nar .byte (XT.ushr va (24 : Int32)).toInt8.toInt32) (.int (nar .byte (XT.ushr pa (24 : Int32)).toInt8.toInt32) :: .int (nar .byte (XT.ushr pa (16 : Int32)).toInt8.toInt32) :: .int (nar .byte (XT.ushr va (24 : Int32)).toInt8.toInt32) :: .int (nar .byte (XT.ushr va (16 : Int32)).toInt8.toInt32) :: .int (nar .byte (XT.ushr va (8 : Int32)).toInt8.toInt32) :: .int (nar .byte va.toInt8.toInt32) :: .int (nar .byte (XT.ushr pb (8 : Int32)).toInt8.toInt32) :: .int (nar .byte pb.toInt8.toInt32) :: r) A146 2 rfl rfl) at_166 rfl rfl rfl rfl (by decide) pd8 rfl rfl rfl (W := 0) (Nat.le_of_ble_eq_true rfl) (by decide) (by decide) (by decide) (by decide) fun v168 h169 q170 => ?_
              obtain ⟨rfl, rfl⟩ := q170
              refine Go.eqI (w := 1) (if_pos (own_s24 _)) ?_
              refine Go.if_eq 248 172 at_169 (by decide) rfl rfl (fun (b171 : (1 : Int32) = 0) => ?_) (fun (b171 : ¬ (1 : Int32) = 0) => ?_)
              · exact absurd b171 (by decide)
              · refine Go.aload 174 rfl at_172 rfl rfl ?_
                refine Go.iconst 175 rfl (3 : Int32) at_174 rfl ?_
                refine Go.iload 177 rfl at_175 rfl ?_
                refine Go.iloadN 178 rfl at_177 rfl ?_
                refine Go.iloadN 179 rfl at_178 rfl ?_
                refine Go.iloadN 180 rfl at_179 rfl ?_
                refine Go.callS 183 rfl (C := B8) [.ref t, .int (3 : Int32), .int (2 : Int32), .int va, .int pa, .int pb] (rest := []) 41 42 43 44 (c8 Z hw h142 t (3 : Int32) (2 : Int32) va pa pb (nar .byte (XT.ushr va (16 : Int32)).toInt8.toInt32) (.int (nar .byte (XT.ushr pa (24 : Int32)).toInt8.toInt32) :: .int (nar .byte (XT.ushr pa (16 : Int32)).toInt8.toInt32) :: .int (nar .byte (XT.ushr va (24 : Int32)).toInt8.toInt32) :: .int (nar .byte (XT.ushr va (16 : Int32)).toInt8.toInt32) :: .int (nar .byte (XT.ushr va (8 : Int32)).toInt8.toInt32) :: .int (nar .byte va.toInt8.toInt32) :: .int (nar .byte (XT.ushr pb (8 : Int32)).toInt8.toInt32) :: .int (nar .byte pb.toInt8.toInt32) :: r) A146 3 rfl rfl) at_180 rfl rfl rfl rfl (by decide) pd8 rfl rfl rfl (W := 0) (Nat.le_of_ble_eq_true rfl) (by decide) (by decide) (by decide) (by decide) fun v172 h173 q174 => ?_
                obtain ⟨rfl, rfl⟩ := q174
                refine Go.eqI (w := 1) (if_pos (own_s16 _)) ?_
                refine Go.if_eq 248 186 at_183 (by decide) rfl rfl (fun (b175 : (1 : Int32) = 0) => ?_) (fun (b175 : ¬ (1 : Int32) = 0) => ?_)
                · exact absurd b175 (by decide)
                · refine Go.aload 188 rfl at_186 rfl rfl ?_
                  refine Go.iconst 189 rfl (4 : Int32) at_188 rfl ?_
                  refine Go.iload 191 rfl at_189 rfl ?_
                  refine Go.iloadN 192 rfl at_191 rfl ?_
                  refine Go.iloadN 193 rfl at_192 rfl ?_
                  refine Go.iloadN 194 rfl at_193 rfl ?_
                  refine Go.callS 197 rfl (C := B8) [.ref t, .int (4 : Int32), .int (2 : Int32), .int va, .int pa, .int pb] (rest := []) 41 42 43 44 (c8 Z hw h142 t (4 : Int32) (2 : Int32) va pa pb (nar .byte (XT.ushr va (8 : Int32)).toInt8.toInt32) (.int (nar .byte (XT.ushr pa (24 : Int32)).toInt8.toInt32) :: .int (nar .byte (XT.ushr pa (16 : Int32)).toInt8.toInt32) :: .int (nar .byte (XT.ushr va (24 : Int32)).toInt8.toInt32) :: .int (nar .byte (XT.ushr va (16 : Int32)).toInt8.toInt32) :: .int (nar .byte (XT.ushr va (8 : Int32)).toInt8.toInt32) :: .int (nar .byte va.toInt8.toInt32) :: .int (nar .byte (XT.ushr pb (8 : Int32)).toInt8.toInt32) :: .int (nar .byte pb.toInt8.toInt32) :: r) A146 4 rfl rfl) at_194 rfl rfl rfl rfl (by decide) pd8 rfl rfl rfl (W := 0) (Nat.le_of_ble_eq_true rfl) (by decide) (by decide) (by decide) (by decide) fun v176 h177 q178 => ?_
                  obtain ⟨rfl, rfl⟩ := q178
                  refine Go.eqI (w := 1) (if_pos (own_s8 _)) ?_
                  refine Go.if_eq 248 200 at_197 (by decide) rfl rfl (fun (b179 : (1 : Int32) = 0) => ?_) (fun (b179 : ¬ (1 : Int32) = 0) => ?_)
                  · exact absurd b179 (by decide)
                  · refine Go.aload 202 rfl at_200 rfl rfl ?_
                    refine Go.iconst 203 rfl (5 : Int32) at_202 rfl ?_
                    refine Go.iload 205 rfl at_203 rfl ?_
                    refine Go.iloadN 206 rfl at_205 rfl ?_
                    refine Go.iloadN 207 rfl at_206 rfl ?_
                    refine Go.iloadN 208 rfl at_207 rfl ?_
                    refine Go.callS 211 rfl (C := B8) [.ref t, .int (5 : Int32), .int (2 : Int32), .int va, .int pa, .int pb] (rest := []) 41 42 43 44 (c8 Z hw h142 t (5 : Int32) (2 : Int32) va pa pb (nar .byte va.toInt8.toInt32) (.int (nar .byte (XT.ushr pa (24 : Int32)).toInt8.toInt32) :: .int (nar .byte (XT.ushr pa (16 : Int32)).toInt8.toInt32) :: .int (nar .byte (XT.ushr va (24 : Int32)).toInt8.toInt32) :: .int (nar .byte (XT.ushr va (16 : Int32)).toInt8.toInt32) :: .int (nar .byte (XT.ushr va (8 : Int32)).toInt8.toInt32) :: .int (nar .byte va.toInt8.toInt32) :: .int (nar .byte (XT.ushr pb (8 : Int32)).toInt8.toInt32) :: .int (nar .byte pb.toInt8.toInt32) :: r) A146 5 rfl rfl) at_208 rfl rfl rfl rfl (by decide) pd8 rfl rfl rfl (W := 0) (Nat.le_of_ble_eq_true rfl) (by decide) (by decide) (by decide) (by decide) fun v180 h181 q182 => ?_
                    obtain ⟨rfl, rfl⟩ := q182
                    refine Go.eqI (w := 1) (if_pos (own_s0 _)) ?_
                    refine Go.if_eq 248 214 at_211 (by decide) rfl rfl (fun (b183 : (1 : Int32) = 0) => ?_) (fun (b183 : ¬ (1 : Int32) = 0) => ?_)
                    · exact absurd b183 (by decide)
                    · refine Go.aload 216 rfl at_214 rfl rfl ?_
                      refine Go.bipush 218 rfl (6 : Int32) at_216 rfl ?_
                      refine Go.iload 220 rfl at_218 rfl ?_
                      refine Go.iloadN 221 rfl at_220 rfl ?_
                      refine Go.iloadN 222 rfl at_221 rfl ?_
                      refine Go.iloadN 223 rfl at_222 rfl ?_
                      refine Go.callS 226 rfl (C := B8) [.ref t, .int (6 : Int32), .int (2 : Int32), .int va, .int pa, .int pb] (rest := []) 41 42 43 44 (c8 Z hw h142 t (6 : Int32) (2 : Int32) va pa pb (nar .byte (XT.ushr pb (8 : Int32)).toInt8.toInt32) (.int (nar .byte (XT.ushr pa (24 : Int32)).toInt8.toInt32) :: .int (nar .byte (XT.ushr pa (16 : Int32)).toInt8.toInt32) :: .int (nar .byte (XT.ushr va (24 : Int32)).toInt8.toInt32) :: .int (nar .byte (XT.ushr va (16 : Int32)).toInt8.toInt32) :: .int (nar .byte (XT.ushr va (8 : Int32)).toInt8.toInt32) :: .int (nar .byte va.toInt8.toInt32) :: .int (nar .byte (XT.ushr pb (8 : Int32)).toInt8.toInt32) :: .int (nar .byte pb.toInt8.toInt32) :: r) A146 6 rfl rfl) at_223 rfl rfl rfl rfl (by decide) pd8 rfl rfl rfl (W := 0) (Nat.le_of_ble_eq_true rfl) (by decide) (by decide) (by decide) (by decide) fun v184 h185 q186 => ?_
                      obtain ⟨rfl, rfl⟩ := q186
                      refine Go.eqI (w := 1) (if_pos (own_s8 _)) ?_
                      refine Go.if_eq 248 229 at_226 (by decide) rfl rfl (fun (b187 : (1 : Int32) = 0) => ?_) (fun (b187 : ¬ (1 : Int32) = 0) => ?_)
                      · exact absurd b187 (by decide)
                      · refine Go.aload 231 rfl at_229 rfl rfl ?_
                        refine Go.bipush 233 rfl (7 : Int32) at_231 rfl ?_
                        refine Go.iload 235 rfl at_233 rfl ?_
                        refine Go.iloadN 236 rfl at_235 rfl ?_
                        refine Go.iloadN 237 rfl at_236 rfl ?_
                        refine Go.iloadN 238 rfl at_237 rfl ?_
                        refine Go.callS 241 rfl (C := B8) [.ref t, .int (7 : Int32), .int (2 : Int32), .int va, .int pa, .int pb] (rest := []) 41 42 43 44 (c8 Z hw h142 t (7 : Int32) (2 : Int32) va pa pb (nar .byte pb.toInt8.toInt32) (.int (nar .byte (XT.ushr pa (24 : Int32)).toInt8.toInt32) :: .int (nar .byte (XT.ushr pa (16 : Int32)).toInt8.toInt32) :: .int (nar .byte (XT.ushr va (24 : Int32)).toInt8.toInt32) :: .int (nar .byte (XT.ushr va (16 : Int32)).toInt8.toInt32) :: .int (nar .byte (XT.ushr va (8 : Int32)).toInt8.toInt32) :: .int (nar .byte va.toInt8.toInt32) :: .int (nar .byte (XT.ushr pb (8 : Int32)).toInt8.toInt32) :: .int (nar .byte pb.toInt8.toInt32) :: r) A146 7 rfl rfl) at_238 rfl rfl rfl rfl (by decide) pd8 rfl rfl rfl (W := 0) (Nat.le_of_ble_eq_true rfl) (by decide) (by decide) (by decide) (by decide) fun v188 h189 q190 => ?_
                        obtain ⟨rfl, rfl⟩ := q190
                        refine Go.eqI (w := 1) (if_pos (own_s0 _)) ?_
                        refine Go.if_eq 248 244 at_241 (by decide) rfl rfl (fun (b191 : (1 : Int32) = 0) => ?_) (fun (b191 : ¬ (1 : Int32) = 0) => ?_)
                        · exact absurd b191 (by decide)
                        · refine Go.iconst 245 rfl (1 : Int32) at_244 rfl ?_
                          refine Go.goto 249 at_245 (by decide) (by decide) ?_
                          exact Go.retN (t := .boolean) (z' := (1 : Int32)) at_249 rfl (by decide) rfl (by decide) (by decide) rfl
        · exact absurd (hv158.symm.trans (own_got va)) b159
      · exact absurd b157 (by decide)
    · exact absurd rfl b152
  · refine Go.aload 31 rfl at_29 rfl rfl ?_
    refine Go.iload 33 rfl at_31 rfl ?_
    refine Go.iloadN 34 rfl at_33 rfl ?_
    refine Go.callV 37 rfl (C := B5) a2 [.int (3 : Int32), .int va] (rest := []) 26 27 29 28 3 30 (c5 Z hw h30 a2 (3 : Int32) va t 3 (.int (nar .byte (XT.ushr pa (24 : Int32)).toInt8.toInt32) :: .int (nar .byte (XT.ushr pa (16 : Int32)).toInt8.toInt32) :: .int (nar .byte (XT.ushr pa (8 : Int32)).toInt8.toInt32) :: .int (nar .byte pa.toInt8.toInt32) :: .int (nar .byte (XT.ushr pb (24 : Int32)).toInt8.toInt32) :: .int (nar .byte (XT.ushr pb (16 : Int32)).toInt8.toInt32) :: .int (nar .byte (XT.ushr pb (8 : Int32)).toInt8.toInt32) :: .int (nar .byte pb.toInt8.toInt32) :: r) gt hne F33 A37 (by simp [e13]) (by decide) rfl rfl rfl rfl) F38 at_34 rfl rfl rfl rfl rfl rfl (by decide) pd5 rfl rfl rfl (W := 0) (Nat.le_of_ble_eq_true rfl) (by decide) (by decide) (by decide) (by decide) fun v192 h193 q194 => ?_
    obtain ⟨rfl, K195, A196⟩ := q194
    have A197 : Ary Z h193 t .byte (.int (nar .byte (XT.ushr pa (24 : Int32)).toInt8.toInt32) :: .int (nar .byte (XT.ushr pa (16 : Int32)).toInt8.toInt32) :: .int (nar .byte (XT.ushr pa (8 : Int32)).toInt8.toInt32) :: .int (nar .byte (XT.ushr va (24 : Int32)).toInt8.toInt32) :: .int (nar .byte (XT.ushr va (16 : Int32)).toInt8.toInt32) :: .int (nar .byte (XT.ushr va (8 : Int32)).toInt8.toInt32) :: .int (nar .byte va.toInt8.toInt32) :: .int (nar .byte pb.toInt8.toInt32) :: r) := A196
    refine Go.aload 39 rfl at_37 rfl rfl ?_
    have F198 : Fld Z h193 a2 "locuscope/io/Bytes" "size" "I" (.int (8 : Int32)) := (F36.keep K195 (ninS hne nin0))
    have F202 : Exa Z h193 a2 "locuscope/io/Bytes" := (F38.keep K195)
    refine Go.callV 42 rfl (C := B6) a2 [] (rest := []) 31 32 34 33 3 35 (c6 Z hw h193 a2 (8 : Int32) F198) F202 at_39 rfl rfl rfl rfl rfl rfl (by decide) pd6 rfl rfl rfl (W := 0) (Nat.le_of_ble_eq_true rfl) (by decide) (by decide) (by decide) (by decide) fun v199 h200 q201 => ?_
    obtain ⟨rfl, rfl⟩ := q201
    refine Go.bipush 44 rfl (8 : Int32) at_42 rfl ?_
    refine Go.icmp_eq 49 47 at_44 (by decide) rfl rfl (fun (b203 : (8 : Int32) = (8 : Int32)) => ?_) (fun (b203 : ¬ (8 : Int32) = (8 : Int32)) => ?_)
    · refine Go.aload 51 rfl at_49 rfl rfl ?_
      have F204 : Fld Z h193 a2 "locuscope/io/Bytes" "bytes" "[B" (.ref t) := (F33.keep K195 (ninS hne nin0))
      refine Go.callV 54 rfl (C := B7) a2 [] (rest := []) 36 37 39 38 3 40 (c7 Z hw h193 a2 t F204) F202 at_51 rfl rfl rfl rfl rfl rfl (by decide) pd7 rfl rfl rfl (W := 0) (Nat.le_of_ble_eq_true rfl) (by decide) (by decide) (by decide) (by decide) fun v205 h206 q207 => ?_
      obtain ⟨rfl, rfl⟩ := q207
      refine Go.astore 56 rfl at_54 rfl (Ls' := #[.val (.int at'), .val (.int va), .val (.int pa), .val (.int pb), .val (.int (3 : Int32)), .val (.ref a2), .val (.ref t), .unset]) rfl ?_
      refine Go.aload 58 rfl at_56 rfl rfl ?_
      refine Go.alen 59 rfl (65536 : Int32) at_58 A197 (by simp [e13]) ?_
      refine Go.bipush 61 rfl (8 : Int32) at_59 rfl ?_
      refine Go.icmp_ge 66 64 at_61 (by decide) rfl rfl (fun (b208 : ¬ (65536 : Int32) < (8 : Int32)) => ?_) (fun (b208 : (65536 : Int32) < (8 : Int32)) => ?_)
      · refine Go.aload 68 rfl at_66 rfl rfl ?_
        refine Go.iload 70 rfl at_68 rfl ?_
        refine Go.baload 71 rfl (nar .byte (XT.ushr va (24 : Int32)).toInt8.toInt32) at_70 A197 3 rfl rfl ?_
        refine Go.sipush 74 rfl (255 : Int32) at_71 rfl ?_
        refine Go.iand 75 rfl at_74 ?_
        refine Go.bipush 77 rfl (24 : Int32) at_75 rfl ?_
        refine Go.ishl 78 rfl at_77 ?_
        refine Go.aload 80 rfl at_78 rfl rfl ?_
        refine Go.iload 82 rfl at_80 rfl ?_
        refine Go.iconst 83 rfl (1 : Int32) at_82 rfl ?_
        refine Go.iadd 84 rfl at_83 ?_
        refine Go.baload 85 rfl (nar .byte (XT.ushr va (16 : Int32)).toInt8.toInt32) at_84 A197 4 rfl rfl ?_
        refine Go.sipush 88 rfl (255 : Int32) at_85 rfl ?_
        refine Go.iand 89 rfl at_88 ?_
        refine Go.bipush 91 rfl (16 : Int32) at_89 rfl ?_
        refine Go.ishl 92 rfl at_91 ?_
        refine Go.ior 93 rfl at_92 ?_
        refine Go.aload 95 rfl at_93 rfl rfl ?_
        refine Go.iload 97 rfl at_95 rfl ?_
        refine Go.iconst 98 rfl (2 : Int32) at_97 rfl ?_
        refine Go.iadd 99 rfl at_98 ?_
        refine Go.baload 100 rfl (nar .byte (XT.ushr va (8 : Int32)).toInt8.toInt32) at_99 A197 5 rfl rfl ?_
        refine Go.sipush 103 rfl (255 : Int32) at_100 rfl ?_
        refine Go.iand 104 rfl at_103 ?_
        refine Go.bipush 106 rfl (8 : Int32) at_104 rfl ?_
        refine Go.ishl 107 rfl at_106 ?_
        refine Go.ior 108 rfl at_107 ?_
        refine Go.aload 110 rfl at_108 rfl rfl ?_
        refine Go.iload 112 rfl at_110 rfl ?_
        refine Go.iconst 113 rfl (3 : Int32) at_112 rfl ?_
        refine Go.iadd 114 rfl at_113 ?_
        refine Go.baload 115 rfl (nar .byte va.toInt8.toInt32) at_114 A197 6 rfl rfl ?_
        refine Go.sipush 118 rfl (255 : Int32) at_115 rfl ?_
        refine Go.iand 119 rfl at_118 ?_
        refine Go.ior 120 rfl at_119 ?_
        refine Go.nameI fun v209 hv209 => ?_
        refine Go.istore 122 rfl at_120 (Ls' := #[.val (.int at'), .val (.int va), .val (.int pa), .val (.int pb), .val (.int (3 : Int32)), .val (.ref a2), .val (.ref t), .val (.int v209)]) rfl ?_
        refine Go.iload 124 rfl at_122 rfl ?_
        refine Go.iloadN 125 rfl at_124 rfl ?_
        refine Go.icmp_eq 130 128 at_125 (by decide) rfl rfl (fun (b210 : v209 = va) => ?_) (fun (b210 : ¬ v209 = va) => ?_)
        · refine Go.aload 132 rfl at_130 rfl rfl ?_
          refine Go.iconst 133 rfl (0 : Int32) at_132 rfl ?_
          refine Go.iload 135 rfl at_133 rfl ?_
          refine Go.iloadN 136 rfl at_135 rfl ?_
          refine Go.iloadN 137 rfl at_136 rfl ?_
          refine Go.iloadN 138 rfl at_137 rfl ?_
          refine Go.callS 141 rfl (C := B8) [.ref t, .int (0 : Int32), .int (3 : Int32), .int va, .int pa, .int pb] (rest := []) 41 42 43 44 (c8 Z hw h193 t (0 : Int32) (3 : Int32) va pa pb (nar .byte (XT.ushr pa (24 : Int32)).toInt8.toInt32) (.int (nar .byte (XT.ushr pa (24 : Int32)).toInt8.toInt32) :: .int (nar .byte (XT.ushr pa (16 : Int32)).toInt8.toInt32) :: .int (nar .byte (XT.ushr pa (8 : Int32)).toInt8.toInt32) :: .int (nar .byte (XT.ushr va (24 : Int32)).toInt8.toInt32) :: .int (nar .byte (XT.ushr va (16 : Int32)).toInt8.toInt32) :: .int (nar .byte (XT.ushr va (8 : Int32)).toInt8.toInt32) :: .int (nar .byte va.toInt8.toInt32) :: .int (nar .byte pb.toInt8.toInt32) :: r) A197 0 rfl rfl) at_138 rfl rfl rfl rfl (by decide) pd8 rfl rfl rfl (W := 0) (Nat.le_of_ble_eq_true rfl) (by decide) (by decide) (by decide) (by decide) fun v211 h212 q213 => ?_
          obtain ⟨rfl, rfl⟩ := q213
          refine Go.eqI (w := 1) (if_pos (own_s24 _)) ?_
          refine Go.if_eq 248 144 at_141 (by decide) rfl rfl (fun (b214 : (1 : Int32) = 0) => ?_) (fun (b214 : ¬ (1 : Int32) = 0) => ?_)
          · exact absurd b214 (by decide)
          · refine Go.aload 146 rfl at_144 rfl rfl ?_
            refine Go.iconst 147 rfl (1 : Int32) at_146 rfl ?_
            refine Go.iload 149 rfl at_147 rfl ?_
            refine Go.iloadN 150 rfl at_149 rfl ?_
            refine Go.iloadN 151 rfl at_150 rfl ?_
            refine Go.iloadN 152 rfl at_151 rfl ?_
            refine Go.callS 155 rfl (C := B8) [.ref t, .int (1 : Int32), .int (3 : Int32), .int va, .int pa, .int pb] (rest := []) 41 42 43 44 (c8 Z hw h193 t (1 : Int32) (3 : Int32) va pa pb (nar .byte (XT.ushr pa (16 : Int32)).toInt8.toInt32) (.int (nar .byte (XT.ushr pa (24 : Int32)).toInt8.toInt32) :: .int (nar .byte (XT.ushr pa (16 : Int32)).toInt8.toInt32) :: .int (nar .byte (XT.ushr pa (8 : Int32)).toInt8.toInt32) :: .int (nar .byte (XT.ushr va (24 : Int32)).toInt8.toInt32) :: .int (nar .byte (XT.ushr va (16 : Int32)).toInt8.toInt32) :: .int (nar .byte (XT.ushr va (8 : Int32)).toInt8.toInt32) :: .int (nar .byte va.toInt8.toInt32) :: .int (nar .byte pb.toInt8.toInt32) :: r) A197 1 rfl rfl) at_152 rfl rfl rfl rfl (by decide) pd8 rfl rfl rfl (W := 0) (Nat.le_of_ble_eq_true rfl) (by decide) (by decide) (by decide) (by decide) fun v215 h216 q217 => ?_
            obtain ⟨rfl, rfl⟩ := q217
            refine Go.eqI (w := 1) (if_pos (own_s16 _)) ?_
            refine Go.if_eq 248 158 at_155 (by decide) rfl rfl (fun (b218 : (1 : Int32) = 0) => ?_) (fun (b218 : ¬ (1 : Int32) = 0) => ?_)
            · exact absurd b218 (by decide)
            · refine Go.aload 160 rfl at_158 rfl rfl ?_
              refine Go.iconst 161 rfl (2 : Int32) at_160 rfl ?_
              refine Go.iload 163 rfl at_161 rfl ?_
              refine Go.iloadN 164 rfl at_163 rfl ?_
              refine Go.iloadN 165 rfl at_164 rfl ?_
              refine Go.iloadN 166 rfl at_165 rfl ?_
              refine Go.callS 169 rfl (C := B8) [.ref t, .int (2 : Int32), .int (3 : Int32), .int va, .int pa, .int pb] (rest := []) 41 42 43 44 (c8 Z hw h193 t (2 : Int32) (3 : Int32) va pa pb (nar .byte (XT.ushr pa (8 : Int32)).toInt8.toInt32) (.int (nar .byte (XT.ushr pa (24 : Int32)).toInt8.toInt32) :: .int (nar .byte (XT.ushr pa (16 : Int32)).toInt8.toInt32) :: .int (nar .byte (XT.ushr pa (8 : Int32)).toInt8.toInt32) :: .int (nar .byte (XT.ushr va (24 : Int32)).toInt8.toInt32) :: .int (nar .byte (XT.ushr va (16 : Int32)).toInt8.toInt32) :: .int (nar .byte (XT.ushr va (8 : Int32)).toInt8.toInt32) :: .int (nar .byte va.toInt8.toInt32) :: .int (nar .byte pb.toInt8.toInt32) :: r) A197 2 rfl rfl) at_166 rfl rfl rfl rfl (by decide) pd8 rfl rfl rfl (W := 0) (Nat.le_of_ble_eq_true rfl) (by decide) (by decide) (by decide) (by decide) fun v219 h220 q221 => ?_
              obtain ⟨rfl, rfl⟩ := q221
              refine Go.eqI (w := 1) (if_pos (own_s8 _)) ?_
              refine Go.if_eq 248 172 at_169 (by decide) rfl rfl (fun (b222 : (1 : Int32) = 0) => ?_) (fun (b222 : ¬ (1 : Int32) = 0) => ?_)
              · exact absurd b222 (by decide)
              · refine Go.aload 174 rfl at_172 rfl rfl ?_
                refine Go.iconst 175 rfl (3 : Int32) at_174 rfl ?_
                refine Go.iload 177 rfl at_175 rfl ?_
                refine Go.iloadN 178 rfl at_177 rfl ?_
                refine Go.iloadN 179 rfl at_178 rfl ?_
                refine Go.iloadN 180 rfl at_179 rfl ?_
                refine Go.callS 183 rfl (C := B8) [.ref t, .int (3 : Int32), .int (3 : Int32), .int va, .int pa, .int pb] (rest := []) 41 42 43 44 (c8 Z hw h193 t (3 : Int32) (3 : Int32) va pa pb (nar .byte (XT.ushr va (24 : Int32)).toInt8.toInt32) (.int (nar .byte (XT.ushr pa (24 : Int32)).toInt8.toInt32) :: .int (nar .byte (XT.ushr pa (16 : Int32)).toInt8.toInt32) :: .int (nar .byte (XT.ushr pa (8 : Int32)).toInt8.toInt32) :: .int (nar .byte (XT.ushr va (24 : Int32)).toInt8.toInt32) :: .int (nar .byte (XT.ushr va (16 : Int32)).toInt8.toInt32) :: .int (nar .byte (XT.ushr va (8 : Int32)).toInt8.toInt32) :: .int (nar .byte va.toInt8.toInt32) :: .int (nar .byte pb.toInt8.toInt32) :: r) A197 3 rfl rfl) at_180 rfl rfl rfl rfl (by decide) pd8 rfl rfl rfl (W := 0) (Nat.le_of_ble_eq_true rfl) (by decide) (by decide) (by decide) (by decide) fun v223 h224 q225 => ?_
                obtain ⟨rfl, rfl⟩ := q225
                refine Go.eqI (w := 1) (if_pos (own_s24 _)) ?_
                refine Go.if_eq 248 186 at_183 (by decide) rfl rfl (fun (b226 : (1 : Int32) = 0) => ?_) (fun (b226 : ¬ (1 : Int32) = 0) => ?_)
                · exact absurd b226 (by decide)
                · refine Go.aload 188 rfl at_186 rfl rfl ?_
                  refine Go.iconst 189 rfl (4 : Int32) at_188 rfl ?_
                  refine Go.iload 191 rfl at_189 rfl ?_
                  refine Go.iloadN 192 rfl at_191 rfl ?_
                  refine Go.iloadN 193 rfl at_192 rfl ?_
                  refine Go.iloadN 194 rfl at_193 rfl ?_
                  refine Go.callS 197 rfl (C := B8) [.ref t, .int (4 : Int32), .int (3 : Int32), .int va, .int pa, .int pb] (rest := []) 41 42 43 44 (c8 Z hw h193 t (4 : Int32) (3 : Int32) va pa pb (nar .byte (XT.ushr va (16 : Int32)).toInt8.toInt32) (.int (nar .byte (XT.ushr pa (24 : Int32)).toInt8.toInt32) :: .int (nar .byte (XT.ushr pa (16 : Int32)).toInt8.toInt32) :: .int (nar .byte (XT.ushr pa (8 : Int32)).toInt8.toInt32) :: .int (nar .byte (XT.ushr va (24 : Int32)).toInt8.toInt32) :: .int (nar .byte (XT.ushr va (16 : Int32)).toInt8.toInt32) :: .int (nar .byte (XT.ushr va (8 : Int32)).toInt8.toInt32) :: .int (nar .byte va.toInt8.toInt32) :: .int (nar .byte pb.toInt8.toInt32) :: r) A197 4 rfl rfl) at_194 rfl rfl rfl rfl (by decide) pd8 rfl rfl rfl (W := 0) (Nat.le_of_ble_eq_true rfl) (by decide) (by decide) (by decide) (by decide) fun v227 h228 q229 => ?_
                  obtain ⟨rfl, rfl⟩ := q229
                  refine Go.eqI (w := 1) (if_pos (own_s16 _)) ?_
                  refine Go.if_eq 248 200 at_197 (by decide) rfl rfl (fun (b230 : (1 : Int32) = 0) => ?_) (fun (b230 : ¬ (1 : Int32) = 0) => ?_)
                  · exact absurd b230 (by decide)
                  · refine Go.aload 202 rfl at_200 rfl rfl ?_
                    refine Go.iconst 203 rfl (5 : Int32) at_202 rfl ?_
                    refine Go.iload 205 rfl at_203 rfl ?_
                    refine Go.iloadN 206 rfl at_205 rfl ?_
                    refine Go.iloadN 207 rfl at_206 rfl ?_
                    refine Go.iloadN 208 rfl at_207 rfl ?_
                    refine Go.callS 211 rfl (C := B8) [.ref t, .int (5 : Int32), .int (3 : Int32), .int va, .int pa, .int pb] (rest := []) 41 42 43 44 (c8 Z hw h193 t (5 : Int32) (3 : Int32) va pa pb (nar .byte (XT.ushr va (8 : Int32)).toInt8.toInt32) (.int (nar .byte (XT.ushr pa (24 : Int32)).toInt8.toInt32) :: .int (nar .byte (XT.ushr pa (16 : Int32)).toInt8.toInt32) :: .int (nar .byte (XT.ushr pa (8 : Int32)).toInt8.toInt32) :: .int (nar .byte (XT.ushr va (24 : Int32)).toInt8.toInt32) :: .int (nar .byte (XT.ushr va (16 : Int32)).toInt8.toInt32) :: .int (nar .byte (XT.ushr va (8 : Int32)).toInt8.toInt32) :: .int (nar .byte va.toInt8.toInt32) :: .int (nar .byte pb.toInt8.toInt32) :: r) A197 5 rfl rfl) at_208 rfl rfl rfl rfl (by decide) pd8 rfl rfl rfl (W := 0) (Nat.le_of_ble_eq_true rfl) (by decide) (by decide) (by decide) (by decide) fun v231 h232 q233 => ?_
                    obtain ⟨rfl, rfl⟩ := q233
                    refine Go.eqI (w := 1) (if_pos (own_s8 _)) ?_
                    refine Go.if_eq 248 214 at_211 (by decide) rfl rfl (fun (b234 : (1 : Int32) = 0) => ?_) (fun (b234 : ¬ (1 : Int32) = 0) => ?_)
                    · exact absurd b234 (by decide)
                    · refine Go.aload 216 rfl at_214 rfl rfl ?_
                      refine Go.bipush 218 rfl (6 : Int32) at_216 rfl ?_
                      refine Go.iload 220 rfl at_218 rfl ?_
                      refine Go.iloadN 221 rfl at_220 rfl ?_
                      refine Go.iloadN 222 rfl at_221 rfl ?_
                      refine Go.iloadN 223 rfl at_222 rfl ?_
                      refine Go.callS 226 rfl (C := B8) [.ref t, .int (6 : Int32), .int (3 : Int32), .int va, .int pa, .int pb] (rest := []) 41 42 43 44 (c8 Z hw h193 t (6 : Int32) (3 : Int32) va pa pb (nar .byte va.toInt8.toInt32) (.int (nar .byte (XT.ushr pa (24 : Int32)).toInt8.toInt32) :: .int (nar .byte (XT.ushr pa (16 : Int32)).toInt8.toInt32) :: .int (nar .byte (XT.ushr pa (8 : Int32)).toInt8.toInt32) :: .int (nar .byte (XT.ushr va (24 : Int32)).toInt8.toInt32) :: .int (nar .byte (XT.ushr va (16 : Int32)).toInt8.toInt32) :: .int (nar .byte (XT.ushr va (8 : Int32)).toInt8.toInt32) :: .int (nar .byte va.toInt8.toInt32) :: .int (nar .byte pb.toInt8.toInt32) :: r) A197 6 rfl rfl) at_223 rfl rfl rfl rfl (by decide) pd8 rfl rfl rfl (W := 0) (Nat.le_of_ble_eq_true rfl) (by decide) (by decide) (by decide) (by decide) fun v235 h236 q237 => ?_
                      obtain ⟨rfl, rfl⟩ := q237
                      refine Go.eqI (w := 1) (if_pos (own_s0 _)) ?_
                      refine Go.if_eq 248 229 at_226 (by decide) rfl rfl (fun (b238 : (1 : Int32) = 0) => ?_) (fun (b238 : ¬ (1 : Int32) = 0) => ?_)
                      · exact absurd b238 (by decide)
                      · refine Go.aload 231 rfl at_229 rfl rfl ?_
                        refine Go.bipush 233 rfl (7 : Int32) at_231 rfl ?_
                        refine Go.iload 235 rfl at_233 rfl ?_
                        refine Go.iloadN 236 rfl at_235 rfl ?_
                        refine Go.iloadN 237 rfl at_236 rfl ?_
                        refine Go.iloadN 238 rfl at_237 rfl ?_
                        refine Go.callS 241 rfl (C := B8) [.ref t, .int (7 : Int32), .int (3 : Int32), .int va, .int pa, .int pb] (rest := []) 41 42 43 44 (c8 Z hw h193 t (7 : Int32) (3 : Int32) va pa pb (nar .byte pb.toInt8.toInt32) (.int (nar .byte (XT.ushr pa (24 : Int32)).toInt8.toInt32) :: .int (nar .byte (XT.ushr pa (16 : Int32)).toInt8.toInt32) :: .int (nar .byte (XT.ushr pa (8 : Int32)).toInt8.toInt32) :: .int (nar .byte (XT.ushr va (24 : Int32)).toInt8.toInt32) :: .int (nar .byte (XT.ushr va (16 : Int32)).toInt8.toInt32) :: .int (nar .byte (XT.ushr va (8 : Int32)).toInt8.toInt32) :: .int (nar .byte va.toInt8.toInt32) :: .int (nar .byte pb.toInt8.toInt32) :: r) A197 7 rfl rfl) at_238 rfl rfl rfl rfl (by decide) pd8 rfl rfl rfl (W := 0) (Nat.le_of_ble_eq_true rfl) (by decide) (by decide) (by decide) (by decide) fun v239 h240 q241 => ?_
                        obtain ⟨rfl, rfl⟩ := q241
                        refine Go.eqI (w := 1) (if_pos (own_s0 _)) ?_
                        refine Go.if_eq 248 244 at_241 (by decide) rfl rfl (fun (b242 : (1 : Int32) = 0) => ?_) (fun (b242 : ¬ (1 : Int32) = 0) => ?_)
                        · exact absurd b242 (by decide)
                        · refine Go.iconst 245 rfl (1 : Int32) at_244 rfl ?_
                          refine Go.goto 249 at_245 (by decide) (by decide) ?_
                          exact Go.retN (t := .boolean) (z' := (1 : Int32)) at_249 rfl (by decide) rfl (by decide) (by decide) rfl
        · exact absurd (hv209.symm.trans (own_got va)) b210
      · exact absurd b208 (by decide)
    · exact absurd rfl b203
  · refine Go.aload 31 rfl at_29 rfl rfl ?_
    refine Go.iload 33 rfl at_31 rfl ?_
    refine Go.iloadN 34 rfl at_33 rfl ?_
    refine Go.callV 37 rfl (C := B5) a2 [.int (4 : Int32), .int va] (rest := []) 26 27 29 28 3 30 (c5 Z hw h30 a2 (4 : Int32) va t 4 (.int (nar .byte (XT.ushr pa (24 : Int32)).toInt8.toInt32) :: .int (nar .byte (XT.ushr pa (16 : Int32)).toInt8.toInt32) :: .int (nar .byte (XT.ushr pa (8 : Int32)).toInt8.toInt32) :: .int (nar .byte pa.toInt8.toInt32) :: .int (nar .byte (XT.ushr pb (24 : Int32)).toInt8.toInt32) :: .int (nar .byte (XT.ushr pb (16 : Int32)).toInt8.toInt32) :: .int (nar .byte (XT.ushr pb (8 : Int32)).toInt8.toInt32) :: .int (nar .byte pb.toInt8.toInt32) :: r) gt hne F33 A37 (by simp [e13]) (by decide) rfl rfl rfl rfl) F38 at_34 rfl rfl rfl rfl rfl rfl (by decide) pd5 rfl rfl rfl (W := 0) (Nat.le_of_ble_eq_true rfl) (by decide) (by decide) (by decide) (by decide) fun v243 h244 q245 => ?_
    obtain ⟨rfl, K246, A247⟩ := q245
    have A248 : Ary Z h244 t .byte (.int (nar .byte (XT.ushr pa (24 : Int32)).toInt8.toInt32) :: .int (nar .byte (XT.ushr pa (16 : Int32)).toInt8.toInt32) :: .int (nar .byte (XT.ushr pa (8 : Int32)).toInt8.toInt32) :: .int (nar .byte pa.toInt8.toInt32) :: .int (nar .byte (XT.ushr va (24 : Int32)).toInt8.toInt32) :: .int (nar .byte (XT.ushr va (16 : Int32)).toInt8.toInt32) :: .int (nar .byte (XT.ushr va (8 : Int32)).toInt8.toInt32) :: .int (nar .byte va.toInt8.toInt32) :: r) := A247
    refine Go.aload 39 rfl at_37 rfl rfl ?_
    have F249 : Fld Z h244 a2 "locuscope/io/Bytes" "size" "I" (.int (8 : Int32)) := (F36.keep K246 (ninS hne nin0))
    have F253 : Exa Z h244 a2 "locuscope/io/Bytes" := (F38.keep K246)
    refine Go.callV 42 rfl (C := B6) a2 [] (rest := []) 31 32 34 33 3 35 (c6 Z hw h244 a2 (8 : Int32) F249) F253 at_39 rfl rfl rfl rfl rfl rfl (by decide) pd6 rfl rfl rfl (W := 0) (Nat.le_of_ble_eq_true rfl) (by decide) (by decide) (by decide) (by decide) fun v250 h251 q252 => ?_
    obtain ⟨rfl, rfl⟩ := q252
    refine Go.bipush 44 rfl (8 : Int32) at_42 rfl ?_
    refine Go.icmp_eq 49 47 at_44 (by decide) rfl rfl (fun (b254 : (8 : Int32) = (8 : Int32)) => ?_) (fun (b254 : ¬ (8 : Int32) = (8 : Int32)) => ?_)
    · refine Go.aload 51 rfl at_49 rfl rfl ?_
      have F255 : Fld Z h244 a2 "locuscope/io/Bytes" "bytes" "[B" (.ref t) := (F33.keep K246 (ninS hne nin0))
      refine Go.callV 54 rfl (C := B7) a2 [] (rest := []) 36 37 39 38 3 40 (c7 Z hw h244 a2 t F255) F253 at_51 rfl rfl rfl rfl rfl rfl (by decide) pd7 rfl rfl rfl (W := 0) (Nat.le_of_ble_eq_true rfl) (by decide) (by decide) (by decide) (by decide) fun v256 h257 q258 => ?_
      obtain ⟨rfl, rfl⟩ := q258
      refine Go.astore 56 rfl at_54 rfl (Ls' := #[.val (.int at'), .val (.int va), .val (.int pa), .val (.int pb), .val (.int (4 : Int32)), .val (.ref a2), .val (.ref t), .unset]) rfl ?_
      refine Go.aload 58 rfl at_56 rfl rfl ?_
      refine Go.alen 59 rfl (65536 : Int32) at_58 A248 (by simp [e13]) ?_
      refine Go.bipush 61 rfl (8 : Int32) at_59 rfl ?_
      refine Go.icmp_ge 66 64 at_61 (by decide) rfl rfl (fun (b259 : ¬ (65536 : Int32) < (8 : Int32)) => ?_) (fun (b259 : (65536 : Int32) < (8 : Int32)) => ?_)
      · refine Go.aload 68 rfl at_66 rfl rfl ?_
        refine Go.iload 70 rfl at_68 rfl ?_
        refine Go.baload 71 rfl (nar .byte (XT.ushr va (24 : Int32)).toInt8.toInt32) at_70 A248 4 rfl rfl ?_
        refine Go.sipush 74 rfl (255 : Int32) at_71 rfl ?_
        refine Go.iand 75 rfl at_74 ?_
        refine Go.bipush 77 rfl (24 : Int32) at_75 rfl ?_
        refine Go.ishl 78 rfl at_77 ?_
        refine Go.aload 80 rfl at_78 rfl rfl ?_
        refine Go.iload 82 rfl at_80 rfl ?_
        refine Go.iconst 83 rfl (1 : Int32) at_82 rfl ?_
        refine Go.iadd 84 rfl at_83 ?_
        refine Go.baload 85 rfl (nar .byte (XT.ushr va (16 : Int32)).toInt8.toInt32) at_84 A248 5 rfl rfl ?_
        refine Go.sipush 88 rfl (255 : Int32) at_85 rfl ?_
        refine Go.iand 89 rfl at_88 ?_
        refine Go.bipush 91 rfl (16 : Int32) at_89 rfl ?_
        refine Go.ishl 92 rfl at_91 ?_
        refine Go.ior 93 rfl at_92 ?_
        refine Go.aload 95 rfl at_93 rfl rfl ?_
        refine Go.iload 97 rfl at_95 rfl ?_
        refine Go.iconst 98 rfl (2 : Int32) at_97 rfl ?_
        refine Go.iadd 99 rfl at_98 ?_
        refine Go.baload 100 rfl (nar .byte (XT.ushr va (8 : Int32)).toInt8.toInt32) at_99 A248 6 rfl rfl ?_
        refine Go.sipush 103 rfl (255 : Int32) at_100 rfl ?_
        refine Go.iand 104 rfl at_103 ?_
        refine Go.bipush 106 rfl (8 : Int32) at_104 rfl ?_
        refine Go.ishl 107 rfl at_106 ?_
        refine Go.ior 108 rfl at_107 ?_
        refine Go.aload 110 rfl at_108 rfl rfl ?_
        refine Go.iload 112 rfl at_110 rfl ?_
        refine Go.iconst 113 rfl (3 : Int32) at_112 rfl ?_
        refine Go.iadd 114 rfl at_113 ?_
        refine Go.baload 115 rfl (nar .byte va.toInt8.toInt32) at_114 A248 7 rfl rfl ?_
        refine Go.sipush 118 rfl (255 : Int32) at_115 rfl ?_
        refine Go.iand 119 rfl at_118 ?_
        refine Go.ior 120 rfl at_119 ?_
        refine Go.nameI fun v260 hv260 => ?_
        refine Go.istore 122 rfl at_120 (Ls' := #[.val (.int at'), .val (.int va), .val (.int pa), .val (.int pb), .val (.int (4 : Int32)), .val (.ref a2), .val (.ref t), .val (.int v260)]) rfl ?_
        refine Go.iload 124 rfl at_122 rfl ?_
        refine Go.iloadN 125 rfl at_124 rfl ?_
        refine Go.icmp_eq 130 128 at_125 (by decide) rfl rfl (fun (b261 : v260 = va) => ?_) (fun (b261 : ¬ v260 = va) => ?_)
        · refine Go.aload 132 rfl at_130 rfl rfl ?_
          refine Go.iconst 133 rfl (0 : Int32) at_132 rfl ?_
          refine Go.iload 135 rfl at_133 rfl ?_
          refine Go.iloadN 136 rfl at_135 rfl ?_
          refine Go.iloadN 137 rfl at_136 rfl ?_
          refine Go.iloadN 138 rfl at_137 rfl ?_
          refine Go.callS 141 rfl (C := B8) [.ref t, .int (0 : Int32), .int (4 : Int32), .int va, .int pa, .int pb] (rest := []) 41 42 43 44 (c8 Z hw h244 t (0 : Int32) (4 : Int32) va pa pb (nar .byte (XT.ushr pa (24 : Int32)).toInt8.toInt32) (.int (nar .byte (XT.ushr pa (24 : Int32)).toInt8.toInt32) :: .int (nar .byte (XT.ushr pa (16 : Int32)).toInt8.toInt32) :: .int (nar .byte (XT.ushr pa (8 : Int32)).toInt8.toInt32) :: .int (nar .byte pa.toInt8.toInt32) :: .int (nar .byte (XT.ushr va (24 : Int32)).toInt8.toInt32) :: .int (nar .byte (XT.ushr va (16 : Int32)).toInt8.toInt32) :: .int (nar .byte (XT.ushr va (8 : Int32)).toInt8.toInt32) :: .int (nar .byte va.toInt8.toInt32) :: r) A248 0 rfl rfl) at_138 rfl rfl rfl rfl (by decide) pd8 rfl rfl rfl (W := 0) (Nat.le_of_ble_eq_true rfl) (by decide) (by decide) (by decide) (by decide) fun v262 h263 q264 => ?_
          obtain ⟨rfl, rfl⟩ := q264
          refine Go.eqI (w := 1) (if_pos (own_s24 _)) ?_
          refine Go.if_eq 248 144 at_141 (by decide) rfl rfl (fun (b265 : (1 : Int32) = 0) => ?_) (fun (b265 : ¬ (1 : Int32) = 0) => ?_)
          · exact absurd b265 (by decide)
          · refine Go.aload 146 rfl at_144 rfl rfl ?_
            refine Go.iconst 147 rfl (1 : Int32) at_146 rfl ?_
            refine Go.iload 149 rfl at_147 rfl ?_
            refine Go.iloadN 150 rfl at_149 rfl ?_
            refine Go.iloadN 151 rfl at_150 rfl ?_
            refine Go.iloadN 152 rfl at_151 rfl ?_
            refine Go.callS 155 rfl (C := B8) [.ref t, .int (1 : Int32), .int (4 : Int32), .int va, .int pa, .int pb] (rest := []) 41 42 43 44 (c8 Z hw h244 t (1 : Int32) (4 : Int32) va pa pb (nar .byte (XT.ushr pa (16 : Int32)).toInt8.toInt32) (.int (nar .byte (XT.ushr pa (24 : Int32)).toInt8.toInt32) :: .int (nar .byte (XT.ushr pa (16 : Int32)).toInt8.toInt32) :: .int (nar .byte (XT.ushr pa (8 : Int32)).toInt8.toInt32) :: .int (nar .byte pa.toInt8.toInt32) :: .int (nar .byte (XT.ushr va (24 : Int32)).toInt8.toInt32) :: .int (nar .byte (XT.ushr va (16 : Int32)).toInt8.toInt32) :: .int (nar .byte (XT.ushr va (8 : Int32)).toInt8.toInt32) :: .int (nar .byte va.toInt8.toInt32) :: r) A248 1 rfl rfl) at_152 rfl rfl rfl rfl (by decide) pd8 rfl rfl rfl (W := 0) (Nat.le_of_ble_eq_true rfl) (by decide) (by decide) (by decide) (by decide) fun v266 h267 q268 => ?_
            obtain ⟨rfl, rfl⟩ := q268
            refine Go.eqI (w := 1) (if_pos (own_s16 _)) ?_
            refine Go.if_eq 248 158 at_155 (by decide) rfl rfl (fun (b269 : (1 : Int32) = 0) => ?_) (fun (b269 : ¬ (1 : Int32) = 0) => ?_)
            · exact absurd b269 (by decide)
            · refine Go.aload 160 rfl at_158 rfl rfl ?_
              refine Go.iconst 161 rfl (2 : Int32) at_160 rfl ?_
              refine Go.iload 163 rfl at_161 rfl ?_
              refine Go.iloadN 164 rfl at_163 rfl ?_
              refine Go.iloadN 165 rfl at_164 rfl ?_
              refine Go.iloadN 166 rfl at_165 rfl ?_
              refine Go.callS 169 rfl (C := B8) [.ref t, .int (2 : Int32), .int (4 : Int32), .int va, .int pa, .int pb] (rest := []) 41 42 43 44 (c8 Z hw h244 t (2 : Int32) (4 : Int32) va pa pb (nar .byte (XT.ushr pa (8 : Int32)).toInt8.toInt32) (.int (nar .byte (XT.ushr pa (24 : Int32)).toInt8.toInt32) :: .int (nar .byte (XT.ushr pa (16 : Int32)).toInt8.toInt32) :: .int (nar .byte (XT.ushr pa (8 : Int32)).toInt8.toInt32) :: .int (nar .byte pa.toInt8.toInt32) :: .int (nar .byte (XT.ushr va (24 : Int32)).toInt8.toInt32) :: .int (nar .byte (XT.ushr va (16 : Int32)).toInt8.toInt32) :: .int (nar .byte (XT.ushr va (8 : Int32)).toInt8.toInt32) :: .int (nar .byte va.toInt8.toInt32) :: r) A248 2 rfl rfl) at_166 rfl rfl rfl rfl (by decide) pd8 rfl rfl rfl (W := 0) (Nat.le_of_ble_eq_true rfl) (by decide) (by decide) (by decide) (by decide) fun v270 h271 q272 => ?_
              obtain ⟨rfl, rfl⟩ := q272
              refine Go.eqI (w := 1) (if_pos (own_s8 _)) ?_
              refine Go.if_eq 248 172 at_169 (by decide) rfl rfl (fun (b273 : (1 : Int32) = 0) => ?_) (fun (b273 : ¬ (1 : Int32) = 0) => ?_)
              · exact absurd b273 (by decide)
              · refine Go.aload 174 rfl at_172 rfl rfl ?_
                refine Go.iconst 175 rfl (3 : Int32) at_174 rfl ?_
                refine Go.iload 177 rfl at_175 rfl ?_
                refine Go.iloadN 178 rfl at_177 rfl ?_
                refine Go.iloadN 179 rfl at_178 rfl ?_
                refine Go.iloadN 180 rfl at_179 rfl ?_
                refine Go.callS 183 rfl (C := B8) [.ref t, .int (3 : Int32), .int (4 : Int32), .int va, .int pa, .int pb] (rest := []) 41 42 43 44 (c8 Z hw h244 t (3 : Int32) (4 : Int32) va pa pb (nar .byte pa.toInt8.toInt32) (.int (nar .byte (XT.ushr pa (24 : Int32)).toInt8.toInt32) :: .int (nar .byte (XT.ushr pa (16 : Int32)).toInt8.toInt32) :: .int (nar .byte (XT.ushr pa (8 : Int32)).toInt8.toInt32) :: .int (nar .byte pa.toInt8.toInt32) :: .int (nar .byte (XT.ushr va (24 : Int32)).toInt8.toInt32) :: .int (nar .byte (XT.ushr va (16 : Int32)).toInt8.toInt32) :: .int (nar .byte (XT.ushr va (8 : Int32)).toInt8.toInt32) :: .int (nar .byte va.toInt8.toInt32) :: r) A248 3 rfl rfl) at_180 rfl rfl rfl rfl (by decide) pd8 rfl rfl rfl (W := 0) (Nat.le_of_ble_eq_true rfl) (by decide) (by decide) (by decide) (by decide) fun v274 h275 q276 => ?_
                obtain ⟨rfl, rfl⟩ := q276
                refine Go.eqI (w := 1) (if_pos (own_s0 _)) ?_
                refine Go.if_eq 248 186 at_183 (by decide) rfl rfl (fun (b277 : (1 : Int32) = 0) => ?_) (fun (b277 : ¬ (1 : Int32) = 0) => ?_)
                · exact absurd b277 (by decide)
                · refine Go.aload 188 rfl at_186 rfl rfl ?_
                  refine Go.iconst 189 rfl (4 : Int32) at_188 rfl ?_
                  refine Go.iload 191 rfl at_189 rfl ?_
                  refine Go.iloadN 192 rfl at_191 rfl ?_
                  refine Go.iloadN 193 rfl at_192 rfl ?_
                  refine Go.iloadN 194 rfl at_193 rfl ?_
                  refine Go.callS 197 rfl (C := B8) [.ref t, .int (4 : Int32), .int (4 : Int32), .int va, .int pa, .int pb] (rest := []) 41 42 43 44 (c8 Z hw h244 t (4 : Int32) (4 : Int32) va pa pb (nar .byte (XT.ushr va (24 : Int32)).toInt8.toInt32) (.int (nar .byte (XT.ushr pa (24 : Int32)).toInt8.toInt32) :: .int (nar .byte (XT.ushr pa (16 : Int32)).toInt8.toInt32) :: .int (nar .byte (XT.ushr pa (8 : Int32)).toInt8.toInt32) :: .int (nar .byte pa.toInt8.toInt32) :: .int (nar .byte (XT.ushr va (24 : Int32)).toInt8.toInt32) :: .int (nar .byte (XT.ushr va (16 : Int32)).toInt8.toInt32) :: .int (nar .byte (XT.ushr va (8 : Int32)).toInt8.toInt32) :: .int (nar .byte va.toInt8.toInt32) :: r) A248 4 rfl rfl) at_194 rfl rfl rfl rfl (by decide) pd8 rfl rfl rfl (W := 0) (Nat.le_of_ble_eq_true rfl) (by decide) (by decide) (by decide) (by decide) fun v278 h279 q280 => ?_
                  obtain ⟨rfl, rfl⟩ := q280
                  refine Go.eqI (w := 1) (if_pos (own_s24 _)) ?_
                  refine Go.if_eq 248 200 at_197 (by decide) rfl rfl (fun (b281 : (1 : Int32) = 0) => ?_) (fun (b281 : ¬ (1 : Int32) = 0) => ?_)
                  · exact absurd b281 (by decide)
                  · refine Go.aload 202 rfl at_200 rfl rfl ?_
                    refine Go.iconst 203 rfl (5 : Int32) at_202 rfl ?_
                    refine Go.iload 205 rfl at_203 rfl ?_
                    refine Go.iloadN 206 rfl at_205 rfl ?_
                    refine Go.iloadN 207 rfl at_206 rfl ?_
                    refine Go.iloadN 208 rfl at_207 rfl ?_
                    refine Go.callS 211 rfl (C := B8) [.ref t, .int (5 : Int32), .int (4 : Int32), .int va, .int pa, .int pb] (rest := []) 41 42 43 44 (c8 Z hw h244 t (5 : Int32) (4 : Int32) va pa pb (nar .byte (XT.ushr va (16 : Int32)).toInt8.toInt32) (.int (nar .byte (XT.ushr pa (24 : Int32)).toInt8.toInt32) :: .int (nar .byte (XT.ushr pa (16 : Int32)).toInt8.toInt32) :: .int (nar .byte (XT.ushr pa (8 : Int32)).toInt8.toInt32) :: .int (nar .byte pa.toInt8.toInt32) :: .int (nar .byte (XT.ushr va (24 : Int32)).toInt8.toInt32) :: .int (nar .byte (XT.ushr va (16 : Int32)).toInt8.toInt32) :: .int (nar .byte (XT.ushr va (8 : Int32)).toInt8.toInt32) :: .int (nar .byte va.toInt8.toInt32) :: r) A248 5 rfl rfl) at_208 rfl rfl rfl rfl (by decide) pd8 rfl rfl rfl (W := 0) (Nat.le_of_ble_eq_true rfl) (by decide) (by decide) (by decide) (by decide) fun v282 h283 q284 => ?_
                    obtain ⟨rfl, rfl⟩ := q284
                    refine Go.eqI (w := 1) (if_pos (own_s16 _)) ?_
                    refine Go.if_eq 248 214 at_211 (by decide) rfl rfl (fun (b285 : (1 : Int32) = 0) => ?_) (fun (b285 : ¬ (1 : Int32) = 0) => ?_)
                    · exact absurd b285 (by decide)
                    · refine Go.aload 216 rfl at_214 rfl rfl ?_
                      refine Go.bipush 218 rfl (6 : Int32) at_216 rfl ?_
                      refine Go.iload 220 rfl at_218 rfl ?_
                      refine Go.iloadN 221 rfl at_220 rfl ?_
                      refine Go.iloadN 222 rfl at_221 rfl ?_
                      refine Go.iloadN 223 rfl at_222 rfl ?_
                      refine Go.callS 226 rfl (C := B8) [.ref t, .int (6 : Int32), .int (4 : Int32), .int va, .int pa, .int pb] (rest := []) 41 42 43 44 (c8 Z hw h244 t (6 : Int32) (4 : Int32) va pa pb (nar .byte (XT.ushr va (8 : Int32)).toInt8.toInt32) (.int (nar .byte (XT.ushr pa (24 : Int32)).toInt8.toInt32) :: .int (nar .byte (XT.ushr pa (16 : Int32)).toInt8.toInt32) :: .int (nar .byte (XT.ushr pa (8 : Int32)).toInt8.toInt32) :: .int (nar .byte pa.toInt8.toInt32) :: .int (nar .byte (XT.ushr va (24 : Int32)).toInt8.toInt32) :: .int (nar .byte (XT.ushr va (16 : Int32)).toInt8.toInt32) :: .int (nar .byte (XT.ushr va (8 : Int32)).toInt8.toInt32) :: .int (nar .byte va.toInt8.toInt32) :: r) A248 6 rfl rfl) at_223 rfl rfl rfl rfl (by decide) pd8 rfl rfl rfl (W := 0) (Nat.le_of_ble_eq_true rfl) (by decide) (by decide) (by decide) (by decide) fun v286 h287 q288 => ?_
                      obtain ⟨rfl, rfl⟩ := q288
                      refine Go.eqI (w := 1) (if_pos (own_s8 _)) ?_
                      refine Go.if_eq 248 229 at_226 (by decide) rfl rfl (fun (b289 : (1 : Int32) = 0) => ?_) (fun (b289 : ¬ (1 : Int32) = 0) => ?_)
                      · exact absurd b289 (by decide)
                      · refine Go.aload 231 rfl at_229 rfl rfl ?_
                        refine Go.bipush 233 rfl (7 : Int32) at_231 rfl ?_
                        refine Go.iload 235 rfl at_233 rfl ?_
                        refine Go.iloadN 236 rfl at_235 rfl ?_
                        refine Go.iloadN 237 rfl at_236 rfl ?_
                        refine Go.iloadN 238 rfl at_237 rfl ?_
                        refine Go.callS 241 rfl (C := B8) [.ref t, .int (7 : Int32), .int (4 : Int32), .int va, .int pa, .int pb] (rest := []) 41 42 43 44 (c8 Z hw h244 t (7 : Int32) (4 : Int32) va pa pb (nar .byte va.toInt8.toInt32) (.int (nar .byte (XT.ushr pa (24 : Int32)).toInt8.toInt32) :: .int (nar .byte (XT.ushr pa (16 : Int32)).toInt8.toInt32) :: .int (nar .byte (XT.ushr pa (8 : Int32)).toInt8.toInt32) :: .int (nar .byte pa.toInt8.toInt32) :: .int (nar .byte (XT.ushr va (24 : Int32)).toInt8.toInt32) :: .int (nar .byte (XT.ushr va (16 : Int32)).toInt8.toInt32) :: .int (nar .byte (XT.ushr va (8 : Int32)).toInt8.toInt32) :: .int (nar .byte va.toInt8.toInt32) :: r) A248 7 rfl rfl) at_238 rfl rfl rfl rfl (by decide) pd8 rfl rfl rfl (W := 0) (Nat.le_of_ble_eq_true rfl) (by decide) (by decide) (by decide) (by decide) fun v290 h291 q292 => ?_
                        obtain ⟨rfl, rfl⟩ := q292
                        refine Go.eqI (w := 1) (if_pos (own_s0 _)) ?_
                        refine Go.if_eq 248 244 at_241 (by decide) rfl rfl (fun (b293 : (1 : Int32) = 0) => ?_) (fun (b293 : ¬ (1 : Int32) = 0) => ?_)
                        · exact absurd b293 (by decide)
                        · refine Go.iconst 245 rfl (1 : Int32) at_244 rfl ?_
                          refine Go.goto 249 at_245 (by decide) (by decide) ?_
                          exact Go.retN (t := .boolean) (z' := (1 : Int32)) at_249 rfl (by decide) rfl (by decide) (by decide) rfl
        · exact absurd (hv260.symm.trans (own_got va)) b261
      · exact absurd b259 (by decide)
    · exact absurd rfl b254
set_option maxRecDepth 65536 in
set_option maxHeartbeats 40000000 in
theorem comes_1 {Post : Tables → Env → Array Value → State → Outcome → State → Prop} (hpost : ∀ tb e args s v u, (limb_1_1.after args s (.returned v) u = true ∧ limb_1_2.after args s (.returned v) u = true ∧ True) → FrameEnd s (.returned v) u (Jvm.fieldLocs frame_1_writes args s ++ Jvm.arrayLocs frame_1_arrays args s ++ Jvm.staticLocs frame_1_statics s) 16 131200 → Post tb e args s (.returned v) u) :
    ArmFor flags0 classFile x code maxLocals ret World_1 tables_1 room_1 Calls_1 rest_1 Pre_1 Post := by
  intro l hfl _ _ p e ha hc hk s m args below hf hA hF happ hP
  obtain ⟨hcalls, hrest, hpre⟩ := hP
  obtain ⟨-, -, -, hnamed, -, -, -, hat⟩ := (Spec.applies_iff hf).mp happ
  obtain ⟨hg, hn⟩ := and_e (Cond.before_iff.mp (show (Jvm.Cond.and given_1 narrow_1).before args s = true from hpre))
  obtain ⟨hg1, hg2⟩ := and_e hg
  obtain ⟨w0, w1, w2, w3, rfl⟩ : ∃ w0 w1 w2 w3 : Value, args = #[w0, w1, w2, w3] := by
    have hs : args.size = 4 := by simpa [Cond.value, given_1] using hg1
    obtain ⟨L⟩ := args
    match L, hs with
    | [w0, w1, w2, w3], _ => exact ⟨w0, w1, w2, w3, rfl⟩
  obtain ⟨ga0, gb0⟩ := and_e hg2
  obtain ⟨i0, e0⟩ := is_v ga0
  obtain rfl : w0 = (.int i0) := Option.some.inj e0
  obtain ⟨ga1, gb1⟩ := and_e gb0
  obtain ⟨i1, e1⟩ := is_v ga1
  obtain rfl : w1 = (.int i1) := Option.some.inj e1
  obtain ⟨ga2, gb2⟩ := and_e gb1
  obtain ⟨i2, e2⟩ := is_v ga2
  obtain rfl : w2 = (.int i2) := Option.some.inj e2
  obtain ⟨i3, e3⟩ := is_v gb2
  obtain rfl : w3 = (.int i3) := Option.some.inj e3
  have hw : Wd s tables_1 := ⟨_, fun d (hd : d ∈ tables_1) => atoms_spec (ws := Jvm.Cond.code x code maxLocals ret :: tables_1) hat d (List.mem_cons_of_mem _ hd)⟩
  have hfit : Fit s := fun {y c} hc i hi => by
    obtain ⟨ha, rfl⟩ := Array.getElem?_eq_some_iff.mp hc
    have q := List.all_eq_true.mp ((Array.all_eq_true_iff_forall_mem.mp hF) _ (Array.getElem_mem ha)) i (List.mem_range.mpr hi)
    simpa [Array.getElem?_eq_getElem hi] using q
  obtain ⟨n, o, h1, h2, h3, _, L, rfl, ⟨hv, -, N⟩, hq⟩ := c0 s hw s.heap i0 i1 i2 i3 ⟨Nat.le_refl _, fun _ _ q => q⟩ l tables_1 p e ha hc hk s m _ below hf ((Spec.applies_iff_loose hf).mp happ).1 ⟨rfl, State.Warmed39.refl s, rfl⟩ trivial
  cases (show _ = some (Value.int 1) from hv)
  refine ⟨n, _, h1, h2, h3, hpost _ _ _ _ _ _ ⟨Cond.after_iff.mpr rfl, Cond.after_iff.mpr (eq_i res_at (Term.int_eval (1)) rfl), trivial⟩ ⟨hq.1, hq.2.1, (hq.2.2.sift fun y hy => Or.inr (N y hy)).mono (by decide) (by decide)⟩⟩
theorem main_1_1 : Claimed_1_1 := comes_1 fun _ _ _ _ _ _ h hF => ⟨h.1, hF⟩
theorem main_1_2 : Claimed_1_2 := comes_1 fun _ _ _ _ _ _ h hF => ⟨h.2.1, hF⟩
end Jvm.Pilot.@@N@@
namespace Jvm.Pilot.@@N@@
open Jvm Jvm.ClassFile Sem Op Lib Jvm.Free Jvm.Stand Jvm.Pilot.@@N@@.Jvm.D
/-! MADE BY PROGRAM (witnessworld.py) out of the Statement's table words and the real class files: 9 classes; the members and pool entries that the words name. The judged class is class 1, her method 1. -/
namespace start1
open Jvm.ClassFile
def u (s : String) : CpInfo := .utf8 (stringToUtf16 s)
/-- a pool by its gaps: so many unusable entries, then the entry; so many at the end -/
def gap : Nat → List CpInfo → List CpInfo
  | 0, r => r
  | n + 1, r => .unusable :: gap n r
def poolList (es : List (Nat × CpInfo)) (last : Nat) : List CpInfo := es.foldr (fun e r => gap e.1 (e.2 :: r)) (gap last [])
def pool (es : List (Nat × CpInfo)) (last : Nat) : Array CpInfo := ⟨poolList es last⟩
def fileOf (pool : Array CpInfo) (this : Nat) (attrs : Array Attribute := #[]) (ms : Array MethodInfo := #[]) (fl : Nat := 33) (sup : Nat := 0) (ifs : Array Nat := #[]) (fds : Array FieldInfo := #[]) : ClassFile where
  minorVersion := 0
  majorVersion := 65
  constantPool := pool
  accessFlags := fl
  thisClass := this
  superClass := sup
  interfaces := ifs
  fields := fds
  methods := ms
  attributes := attrs
def plain (name : String) (sup : Option ClassId) : Class where
  name := name
  kind := .ordinary
  loader := none
  accessFlags := 33
  super := sup
  interfaces := #[]
  cf := none
  fields := #[]
  methods := #[]
  instanceTypes := #[]
  staticTypes := #[]
  resolved := #[]
  callSites := []
  init := .initialized
  statics := none
  mirror := none

def pool0 : Array CpInfo := pool [(5, u "<init>"), (0, u "()V"), (1, .class_ 10), (1, u "java/lang/Object")] 113

def k0c0 : Code := { maxStack := 0, maxLocals := 1, code := object_method_1_code, exceptionTable := #[], attributes := #[] }
def k0m0 : Method := { name := "<init>", desc := "()V", sig := { parameters := [], returnType := none }, accessFlags := 1, code := some k0c0 }
/-- java/lang/Object -/
def k0 : Class := { plain "java/lang/Object" none with
  accessFlags := 33
  interfaces := #[]
  cf := some (fileOf pool0 8 #[] #[{ accessFlags := 1, nameIndex := 5, descriptorIndex := 6, attributes := #[] }] 33 0 #[] #[])
  fields := #[]
  methods := #[k0m0]
  instanceTypes := #[]
  staticTypes := #[]
  resolved := Array.replicate 124 none
  statics := none }

def pool1 : Array CpInfo := pool [(2, .class_ 4), (0, .nameAndType 5 6), (0, u "java/lang/Object"), (0, u "<init>"), (0, u "()V"), (0, .integer 2147483647), (0, .class_ 9), (0, u "locuscope/io/Bytes"), (0, .methodref 8 3), (0, .methodref 8 12), (0, .nameAndType 13 14), (0, u "addInt"), (0, u "(I)V"), (0, .methodref 8 16), (0, .nameAndType 17 18), (0, u "putInt"), (0, u "(II)V"), (0, .methodref 8 20), (0, .nameAndType 21 22), (0, u "size"), (0, u "()I"), (0, .methodref 8 24), (0, .nameAndType 25 26), (0, u "array"), (0, u "()[B"), (0, .methodref 28 29), (0, .class_ 30), (0, .nameAndType 31 32), (0, u "locuscope/io/BytesPutIntPinLaw"), (0, u "same"), (0, u "([BIIIII)Z"), (2, u "law"), (0, u "(IIII)Z")] 5

def k1m0 : Method := { name := "<init>", desc := "()V", sig := { parameters := [], returnType := none }, accessFlags := 1, code := none }
def k1c1 : Code := { maxStack := 6, maxLocals := 8, code := code, exceptionTable := #[], attributes := #[] }
def k1m1 : Method := { name := "law", desc := "(IIII)Z", sig := { parameters := [.int, .int, .int, .int], returnType := some .boolean }, accessFlags := 9, code := some k1c1 }
def k1c2 : Code := { maxStack := 5, maxLocals := 7, code := method_3_code, exceptionTable := #[], attributes := #[] }
def k1m2 : Method := { name := "same", desc := "([BIIIII)Z", sig := { parameters := [(.array .byte), .int, .int, .int, .int, .int], returnType := some .boolean }, accessFlags := 10, code := some k1c2 }
/-- locuscope/io/BytesPutIntPinLaw -/
def k1 : Class := { plain "locuscope/io/BytesPutIntPinLaw" (some 0) with
  accessFlags := 49
  interfaces := #[]
  cf := some (fileOf pool1 28 #[] #[{ accessFlags := 1, nameIndex := 5, descriptorIndex := 6, attributes := #[] }, { accessFlags := 9, nameIndex := 35, descriptorIndex := 36, attributes := #[] }, { accessFlags := 10, nameIndex := 31, descriptorIndex := 32, attributes := #[] }] 49 2 #[] #[])
  fields := #[]
  methods := #[k1m0, k1m1, k1m2]
  instanceTypes := #[]
  staticTypes := #[]
  resolved := Array.replicate 42 none
  statics := none }

def pool2 : Array CpInfo := pool [(1, .methodref 2 3), (0, .class_ 4), (0, .nameAndType 5 6), (0, u "java/lang/Object"), (0, u "<init>"), (0, u "()V"), (0, .integer 65536), (0, .fieldref 9 10), (0, .class_ 11), (0, .nameAndType 12 13), (0, u "locuscope/io/Bytes"), (0, u "bytes"), (0, u "[B"), (0, .fieldref 9 15), (0, .nameAndType 16 17), (0, u "size"), (0, u "I"), (6, .methodref 9 25), (0, .nameAndType 26 27), (0, u "add"), (0, u "(I)V"), (2, u "()I"), (0, u "array"), (0, u "()[B"), (4, u "addInt"), (0, u "putInt"), (0, u "(II)V")] 2

def k2c0 : Code := { maxStack := 2, maxLocals := 1, code := prog_23_method_1_code, exceptionTable := #[], attributes := #[] }
def k2m0 : Method := { name := "<init>", desc := "()V", sig := { parameters := [], returnType := none }, accessFlags := 0, code := some k2c0 }
def k2c1 : Code := { maxStack := 1, maxLocals := 1, code := prog_23_method_2_code, exceptionTable := #[], attributes := #[] }
def k2m1 : Method := { name := "size", desc := "()I", sig := { parameters := [], returnType := some .int }, accessFlags := 0, code := some k2c1 }
def k2c2 : Code := { maxStack := 1, maxLocals := 1, code := prog_23_method_3_code, exceptionTable := #[], attributes := #[] }
def k2m2 : Method := { name := "array", desc := "()[B", sig := { parameters := [], returnType := some (.array .byte) }, accessFlags := 0, code := some k2c2 }
def k2c3 : Code := { maxStack := 5, maxLocals := 2, code := prog_23_method_5_code, exceptionTable := #[], attributes := #[] }
def k2m3 : Method := { name := "add", desc := "(I)V", sig := { parameters := [.int], returnType := none }, accessFlags := 0, code := some k2c3 }
def k2c4 : Code := { maxStack := 3, maxLocals := 2, code := prog_23_method_7_code, exceptionTable := #[], attributes := #[] }
def k2m4 : Method := { name := "addInt", desc := "(I)V", sig := { parameters := [.int], returnType := none }, accessFlags := 0, code := some k2c4 }
def k2c5 : Code := { maxStack := 4, maxLocals := 3, code := prog_23_method_8_code, exceptionTable := #[], attributes := #[] }
def k2m5 : Method := { name := "putInt", desc := "(II)V", sig := { parameters := [.int, .int], returnType := none }, accessFlags := 0, code := some k2c5 }
/-- locuscope/io/Bytes -/
def k2 : Class := { plain "locuscope/io/Bytes" (some 0) with
  accessFlags := 48
  interfaces := #[]
  cf := some (fileOf pool2 9 #[] #[{ accessFlags := 0, nameIndex := 5, descriptorIndex := 6, attributes := #[] }, { accessFlags := 0, nameIndex := 16, descriptorIndex := 30, attributes := #[] }, { accessFlags := 0, nameIndex := 31, descriptorIndex := 32, attributes := #[] }, { accessFlags := 0, nameIndex := 26, descriptorIndex := 27, attributes := #[] }, { accessFlags := 0, nameIndex := 37, descriptorIndex := 27, attributes := #[] }, { accessFlags := 0, nameIndex := 38, descriptorIndex := 39, attributes := #[] }] 48 2 #[] #[{ accessFlags := 2, nameIndex := 12, descriptorIndex := 13, attributes := #[] }, { accessFlags := 2, nameIndex := 16, descriptorIndex := 17, attributes := #[] }])
  fields := #[{ name := "bytes", type := (.array .byte), accessFlags := 2, slot := 0, constantValue := 0 }, { name := "size", type := .int, accessFlags := 2, slot := 1, constantValue := 0 }]
  methods := #[k2m0, k2m1, k2m2, k2m3, k2m4, k2m5]
  instanceTypes := #[(.array .byte), .int]
  staticTypes := #[]
  resolved := Array.replicate 42 none
  statics := none }

def pool3 : Array CpInfo := pool [(1, u "java/lang/Cloneable"), (0, .class_ 1), (0, u "java/lang/Object"), (0, .class_ 3)] 3

/-- java/lang/Cloneable -/
def k3 : Class := { plain "java/lang/Cloneable" (some 0) with
  accessFlags := 1537
  interfaces := #[]
  cf := some (fileOf pool3 2 #[] #[] 1537 4 #[] #[])
  fields := #[]
  methods := #[]
  instanceTypes := #[]
  staticTypes := #[]
  resolved := Array.replicate 8 none
  statics := none }

def pool4 : Array CpInfo := pool [(1, u "java/io/Serializable"), (0, .class_ 1), (0, u "java/lang/Object"), (0, .class_ 3)] 3

/-- java/io/Serializable -/
def k4 : Class := { plain "java/io/Serializable" (some 0) with
  accessFlags := 1537
  interfaces := #[]
  cf := some (fileOf pool4 2 #[] #[] 1537 4 #[] #[])
  fields := #[]
  methods := #[]
  instanceTypes := #[]
  staticTypes := #[]
  resolved := Array.replicate 8 none
  statics := none }

/-- the primitive byte -/
def k5 : Class := { plain "byte" none with kind := .primitive 'B', accessFlags := 0x411 }
/-- [B -/
def k6 : Class := { plain "[B" (some 0) with kind := .array 5 .byte, interfaces := #[3, 4], accessFlags := 1041 }

/-- the primitive int -/
def k7 : Class := { plain "int" none with kind := .primitive 'I', accessFlags := 0x411 }
/-- [I -/
def k8 : Class := { plain "[I" (some 0) with kind := .array 7 .int, interfaces := #[3, 4], accessFlags := 1041 }

def heap : Heap := #[]
def classes : Array Class := #[k0, k1, k2, k3, k4, k5, k6, k7, k8]
def interned : List (Array UInt16 × Addr) := []
def slotsUsed : Nat := 0
def theMethod : MethodId := ⟨1, 1⟩
def args0 : Array Value := #[.int 5, .int 3, .int 7, .int 1]
def aboutOver (below : List Frame) : State where
  vm := { classes := classes, interned := interned.toArray }
  heap := heap
  slotsUsed := slotsUsed
  threads := #[{ frames := .invoking theMethod args0 :: below }]
def below0 : List Frame := [.native { method := ⟨0, 0⟩, args := #[] }]
def about1 : State := aboutOver below0
def p0 : Program := .bare "" "" ""
def e0 : Env := launch0.env 0 0 0
theorem w_frames : about1.frames = Frame.invoking theMethod args0 :: below0 := rfl
set_option maxRecDepth 65536 in
theorem w_args : argsFit about1.vm theMethod args0 = true := by decide +kernel
set_option maxRecDepth 65536 in
theorem w_heap : heapFits about1 = true := by decide +kernel
set_option maxRecDepth 65536 in
theorem w_runnable : about1.curStatus? = some .runnable := by decide +kernel
set_option maxRecDepth 65536 in
theorem w_alone : about1.alone = true := by decide +kernel
set_option maxRecDepth 65536 in
theorem w_named : about1.methodNamed? x = some theMethod := by decide +kernel
set_option maxRecDepth 65536 in
theorem w_hears : about1.hears theMethod below0 = true := by decide +kernel
set_option maxRecDepth 65536 in
theorem w_ripe : about1.ripe theMethod args0 below0 = true := by decide +kernel
theorem w_running : about1.status = .running := rfl
set_option maxRecDepth 65536 in
theorem w_room : about1.hasRoom e0.platform room_1 = true :=
  launch0.hasRoom_least _ room_1 (by decide +kernel) (by decide +kernel) (by decide +kernel) (by decide +kernel) (by decide +kernel) (by decide +kernel)
theorem allAtoms_all (ts : List Jvm.Cond) (a : Array Jvm.Value) (st : Jvm.State) : (allAtoms ts).before a st = ts.all (fun c => c.before a st) := by
  induction ts with
  | nil => rfl
  | cons c t ih =>
    show (Jvm.Cond.and c (allAtoms t)).before a st = _
    rw [Jvm.Cond.before_and, ih, List.all_cons]
def words1 : List Jvm.Cond := Jvm.Cond.code x code maxLocals ret :: tables_1
/-- a 'code' word, met by the world's own term for the bytes: nothing is compared byte by byte -/
theorem code_word {y : MethodName} {bytes : ByteArray} {mx : Nat} {rt : Option FieldType} {a : Array Value} {s : State} {m : MethodId} {meth : Method} {c : Code} (h1 : s.methodNamed? y = some m) (h2 : s.vm.method? m = some meth) (h3 : meth.code = some c) (h4 : c.code = bytes)
    (h5 : (c.maxLocals == mx && c.exceptionTable.isEmpty && decide (c.maxStack ≤ mostOperands) && decide (meth.sig.returnType = rt) && !meth.locks && decide (parseMethodDescriptor y.desc = some meth.sig)) = true) : (Jvm.Cond.code y bytes mx rt).before a s = true := by
  simp only [Bool.and_eq_true, beq_iff_eq, Bool.not_eq_true', decide_eq_true_eq] at h5
  obtain ⟨⟨⟨⟨⟨g1, g2⟩, g3⟩, g4⟩, g5⟩, g6⟩ := h5
  simp [Cond.before, Cond.holds, Cond.value, h1, h2, h3, h4, g1, g2, g3, g4, g5, g6]
def isCode : Jvm.Cond → Bool
  | .code _ _ _ _ => true
  | _ => false
theorem all_split {L : List Jvm.Cond} {P : Jvm.Cond → Bool} (h1 : L.all (fun c => isCode c || P c) = true) (h2 : ∀ c ∈ L.filter isCode, P c = true) : L.all P = true := by
  refine List.all_eq_true.mpr fun c hc => ?_
  have h := List.all_eq_true.mp h1 c hc
  rcases Bool.eq_false_or_eq_true (isCode c) with hi | hi
  · exact h2 c (List.mem_filter.mpr ⟨hc, hi⟩)
  · simpa [hi] using h
set_option maxRecDepth 65536 in
theorem w_c0 : (Jvm.Cond.code x code maxLocals ret).before args0 about1 = true := code_word (m := ⟨1, 1⟩) (meth := k1m1) (c := k1c1) (by decide +kernel) rfl rfl rfl (by decide +kernel)
set_option maxRecDepth 65536 in
theorem w_c1 : (Jvm.Cond.code ({ cls := "locuscope/io/Bytes", name := "<init>", desc := "()V" } : Jvm.MethodName) prog_23_method_1_code (1 : Nat) (Option.none : Option Jvm.ClassFile.FieldType)).before args0 about1 = true := code_word (m := ⟨2, 0⟩) (meth := k2m0) (c := k2c0) (by decide +kernel) rfl rfl rfl (by decide +kernel)
set_option maxRecDepth 65536 in
theorem w_c2 : (Jvm.Cond.code ({ cls := "java/lang/Object", name := "<init>", desc := "()V" } : Jvm.MethodName) object_method_1_code (1 : Nat) (Option.none : Option Jvm.ClassFile.FieldType)).before args0 about1 = true := code_word (m := ⟨0, 0⟩) (meth := k0m0) (c := k0c0) (by decide +kernel) rfl rfl rfl (by decide +kernel)
set_option maxRecDepth 65536 in
theorem w_c3 : (Jvm.Cond.code ({ cls := "locuscope/io/Bytes", name := "addInt", desc := "(I)V" } : Jvm.MethodName) prog_23_method_7_code (2 : Nat) (Option.none : Option Jvm.ClassFile.FieldType)).before args0 about1 = true := code_word (m := ⟨2, 4⟩) (meth := k2m4) (c := k2c4) (by decide +kernel) rfl rfl rfl (by decide +kernel)
set_option maxRecDepth 65536 in
theorem w_c4 : (Jvm.Cond.code ({ cls := "locuscope/io/Bytes", name := "add", desc := "(I)V" } : Jvm.MethodName) prog_23_method_5_code (2 : Nat) (Option.none : Option Jvm.ClassFile.FieldType)).before args0 about1 = true := code_word (m := ⟨2, 3⟩) (meth := k2m3) (c := k2c3) (by decide +kernel) rfl rfl rfl (by decide +kernel)
set_option maxRecDepth 65536 in
theorem w_c5 : (Jvm.Cond.code ({ cls := "locuscope/io/Bytes", name := "putInt", desc := "(II)V" } : Jvm.MethodName) prog_23_method_8_code (3 : Nat) (Option.none : Option Jvm.ClassFile.FieldType)).before args0 about1 = true := code_word (m := ⟨2, 5⟩) (meth := k2m5) (c := k2c5) (by decide +kernel) rfl rfl rfl (by decide +kernel)
set_option maxRecDepth 65536 in
theorem w_c6 : (Jvm.Cond.code ({ cls := "locuscope/io/Bytes", name := "size", desc := "()I" } : Jvm.MethodName) prog_23_method_2_code (1 : Nat) (Option.some Jvm.ClassFile.FieldType.int)).before args0 about1 = true := code_word (m := ⟨2, 1⟩) (meth := k2m1) (c := k2c1) (by decide +kernel) rfl rfl rfl (by decide +kernel)
set_option maxRecDepth 65536 in
theorem w_c7 : (Jvm.Cond.code ({ cls := "locuscope/io/Bytes", name := "array", desc := "()[B" } : Jvm.MethodName) prog_23_method_3_code (1 : Nat) (Option.some (Jvm.ClassFile.FieldType.array Jvm.ClassFile.FieldType.byte))).before args0 about1 = true := code_word (m := ⟨2, 2⟩) (meth := k2m2) (c := k2c2) (by decide +kernel) rfl rfl rfl (by decide +kernel)
set_option maxRecDepth 65536 in
theorem w_c8 : (Jvm.Cond.code ({ cls := "locuscope/io/BytesPutIntPinLaw", name := "same", desc := "([BIIIII)Z" } : Jvm.MethodName) method_3_code (7 : Nat) (Option.some Jvm.ClassFile.FieldType.boolean)).before args0 about1 = true := code_word (m := ⟨1, 2⟩) (meth := k1m2) (c := k1c2) (by decide +kernel) rfl rfl rfl (by decide +kernel)
def codes1 : List Jvm.Cond := [Jvm.Cond.code x code maxLocals ret, Jvm.Cond.code ({ cls := "locuscope/io/Bytes", name := "<init>", desc := "()V" } : Jvm.MethodName) prog_23_method_1_code (1 : Nat) (Option.none : Option Jvm.ClassFile.FieldType), Jvm.Cond.code ({ cls := "java/lang/Object", name := "<init>", desc := "()V" } : Jvm.MethodName) object_method_1_code (1 : Nat) (Option.none : Option Jvm.ClassFile.FieldType), Jvm.Cond.code ({ cls := "locuscope/io/Bytes", name := "addInt", desc := "(I)V" } : Jvm.MethodName) prog_23_method_7_code (2 : Nat) (Option.none : Option Jvm.ClassFile.FieldType), Jvm.Cond.code ({ cls := "locuscope/io/Bytes", name := "add", desc := "(I)V" } : Jvm.MethodName) prog_23_method_5_code (2 : Nat) (Option.none : Option Jvm.ClassFile.FieldType), Jvm.Cond.code ({ cls := "locuscope/io/Bytes", name := "putInt", desc := "(II)V" } : Jvm.MethodName) prog_23_method_8_code (3 : Nat) (Option.none : Option Jvm.ClassFile.FieldType), Jvm.Cond.code ({ cls := "locuscope/io/Bytes", name := "size", desc := "()I" } : Jvm.MethodName) prog_23_method_2_code (1 : Nat) (Option.some Jvm.ClassFile.FieldType.int), Jvm.Cond.code ({ cls := "locuscope/io/Bytes", name := "array", desc := "()[B" } : Jvm.MethodName) prog_23_method_3_code (1 : Nat) (Option.some (Jvm.ClassFile.FieldType.array Jvm.ClassFile.FieldType.byte)), Jvm.Cond.code ({ cls := "locuscope/io/BytesPutIntPinLaw", name := "same", desc := "([BIIIII)Z" } : Jvm.MethodName) method_3_code (7 : Nat) (Option.some Jvm.ClassFile.FieldType.boolean)]
set_option maxRecDepth 65536 in
theorem codes_eq : words1.filter isCode = codes1 := rfl
theorem w_codes : ∀ c ∈ words1.filter isCode, c.before args0 about1 = true := by
  rw [codes_eq]
  intro c hc
  simp only [codes1, List.mem_cons, List.not_mem_nil, or_false] at hc
  rcases hc with rfl | rfl | rfl | rfl | rfl | rfl | rfl | rfl | rfl
  · exact w_c0
  · exact w_c1
  · exact w_c2
  · exact w_c3
  · exact w_c4
  · exact w_c5
  · exact w_c6
  · exact w_c7
  · exact w_c8
set_option maxRecDepth 65536 in
theorem w_t1 : (words1.take 24).all (fun c => isCode c || c.before args0 about1) = true := by decide +kernel
set_option maxRecDepth 65536 in
theorem w_t2 : (words1.drop 24).all (fun c => isCode c || c.before args0 about1) = true := by decide +kernel
theorem w_tables : (allAtoms (Jvm.Cond.code x code maxLocals ret :: tables_1)).before args0 about1 = true := by
  rw [allAtoms_all]
  show words1.all (fun c => c.before args0 about1) = true
  refine all_split ?_ w_codes
  rw [← List.take_append_drop 24 words1, List.all_append, w_t1, w_t2]
  rfl
set_option maxRecDepth 65536 in
theorem w_case : (Jvm.Cond.and given_1 narrow_1).before args0 about1 = true := by decide +kernel
theorem w_applies : (headSpec (Jvm.Cond.code x code maxLocals ret :: tables_1) room_1).applies x e0.platform about1 = true :=
  (Spec.applies_iff w_frames).mpr ⟨w_running, w_runnable, w_alone, w_named, w_hears, w_ripe, w_room, w_tables⟩
theorem atStart : AtStart classFile x code maxLocals ret World_1 tables_1 room_1 Calls_1 rest_1 Pre_1 launch0 p0 e0 about1 theMethod args0 below0 :=
  ⟨lists_1, trivial, launch0.admits_env _ _ _, launch0.least_env, fairChoices_fair.cas, fairChoices_fair.clock, w_frames, w_args, w_heap, w_applies, trivial, trivial, w_case⟩
end start1
theorem witness_1 : WitnessClaimed_1 := ⟨start1.p0, start1.e0, start1.about1, start1.theMethod, start1.args0, start1.below0, start1.atStart⟩
end Jvm.Pilot.@@N@@
