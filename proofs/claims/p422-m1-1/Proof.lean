import JvmDerived
import JvmDerived.Pilot.@@N@@Statement
import JvmDerived.Pilot.@@N@@Code
set_option linter.unusedVariables false
set_option linter.unusedSimpArgs false
namespace Jvm.Ow
open Sem ClassFile Op Lib Jvm.Stand Jvm.Free Jvm.LawKit Jvm.RoadKit
/-- what one invocation runs over -/
abbrev Cx : Type := Program × Launch × Env × State × MethodId × Array Value × List Frame × Method × Code
def Cx.p (x : Cx) : Program := x.1
def Cx.l (x : Cx) : Launch := x.2.1
def Cx.e (x : Cx) : Env := x.2.2.1
def Cx.s (x : Cx) : State := x.2.2.2.1
def Cx.m (x : Cx) : MethodId := x.2.2.2.2.1
def Cx.args (x : Cx) : Array Value := x.2.2.2.2.2.1
def Cx.below (x : Cx) : List Frame := x.2.2.2.2.2.2.1
def Cx.meth (x : Cx) : Method := x.2.2.2.2.2.2.2.1
def Cx.c (x : Cx) : Code := x.2.2.2.2.2.2.2.2
/-- a body: its name, bytes, max_locals, return type, room, and the table words of the case -/
abbrev Bd : Type := MethodName × ByteArray × Nat × Option FieldType × Room × List Cond
abbrev Bd.y (b : Bd) : MethodName := b.1
abbrev Bd.by (b : Bd) : ByteArray := b.2.1
abbrev Bd.ml (b : Bd) : Nat := b.2.2.1
abbrev Bd.rt (b : Bd) : Option FieldType := b.2.2.2.1
abbrev Bd.R (b : Bd) : Room := b.2.2.2.2.1
abbrev Bd.tb (b : Bd) : List Cond := b.2.2.2.2.2
def Wd (Z : State) (tb : List Cond) : Prop := ∃ a0 : Array Value, ∀ d ∈ tb, d.before a0 Z = true
def En (Z : State) (x : Cx) (B : Bd) : Prop := x.p.tables.exec = Jvm.exec ∧ x.c.code = B.by ∧ x.c.maxLocals = B.ml ∧ x.s.vm.findClass B.y.cls = some x.m.cls ∧ x.meth.name = B.y.name ∧ x.meth.sig.returnType = B.rt ∧ Z.Warmed39 x.s.vm ∧ x.meth.locks = false ∧ Wd Z B.tb
/-- the invocation stands at T, whose heap is h; k cells and n slots were made; nothing of the start's heap was written -/
def Sp (Z : State) (x : Cx) (B : Bd) (T : State) (k n : Nat) (h : Heap) : Prop := En Z x B ∧ Ext Z.heap h ∧ ∃ locs, Stand x.p x.l x.e B.R x.s x.m x.args x.below x.meth x.c T locs k n ∧ T.heap = h ∧ Fr Z.heap.size locs
/-- from T with this frame the invocation ends as Q says -/
def Rn (Q : Option Value → Heap → Prop) (Z : State) (x : Cx) (B : Bd) (T : State) (pc : Nat) (Ls : Array Slot) (st : List Value) : Prop :=
  ∃ t o, Steps x.p.tables x.e x.below (T.setTop (mkF x.m pc Ls st)) t ∧ t.status = .running ∧ Ended t x.below o ∧ ∃ v L, o = .returned v ∧ (Q v t.heap ∧ Ext Z.heap t.heap ∧ Fr Z.heap.size L) ∧ FrameEnd x.s o t L B.R.cells B.R.slots
/-- from every point with this heap and this frame the invocation ends as Q says -/
def Go (Q : Option Value → Heap → Prop) (Z : State) (B : Bd) (k n : Nat) (h : Heap) (pc : Nat) (Ls : Array Slot) (st : List Value) : Prop := ∀ (x : Cx) (T : State), Sp Z x B T k n h → Rn Q Z x B T pc Ls st
/-- a body's contract: from the heap h0, with the arguments as, it returns v at a heap h with Q v h -/
def Con (Z : State) (B : Bd) (as : Array Value) (h0 : Heap) (Q : Option Value → Heap → Prop) : Prop :=
  Ext Z.heap h0 → ∀ (l : Launch) (ws : List Cond), MetFree l B.y (head1 (Cond.code B.y B.by B.ml B.rt :: ws) B.R) (fun a U => a = as ∧ Z.Warmed39 U.vm ∧ U.heap = h0) (fun _ _ _ _ _ => True)
    (fun _ U o U' => ∃ v L, o = .returned v ∧ (Q v U'.heap ∧ Ext Z.heap U'.heap ∧ Fr Z.heap.size L) ∧ FrameEnd U o U' L B.R.cells B.R.slots)
/-- an array: its values -/
def Ary (Z : State) (h : Heap) (a : Addr) (ty : FieldType) (vs : List Value) : Prop := ∃ c : Cell, Arr Z h a c ty ∧ c.slots.toList = vs ∧ vs.length < 2 ^ 31 ∧ ∀ v ∈ vs, fits ty v = true
/-- an array over objects of class C -/
def Aov (Z : State) (h : Heap) (a : Addr) (C : String) : Prop := ∃ c : Cell, h[a]? = some c ∧ Ovr Z c.cls C
section St
variable {Q : Option Value → Heap → Prop} {Z : State} {x : Cx} {B : Bd} {T : State} {k n : Nat} {h h' : Heap} {pc : Nat} {Ls Ls' : Array Slot} {st rest : List Value}
theorem Wd.w {tb : List Cond} (W : Wd Z tb) : ∃ a0 : Array Value, ∀ {i : Nat} {d : Cond}, tb[i]? = some d → d.before a0 Z = true := by
  obtain ⟨a0, hw⟩ := W; exact ⟨a0, fun hi => hw _ (List.mem_of_getElem? hi)⟩
theorem Con.mk {as : Array Value} {h0 : Heap} (hw : Wd Z B.tb) (hpn : plainName B.y.cls = true) (hef : ∀ m, entryFrame m as B.ml = mkF m 0 Ls [])
    (body : Go Q Z B 0 0 h0 0 Ls []) : Con Z B as h0 Q := by
  intro hE l ws
  refine MetFree.of_bodySF (plainFor_of_name hpn) hisR ?_
  intro p e s m args below meth c s₁ Bd hml0 hP hK
  obtain ⟨rfl, hZ, hh⟩ := hP
  have X0 : Stand p l e B.R s m args below meth c s₁ [] 0 0 := Stand.of_body Bd
  have e0 : s₁.heap = h0 := by rw [← hh, Bd.state]; rfl
  obtain ⟨t, o, h1, h2, h3, h4⟩ := body (p, l, e, s, m, args, below, meth, c) s₁ ⟨⟨Bd.exec, Bd.bytes, hml0, findClass_of_methodNamed Bd.named, (name_of_methodNamed Bd.named Bd.method).1, Bd.returns, hZ, Bd.notSynchronized, hw⟩, hE, [], X0, e0, Fr.nil _⟩
  exact ⟨t, o, castTop (hef m) h1, h2, h3, h4⟩
theorem Con.post {as : Array Value} {h0 : Heap} {Q' : Option Value → Heap → Prop} (C : Con Z B as h0 Q) (q : ∀ v h, Q v h → Q' v h) : Con Z B as h0 Q' := fun hE l ws =>
  (C hE l ws).mono (fun _ _ h => h) (fun _ _ _ _ _ h => h) fun _ _ _ _ _ ⟨v, L, h1, h2, h3⟩ => ⟨v, L, h1, ⟨q _ _ h2.1, h2.2⟩, h3⟩
theorem Sp.here (P : Sp Z x B T k n h) : At T x.m x.c x.below := by obtain ⟨_, _, _, X, _⟩ := P; exact X.here
theorem Sp.ex (P : Sp Z x B T k n h) : x.p.tables.exec = Jvm.exec := P.1.1
theorem Sp.d (P : Sp Z x B T k n h) {r : Except DecodeError (Instr × Nat)} (hd : decode B.by pc = r) : decode x.c.code pc = r := by rw [P.1.2.1]; exact hd
theorem Sp.old (P : Sp Z x B T k n h) : Ext Z.heap h := P.2.1
theorem Sp.wd (P : Sp Z x B T k n h) : Wd Z B.tb := P.1.2.2.2.2.2.2.2.2
theorem Sp.le (P : Sp Z x B T k n h) : Z.heap.size ≤ h.size := P.2.1.1
theorem lift {T' : State} {pc' : Nat} {st' : List Value} (f : ∀ t, Steps x.p.tables x.e x.below (T'.setTop (mkF x.m pc' Ls' st')) t → Steps x.p.tables x.e x.below (T.setTop (mkF x.m pc Ls st)) t) (r : Rn Q Z x B T' pc' Ls' st') : Rn Q Z x B T pc Ls st := by
  obtain ⟨t, o, h1, h2⟩ := r; exact ⟨t, o, f t h1, h2⟩
theorem liftS {T' : State} {pc' : Nat} {st' : List Value} (f : Steps x.p.tables x.e x.below (T.setTop (mkF x.m pc Ls st)) (T'.setTop (mkF x.m pc' Ls' st'))) (r : Rn Q Z x B T' pc' Ls' st') : Rn Q Z x B T pc Ls st := by
  obtain ⟨t, o, h1, h2⟩ := r; exact ⟨t, o, f.trans h1, h2⟩
theorem Go.nameI {z : Int32} (r : ∀ v, z = v → Go Q Z B k n h pc Ls (.int v :: st)) : Go Q Z B k n h pc Ls (.int z :: st) := r z rfl
theorem Go.nameJ {z : Int64} (r : ∀ v, z = v → Go Q Z B k n h pc Ls (.long v :: st)) : Go Q Z B k n h pc Ls (.long z :: st) := r z rfl
theorem Go.nameD {z : UInt64} (r : ∀ v, z = v → Go Q Z B k n h pc Ls (.double v :: st)) : Go Q Z B k n h pc Ls (.double z :: st) := r z rfl
theorem Go.eqI {z w : Int32} (e : z = w) (r : Go Q Z B k n h pc Ls (.int w :: st)) : Go Q Z B k n h pc Ls (.int z :: st) := e ▸ r
theorem Go.eqJ {z w : Int64} (e : z = w) (r : Go Q Z B k n h pc Ls (.long w :: st)) : Go Q Z B k n h pc Ls (.long z :: st) := e ▸ r
theorem Go.eqD {z w : UInt64} (e : z = w) (r : Go Q Z B k n h pc Ls (.double w :: st)) : Go Q Z B k n h pc Ls (.double z :: st) := e ▸ r
theorem Go.joinI {pcJ : Nat} {LsJ : Array Slot} {stJ : List Value} (G : Int32 → Prop) (s : (∀ v, G v → Go Q Z B k n h pcJ LsJ (.int v :: stJ)) → Go Q Z B k n h pc Ls st) (r : ∀ v, G v → Go Q Z B k n h pcJ LsJ (.int v :: stJ)) : Go Q Z B k n h pc Ls st := s r
theorem cut {G : Prop} (X : Prop) (s : X → G) (r : X) : G := s r
theorem Go.old (r : Ext Z.heap h → Go Q Z B k n h pc Ls st) : Go Q Z B k n h pc Ls st := fun x T P => r P.old x T P
theorem Go.more {k' n' : Nat} (hk : k ≤ k') (hn : n ≤ n') (r : Go Q Z B k' n' h pc Ls st) : Go Q Z B k n h pc Ls st := fun x T P => r x T (by
  obtain ⟨E, O, locs, X, e, N⟩ := P
  exact ⟨E, O, locs, { X with same := X.same.mono hk hn }, e, N⟩)
theorem Go.iload (pc' : Nat) (hp : pc + 2 = pc') {i : Nat} {v : Int32} (hd : decode B.by pc = .ok (.iload i, 2)) (hl : Ls[i]? = some (.val (.int v))) (r : Go Q Z B k n h pc' Ls (.int v :: st)) : Go Q Z B k n h pc Ls (st) := fun x T P => by
  subst hp; exact lift (fun t q => XS.iload P.here P.ex rfl (P.d hd) hl q) (r x T P)
theorem Go.iloadN (pc' : Nat) (hp : pc + 1 = pc') {i : Fin 4} {v : Int32} (hd : decode B.by pc = .ok (.iload_n i, 1)) (hl : Ls[i.val]? = some (.val (.int v))) (r : Go Q Z B k n h pc' Ls (.int v :: st)) : Go Q Z B k n h pc Ls (st) := fun x T P => by
  subst hp; exact lift (fun t q => XS.iloadN P.here P.ex rfl (P.d hd) hl q) (r x T P)
theorem Go.istore (pc' : Nat) (hp : pc + 2 = pc') {i : Nat} {v : Int32} (hd : decode B.by pc = .ok (.istore i, 2))  (hl : storeLocals Ls i (.int v) = some Ls') (r : Go Q Z B k n h pc' Ls' (st)) : Go Q Z B k n h pc Ls (.int v :: st) := fun x T P => by
  subst hp; exact lift (fun t q => XS.istore P.here P.ex rfl (P.d hd) rfl hl q) (r x T P)
theorem Go.istoreN (pc' : Nat) (hp : pc + 1 = pc') {i : Fin 4} {v : Int32} (hd : decode B.by pc = .ok (.istore_n i, 1))  (hl : storeLocals Ls i.val (.int v) = some Ls') (r : Go Q Z B k n h pc' Ls' (st)) : Go Q Z B k n h pc Ls (.int v :: st) := fun x T P => by
  subst hp; exact lift (fun t q => XS.istoreN P.here P.ex rfl (P.d hd) rfl hl q) (r x T P)
theorem Go.lload (pc' : Nat) (hp : pc + 2 = pc') {i : Nat} {v : Int64} (hd : decode B.by pc = .ok (.lload i, 2)) (hl : Ls[i]? = some (.val (.long v))) (r : Go Q Z B k n h pc' Ls (.long v :: st)) : Go Q Z B k n h pc Ls (st) := fun x T P => by
  subst hp; exact lift (fun t q => XT.lload P.here P.ex rfl (P.d hd) hl q) (r x T P)
theorem Go.lloadN (pc' : Nat) (hp : pc + 1 = pc') {i : Fin 4} {v : Int64} (hd : decode B.by pc = .ok (.lload_n i, 1)) (hl : Ls[i.val]? = some (.val (.long v))) (r : Go Q Z B k n h pc' Ls (.long v :: st)) : Go Q Z B k n h pc Ls (st) := fun x T P => by
  subst hp; exact lift (fun t q => XT.lloadN P.here P.ex rfl (P.d hd) hl q) (r x T P)
theorem Go.lstore (pc' : Nat) (hp : pc + 2 = pc') {i : Nat} {v : Int64} (hd : decode B.by pc = .ok (.lstore i, 2))  (hl : storeLocals Ls i (.long v) = some Ls') (r : Go Q Z B k n h pc' Ls' (st)) : Go Q Z B k n h pc Ls (.long v :: st) := fun x T P => by
  subst hp; exact lift (fun t q => XT.lstore P.here P.ex rfl (P.d hd) rfl hl q) (r x T P)
theorem Go.lstoreN (pc' : Nat) (hp : pc + 1 = pc') {i : Fin 4} {v : Int64} (hd : decode B.by pc = .ok (.lstore_n i, 1))  (hl : storeLocals Ls i.val (.long v) = some Ls') (r : Go Q Z B k n h pc' Ls' (st)) : Go Q Z B k n h pc Ls (.long v :: st) := fun x T P => by
  subst hp; exact lift (fun t q => XT.lstoreN P.here P.ex rfl (P.d hd) rfl hl q) (r x T P)
theorem Go.aload (pc' : Nat) (hp : pc + 2 = pc') {i : Nat} {v : Value} (hd : decode B.by pc = .ok (.aload i, 2)) (hl : Ls[i]? = some (.val (v))) (hv : v.isRef = true) (r : Go Q Z B k n h pc' Ls (v :: st)) : Go Q Z B k n h pc Ls (st) := fun x T P => by
  subst hp; exact lift (fun t q => XS.aload P.here P.ex rfl (P.d hd) hl hv q) (r x T P)
theorem Go.aloadN (pc' : Nat) (hp : pc + 1 = pc') {i : Fin 4} {v : Value} (hd : decode B.by pc = .ok (.aload_n i, 1)) (hl : Ls[i.val]? = some (.val (v))) (hv : v.isRef = true) (r : Go Q Z B k n h pc' Ls (v :: st)) : Go Q Z B k n h pc Ls (st) := fun x T P => by
  subst hp; exact lift (fun t q => XS.aloadN P.here P.ex rfl (P.d hd) hl hv q) (r x T P)
theorem Go.astore (pc' : Nat) (hp : pc + 2 = pc') {i : Nat} {v : Value} (hd : decode B.by pc = .ok (.astore i, 2))  (hv : v.isRef = true) (hl : storeLocals Ls i (v) = some Ls') (r : Go Q Z B k n h pc' Ls' (st)) : Go Q Z B k n h pc Ls (v :: st) := fun x T P => by
  subst hp; exact lift (fun t q => XS.astore P.here P.ex rfl (P.d hd) rfl hv hl q) (r x T P)
theorem Go.astoreN (pc' : Nat) (hp : pc + 1 = pc') {i : Fin 4} {v : Value} (hd : decode B.by pc = .ok (.astore_n i, 1))  (hv : v.isRef = true) (hl : storeLocals Ls i.val (v) = some Ls') (r : Go Q Z B k n h pc' Ls' (st)) : Go Q Z B k n h pc Ls (v :: st) := fun x T P => by
  subst hp; exact lift (fun t q => XS.astoreN P.here P.ex rfl (P.d hd) rfl hv hl q) (r x T P)
theorem Go.dload (pc' : Nat) (hp : pc + 2 = pc') {i : Nat} {v : UInt64} (hd : decode B.by pc = .ok (.dload i, 2)) (hl : Ls[i]? = some (.val (.double v))) (r : Go Q Z B k n h pc' Ls (.double v :: st)) : Go Q Z B k n h pc Ls (st) := fun x T P => by
  subst hp; exact lift (fun t q => XS.dload P.here P.ex rfl (P.d hd) hl q) (r x T P)
theorem Go.dloadN (pc' : Nat) (hp : pc + 1 = pc') {i : Fin 4} {v : UInt64} (hd : decode B.by pc = .ok (.dload_n i, 1)) (hl : Ls[i.val]? = some (.val (.double v))) (r : Go Q Z B k n h pc' Ls (.double v :: st)) : Go Q Z B k n h pc Ls (st) := fun x T P => by
  subst hp; exact lift (fun t q => XS.dloadN P.here P.ex rfl (P.d hd) hl q) (r x T P)
theorem Go.dstore (pc' : Nat) (hp : pc + 2 = pc') {i : Nat} {v : UInt64} (hd : decode B.by pc = .ok (.dstore i, 2))  (hl : storeLocals Ls i (.double v) = some Ls') (r : Go Q Z B k n h pc' Ls' (st)) : Go Q Z B k n h pc Ls (.double v :: st) := fun x T P => by
  subst hp; exact lift (fun t q => XS.dstore P.here P.ex rfl (P.d hd) rfl hl q) (r x T P)
theorem Go.dstoreN (pc' : Nat) (hp : pc + 1 = pc') {i : Fin 4} {v : UInt64} (hd : decode B.by pc = .ok (.dstore_n i, 1))  (hl : storeLocals Ls i.val (.double v) = some Ls') (r : Go Q Z B k n h pc' Ls' (st)) : Go Q Z B k n h pc Ls (.double v :: st) := fun x T P => by
  subst hp; exact lift (fun t q => XS.dstoreN P.here P.ex rfl (P.d hd) rfl hl q) (r x T P)
theorem Go.iconst (pc' : Nat) (hp : pc + 1 = pc') {i : Int} (v : Int32) (hd : decode B.by pc = .ok (.iconst i, 1)) (hv : Int32.ofInt i = v) (r : Go Q Z B k n h pc' Ls (.int v :: st)) : Go Q Z B k n h pc Ls (st) := fun x T P => by
  subst hp; exact lift (fun t q => XT.iconstV P.here P.ex rfl v (P.d hd) hv q) (r x T P)
theorem Go.bipush (pc' : Nat) (hp : pc + 2 = pc') {i : Int} (v : Int32) (hd : decode B.by pc = .ok (.bipush i, 2)) (hv : (Int8.ofInt i).toInt32 = v) (r : Go Q Z B k n h pc' Ls (.int v :: st)) : Go Q Z B k n h pc Ls (st) := fun x T P => by
  subst hp; exact lift (fun t q => XT.bipushV P.here P.ex rfl v (P.d hd) hv q) (r x T P)
theorem Go.sipush (pc' : Nat) (hp : pc + 3 = pc') {i : Int} (v : Int32) (hd : decode B.by pc = .ok (.sipush i, 3)) (hv : (Int16.ofInt i).toInt32 = v) (r : Go Q Z B k n h pc' Ls (.int v :: st)) : Go Q Z B k n h pc Ls (st) := fun x T P => by
  subst hp; exact lift (fun t q => XT.sipushV P.here P.ex rfl v (P.d hd) hv q) (r x T P)
theorem Go.lconst (pc' : Nat) (hp : pc + 1 = pc') {i : Fin 2} (v : Int64) (hd : decode B.by pc = .ok (.lconst i, 1)) (hv : Int64.ofNat i = v) (r : Go Q Z B k n h pc' Ls (.long v :: st)) : Go Q Z B k n h pc Ls (st) := fun x T P => by
  subst hp; exact lift (fun t q => XT.lconstV P.here P.ex rfl v (P.d hd) hv q) (r x T P)
theorem Go.aconstNull (pc' : Nat) (hp : pc + 1 = pc')  (hd : decode B.by pc = .ok (.aconst_null, 1))  (r : Go Q Z B k n h pc' Ls (.null :: st)) : Go Q Z B k n h pc Ls (st) := fun x T P => by
  subst hp; exact lift (fun t q => XS.aconstNull P.here P.ex rfl (P.d hd) q) (r x T P)
theorem Go.iadd (pc' : Nat) (hp : pc + 1 = pc') {x1 y1 : Int32} (hd : decode B.by pc = .ok (.iadd, 1))  (r : Go Q Z B k n h pc' Ls (.int (x1 + y1) :: st)) : Go Q Z B k n h pc Ls (.int y1 :: .int x1 :: st) := fun x T P => by
  subst hp; exact lift (fun t q => XS.iadd P.here P.ex rfl (P.d hd) rfl q) (r x T P)
theorem Go.isub (pc' : Nat) (hp : pc + 1 = pc') {x1 y1 : Int32} (hd : decode B.by pc = .ok (.isub, 1))  (r : Go Q Z B k n h pc' Ls (.int (x1 - y1) :: st)) : Go Q Z B k n h pc Ls (.int y1 :: .int x1 :: st) := fun x T P => by
  subst hp; exact lift (fun t q => XS.isub P.here P.ex rfl (P.d hd) rfl q) (r x T P)
theorem Go.iand (pc' : Nat) (hp : pc + 1 = pc') {x1 y1 : Int32} (hd : decode B.by pc = .ok (.iand, 1))  (r : Go Q Z B k n h pc' Ls (.int (x1 &&& y1) :: st)) : Go Q Z B k n h pc Ls (.int y1 :: .int x1 :: st) := fun x T P => by
  subst hp; exact lift (fun t q => XS.iand P.here P.ex rfl (P.d hd) rfl q) (r x T P)
theorem Go.imul (pc' : Nat) (hp : pc + 1 = pc') {x1 y1 : Int32} (hd : decode B.by pc = .ok (.imul, 1))  (r : Go Q Z B k n h pc' Ls (.int (x1 * y1) :: st)) : Go Q Z B k n h pc Ls (.int y1 :: .int x1 :: st) := fun x T P => by
  subst hp; exact lift (fun t q => XS.imul P.here P.ex rfl (P.d hd) rfl q) (r x T P)
theorem Go.ixor (pc' : Nat) (hp : pc + 1 = pc') {x1 y1 : Int32} (hd : decode B.by pc = .ok (.ixor, 1))  (r : Go Q Z B k n h pc' Ls (.int (x1 ^^^ y1) :: st)) : Go Q Z B k n h pc Ls (.int y1 :: .int x1 :: st) := fun x T P => by
  subst hp; exact lift (fun t q => XT.ixor P.here P.ex rfl (P.d hd) rfl q) (r x T P)
theorem Go.ior (pc' : Nat) (hp : pc + 1 = pc') {x1 y1 : Int32} (hd : decode B.by pc = .ok (.ior, 1))  (r : Go Q Z B k n h pc' Ls (.int (x1 ||| y1) :: st)) : Go Q Z B k n h pc Ls (.int y1 :: .int x1 :: st) := fun x T P => by
  subst hp; exact lift (fun t q => XT.ior P.here P.ex rfl (P.d hd) rfl q) (r x T P)
theorem Go.ishl (pc' : Nat) (hp : pc + 1 = pc') {x1 y1 : Int32} (hd : decode B.by pc = .ok (.ishl, 1))  (r : Go Q Z B k n h pc' Ls (.int (x1 <<< (y1 &&& 31)) :: st)) : Go Q Z B k n h pc Ls (.int y1 :: .int x1 :: st) := fun x T P => by
  subst hp; exact lift (fun t q => XT.ishl P.here P.ex rfl (P.d hd) rfl q) (r x T P)
theorem Go.ishr (pc' : Nat) (hp : pc + 1 = pc') {x1 y1 : Int32} (hd : decode B.by pc = .ok (.ishr, 1))  (r : Go Q Z B k n h pc' Ls (.int (x1 >>> (y1 &&& 31)) :: st)) : Go Q Z B k n h pc Ls (.int y1 :: .int x1 :: st) := fun x T P => by
  subst hp; exact lift (fun t q => XT.ishr P.here P.ex rfl (P.d hd) rfl q) (r x T P)
theorem Go.iushr (pc' : Nat) (hp : pc + 1 = pc') {x1 y1 : Int32} (hd : decode B.by pc = .ok (.iushr, 1))  (r : Go Q Z B k n h pc' Ls (.int (XT.ushr x1 y1) :: st)) : Go Q Z B k n h pc Ls (.int y1 :: .int x1 :: st) := fun x T P => by
  subst hp; exact lift (fun t q => XT.iushr P.here P.ex rfl (P.d hd) rfl q) (r x T P)
theorem Go.idiv (pc' : Nat) (hp : pc + 1 = pc') {x1 y1 : Int32} (hd : decode B.by pc = .ok (.idiv, 1)) (hy : y1 ≠ 0) (r : Go Q Z B k n h pc' Ls (.int (x1 / y1) :: st)) : Go Q Z B k n h pc Ls (.int y1 :: .int x1 :: st) := fun x T P => by
  subst hp; exact lift (fun t q => XS.idiv P.here P.ex rfl (P.d hd) rfl hy q) (r x T P)
theorem Go.ladd (pc' : Nat) (hp : pc + 1 = pc') {x1 y1 : Int64} (hd : decode B.by pc = .ok (.ladd, 1))  (r : Go Q Z B k n h pc' Ls (.long (x1 + y1) :: st)) : Go Q Z B k n h pc Ls (.long y1 :: .long x1 :: st) := fun x T P => by
  subst hp; exact lift (fun t q => XT.ladd P.here P.ex rfl (P.d hd) rfl q) (r x T P)
theorem Go.lsub (pc' : Nat) (hp : pc + 1 = pc') {x1 y1 : Int64} (hd : decode B.by pc = .ok (.lsub, 1))  (r : Go Q Z B k n h pc' Ls (.long (x1 - y1) :: st)) : Go Q Z B k n h pc Ls (.long y1 :: .long x1 :: st) := fun x T P => by
  subst hp; exact lift (fun t q => XT.lsub P.here P.ex rfl (P.d hd) rfl q) (r x T P)
theorem Go.land (pc' : Nat) (hp : pc + 1 = pc') {x1 y1 : Int64} (hd : decode B.by pc = .ok (.land, 1))  (r : Go Q Z B k n h pc' Ls (.long (x1 &&& y1) :: st)) : Go Q Z B k n h pc Ls (.long y1 :: .long x1 :: st) := fun x T P => by
  subst hp; exact lift (fun t q => XT.land P.here P.ex rfl (P.d hd) rfl q) (r x T P)
theorem Go.lmul (pc' : Nat) (hp : pc + 1 = pc') {x1 y1 : Int64} (hd : decode B.by pc = .ok (.lmul, 1))  (r : Go Q Z B k n h pc' Ls (.long (x1 * y1) :: st)) : Go Q Z B k n h pc Ls (.long y1 :: .long x1 :: st) := fun x T P => by
  subst hp; exact lift (fun t q => XT.lmul P.here P.ex rfl (P.d hd) rfl q) (r x T P)
theorem Go.lxor (pc' : Nat) (hp : pc + 1 = pc') {x1 y1 : Int64} (hd : decode B.by pc = .ok (.lxor, 1))  (r : Go Q Z B k n h pc' Ls (.long (x1 ^^^ y1) :: st)) : Go Q Z B k n h pc Ls (.long y1 :: .long x1 :: st) := fun x T P => by
  subst hp; exact lift (fun t q => XT.lxor P.here P.ex rfl (P.d hd) rfl q) (r x T P)
theorem Go.lor (pc' : Nat) (hp : pc + 1 = pc') {x1 y1 : Int64} (hd : decode B.by pc = .ok (.lor, 1))  (r : Go Q Z B k n h pc' Ls (.long (x1 ||| y1) :: st)) : Go Q Z B k n h pc Ls (.long y1 :: .long x1 :: st) := fun x T P => by
  subst hp; exact lift (fun t q => XT.lor P.here P.ex rfl (P.d hd) rfl q) (r x T P)
theorem Go.lshl (pc' : Nat) (hp : pc + 1 = pc') {x1 : Int64} {y1 : Int32} (hd : decode B.by pc = .ok (.lshl, 1))  (r : Go Q Z B k n h pc' Ls (.long (x1 <<< (y1.toInt64 &&& 63)) :: st)) : Go Q Z B k n h pc Ls (.int y1 :: .long x1 :: st) := fun x T P => by
  subst hp; exact lift (fun t q => XT.lshl P.here P.ex rfl (P.d hd) rfl q) (r x T P)
theorem Go.lshr (pc' : Nat) (hp : pc + 1 = pc') {x1 : Int64} {y1 : Int32} (hd : decode B.by pc = .ok (.lshr, 1))  (r : Go Q Z B k n h pc' Ls (.long (x1 >>> (y1.toInt64 &&& 63)) :: st)) : Go Q Z B k n h pc Ls (.int y1 :: .long x1 :: st) := fun x T P => by
  subst hp; exact lift (fun t q => XT.lshr P.here P.ex rfl (P.d hd) rfl q) (r x T P)
theorem Go.lushr (pc' : Nat) (hp : pc + 1 = pc') {x1 : Int64} {y1 : Int32} (hd : decode B.by pc = .ok (.lushr, 1))  (r : Go Q Z B k n h pc' Ls (.long (XT.ushrL x1 y1) :: st)) : Go Q Z B k n h pc Ls (.int y1 :: .long x1 :: st) := fun x T P => by
  subst hp; exact lift (fun t q => XT.lushr P.here P.ex rfl (P.d hd) rfl q) (r x T P)
theorem Go.ldiv (pc' : Nat) (hp : pc + 1 = pc') {x1 y1 : Int64} (hd : decode B.by pc = .ok (.ldiv, 1)) (hy : y1 ≠ 0) (r : Go Q Z B k n h pc' Ls (.long (x1 / y1) :: st)) : Go Q Z B k n h pc Ls (.long y1 :: .long x1 :: st) := fun x T P => by
  subst hp; exact lift (fun t q => XT.ldiv P.here P.ex rfl (P.d hd) rfl hy q) (r x T P)
theorem Go.lrem (pc' : Nat) (hp : pc + 1 = pc') {x1 y1 : Int64} (hd : decode B.by pc = .ok (.lrem, 1)) (hy : y1 ≠ 0) (r : Go Q Z B k n h pc' Ls (.long (x1 % y1) :: st)) : Go Q Z B k n h pc Ls (.long y1 :: .long x1 :: st) := fun x T P => by
  subst hp; exact lift (fun t q => XT.lrem P.here P.ex rfl (P.d hd) rfl hy (by rw [lrem_mod]; exact q)) (r x T P)
theorem Go.lneg (pc' : Nat) (hp : pc + 1 = pc') {x1 : Int64} (hd : decode B.by pc = .ok (.lneg, 1))  (r : Go Q Z B k n h pc' Ls (.long (-x1) :: st)) : Go Q Z B k n h pc Ls (.long x1 :: st) := fun x T P => by
  subst hp; exact lift (fun t q => XT.lneg P.here P.ex rfl (P.d hd) rfl q) (r x T P)
theorem Go.ineg (pc' : Nat) (hp : pc + 1 = pc') {x1 : Int32} (hd : decode B.by pc = .ok (.ineg, 1))  (r : Go Q Z B k n h pc' Ls (.int (-x1) :: st)) : Go Q Z B k n h pc Ls (.int x1 :: st) := fun x T P => by
  subst hp; exact lift (fun t q => XS.ineg P.here P.ex rfl (P.d hd) rfl q) (r x T P)
theorem Go.i2l (pc' : Nat) (hp : pc + 1 = pc') {x1 : Int32} (hd : decode B.by pc = .ok (.i2l, 1))  (r : Go Q Z B k n h pc' Ls (.long x1.toInt64 :: st)) : Go Q Z B k n h pc Ls (.int x1 :: st) := fun x T P => by
  subst hp; exact lift (fun t q => XT.i2l P.here P.ex rfl (P.d hd) rfl q) (r x T P)
theorem Go.l2i (pc' : Nat) (hp : pc + 1 = pc') {x1 : Int64} (hd : decode B.by pc = .ok (.l2i, 1))  (r : Go Q Z B k n h pc' Ls (.int x1.toInt32 :: st)) : Go Q Z B k n h pc Ls (.long x1 :: st) := fun x T P => by
  subst hp; exact lift (fun t q => XT.l2i P.here P.ex rfl (P.d hd) rfl q) (r x T P)
theorem Go.i2b (pc' : Nat) (hp : pc + 1 = pc') {x1 : Int32} (hd : decode B.by pc = .ok (.i2b, 1))  (r : Go Q Z B k n h pc' Ls (.int x1.toInt8.toInt32 :: st)) : Go Q Z B k n h pc Ls (.int x1 :: st) := fun x T P => by
  subst hp; exact lift (fun t q => XT.i2b P.here P.ex rfl (P.d hd) rfl q) (r x T P)
theorem Go.i2c (pc' : Nat) (hp : pc + 1 = pc') {x1 : Int32} (hd : decode B.by pc = .ok (.i2c, 1))  (r : Go Q Z B k n h pc' Ls (.int x1.toUInt32.toUInt16.toUInt32.toInt32 :: st)) : Go Q Z B k n h pc Ls (.int x1 :: st) := fun x T P => by
  subst hp; exact lift (fun t q => XT.i2c P.here P.ex rfl (P.d hd) rfl q) (r x T P)
theorem Go.i2s (pc' : Nat) (hp : pc + 1 = pc') {x1 : Int32} (hd : decode B.by pc = .ok (.i2s, 1))  (r : Go Q Z B k n h pc' Ls (.int x1.toInt16.toInt32 :: st)) : Go Q Z B k n h pc Ls (.int x1 :: st) := fun x T P => by
  subst hp; exact lift (fun t q => XT.i2s P.here P.ex rfl (P.d hd) rfl q) (r x T P)
theorem Go.lcmp (pc' : Nat) (hp : pc + 1 = pc') {x1 y1 : Int64} (hd : decode B.by pc = .ok (.lcmp, 1))  (r : Go Q Z B k n h pc' Ls (.int (XT.cmpL x1 y1) :: st)) : Go Q Z B k n h pc Ls (.long y1 :: .long x1 :: st) := fun x T P => by
  subst hp; exact lift (fun t q => XT.lcmp P.here P.ex rfl (P.d hd) rfl q) (r x T P)
theorem Go.i2d (pc' : Nat) (hp : pc + 1 = pc') {x1 : Int32} (hd : decode B.by pc = .ok (.i2d, 1))  (r : Go Q Z B k n h pc' Ls (.double (FP.i2d x1) :: st)) : Go Q Z B k n h pc Ls (.int x1 :: st) := fun x T P => by
  subst hp; exact lift (fun t q => XS.i2dS P.here P.ex rfl (P.d hd) rfl rfl q) (r x T P)
theorem Go.l2d (pc' : Nat) (hp : pc + 1 = pc') {x1 : Int64} (hd : decode B.by pc = .ok (.l2d, 1))  (r : Go Q Z B k n h pc' Ls (.double (FP.l2d x1) :: st)) : Go Q Z B k n h pc Ls (.long x1 :: st) := fun x T P => by
  subst hp; exact lift (fun t q => XS.l2dS P.here P.ex rfl (P.d hd) rfl rfl q) (r x T P)
theorem Go.dcmp (pc' : Nat) (hp : pc + 1 = pc') {o : CmpOp} {x1 y1 : UInt64} (v : Int32) (hd : decode B.by pc = .ok (.dcmp o, 1)) (hv : cmpValue (FP.dcmp x1 y1) o = v) (r : Go Q Z B k n h pc' Ls (.int v :: st)) : Go Q Z B k n h pc Ls (.double y1 :: .double x1 :: st) := fun x T P => by
  subst hp; exact lift (fun t q => XS.dcmpS P.here P.ex rfl (P.d hd) rfl hv q) (r x T P)
theorem Go.ddiv (pc' : Nat) (hp : pc + 1 = pc') {x1 y1 : UInt64} (hd : decode B.by pc = .ok (.ddiv, 1)) (hn : Jvm.Free.Fl.NoNaN64 (FP.ddiv x1 y1)) (r : Go Q Z B k n h pc' Ls (.double (FP.ddiv x1 y1) :: st)) : Go Q Z B k n h pc Ls (.double y1 :: .double x1 :: st) := fun x T P => by
  subst hp; exact lift (fun t q => XS.ddivS P.here P.ex rfl (P.d hd) rfl hn rfl q) (r x T P)
theorem Go.dup (pc' : Nat) (hp : pc + 1 = pc') {v : Value} (hd : decode B.by pc = .ok (.dup, 1)) (hc : v.category = 1) (r : Go Q Z B k n h pc' Ls (v :: v :: st)) : Go Q Z B k n h pc Ls (v :: st) := fun x T P => by
  subst hp; exact lift (fun t q => XS.dup P.here P.ex rfl (P.d hd) rfl hc q) (r x T P)
theorem Go.pop (pc' : Nat) (hp : pc + 1 = pc') {v : Value} (hd : decode B.by pc = .ok (.pop, 1)) (hc : v.category = 1) (r : Go Q Z B k n h pc' Ls (st)) : Go Q Z B k n h pc Ls (v :: st) := fun x T P => by
  subst hp; exact lift (fun t q => XT.pop P.here P.ex rfl (P.d hd) rfl hc q) (r x T P)
theorem Go.dupX1 (pc' : Nat) (hp : pc + 1 = pc') {v w : Value} (hd : decode B.by pc = .ok (.dup_x1, 1)) (hc : v.category = 1) (hc' : w.category = 1) (r : Go Q Z B k n h pc' Ls (v :: w :: v :: st)) : Go Q Z B k n h pc Ls (v :: w :: st) := fun x T P => by
  subst hp; exact lift (fun t q => XT.dupX1 P.here P.ex rfl (P.d hd) rfl hc hc' q) (r x T P)
theorem Go.dup2 (pc' : Nat) (hp : pc + 1 = pc') {v w : Value} (hd : decode B.by pc = .ok (.dup2, 1)) (hc : v.category = 1) (hc' : w.category = 1) (r : Go Q Z B k n h pc' Ls (v :: w :: v :: w :: st)) : Go Q Z B k n h pc Ls (v :: w :: st) := fun x T P => by
  subst hp; exact lift (fun t q => XT.dup2 P.here P.ex rfl (P.d hd) rfl hc hc' q) (r x T P)
theorem Go.dup2L (pc' : Nat) (hp : pc + 1 = pc') {v : Int64} (hd : decode B.by pc = .ok (.dup2, 1))  (r : Go Q Z B k n h pc' Ls (.long v :: .long v :: st)) : Go Q Z B k n h pc Ls (.long v :: st) := fun x T P => by
  subst hp; exact lift (fun t q => XT.dup2L P.here P.ex rfl (P.d hd) rfl q) (r x T P)
theorem Go.iinc (pc' : Nat) (hp : pc + 3 = pc') {i : Nat} {cst : Int} {x1 : Int32} (v : Int32) (hd : decode B.by pc = .ok (.iinc i cst, 3)) (hv : Int32.ofInt cst = v) (hl : Ls[i]? = some (.val (.int x1))) (hl' : storeLocals Ls i (.int (x1 + v)) = some Ls') (r : Go Q Z B k n h pc' Ls' (st)) : Go Q Z B k n h pc Ls (st) := fun x T P => by
  subst hp; exact lift (fun t q => XT.iincV P.here P.ex rfl v (P.d hd) hv hl hl' q) (r x T P)
theorem Go.irem (pc' : Nat) (hp : pc + 1 = pc') {x1 y1 : Int32} (hd : decode B.by pc = .ok (.irem, 1)) (hy : y1 ≠ 0) (r : Go Q Z B k n h pc' Ls (.int (x1 % y1) :: st)) : Go Q Z B k n h pc Ls (.int y1 :: .int x1 :: st) := fun x T P => by
  subst hp; obtain ⟨_, _, _, X, _⟩ := id P; exact lift (fun t q => iremM X P.ex rfl (P.d hd) rfl hy q) (r x T P)
theorem Go.goto (pc' : Nat) {o : Int} (hd : decode B.by pc = .ok (.goto o, 3)) (h0 : 0 ≤ (pc : Int) + o) (hp : ((pc : Int) + o).toNat = pc') (r : Go Q Z B k n h pc' Ls st) : Go Q Z B k n h pc Ls st := fun x T P =>
  lift (fun t q => XS.goto P.here P.ex rfl (pc0 := pc) rfl (P.d hd) h0 hp q) (r x T P)
theorem Go.icmp_lt (pT pF : Nat) {x1 y1 : Int32} {o : Int} (hd : decode B.by pc = .ok (.if_icmp .lt o, 3)) (h0 : 0 ≤ (pc : Int) + o) (hT : ((pc : Int) + o).toNat = pT) (hF : pc + 3 = pF) (rT : x1 < y1 → Go Q Z B k n h pT Ls st) (rF : ¬ x1 < y1 → Go Q Z B k n h pF Ls st) : Go Q Z B k n h pc Ls (.int y1 :: .int x1 :: st) := fun x T P => by
  subst hF
  by_cases c : x1 < y1
  · exact lift (fun t q => XS.icmpYes P.here P.ex rfl (pc0 := pc) rfl (P.d hd) rfl (tlt c).1 h0 hT q) (rT c x T P)
  · exact lift (fun t q => XS.icmpNo P.here P.ex rfl (P.d hd) rfl (flt c).1 q) (rF c x T P)
theorem Go.if_lt (pT pF : Nat) {x1 : Int32} {o : Int} (hd : decode B.by pc = .ok (.ifCond .lt o, 3)) (h0 : 0 ≤ (pc : Int) + o) (hT : ((pc : Int) + o).toNat = pT) (hF : pc + 3 = pF) (rT : x1 < 0 → Go Q Z B k n h pT Ls st) (rF : ¬ x1 < 0 → Go Q Z B k n h pF Ls st) : Go Q Z B k n h pc Ls (.int x1 :: st) := fun x T P => by
  subst hF
  by_cases c : x1 < 0
  · exact lift (fun t q => XS.ifYes P.here P.ex rfl (pc0 := pc) rfl (P.d hd) rfl ((if0 _ _).trans (tlt c).1) h0 hT q) (rT c x T P)
  · exact lift (fun t q => XS.ifNo P.here P.ex rfl (P.d hd) rfl ((if0 _ _).trans (flt c).1) q) (rF c x T P)
theorem Go.icmp_ge (pT pF : Nat) {x1 y1 : Int32} {o : Int} (hd : decode B.by pc = .ok (.if_icmp .ge o, 3)) (h0 : 0 ≤ (pc : Int) + o) (hT : ((pc : Int) + o).toNat = pT) (hF : pc + 3 = pF) (rT : ¬ x1 < y1 → Go Q Z B k n h pT Ls st) (rF : x1 < y1 → Go Q Z B k n h pF Ls st) : Go Q Z B k n h pc Ls (.int y1 :: .int x1 :: st) := fun x T P => by
  subst hF
  by_cases c : ¬ x1 < y1
  · exact lift (fun t q => XS.icmpYes P.here P.ex rfl (pc0 := pc) rfl (P.d hd) rfl (flt c).2.1 h0 hT q) (rT c x T P)
  · replace c := Decidable.not_not.mp c
    exact lift (fun t q => XS.icmpNo P.here P.ex rfl (P.d hd) rfl (tlt c).2.1 q) (rF c x T P)
theorem Go.if_ge (pT pF : Nat) {x1 : Int32} {o : Int} (hd : decode B.by pc = .ok (.ifCond .ge o, 3)) (h0 : 0 ≤ (pc : Int) + o) (hT : ((pc : Int) + o).toNat = pT) (hF : pc + 3 = pF) (rT : ¬ x1 < 0 → Go Q Z B k n h pT Ls st) (rF : x1 < 0 → Go Q Z B k n h pF Ls st) : Go Q Z B k n h pc Ls (.int x1 :: st) := fun x T P => by
  subst hF
  by_cases c : ¬ x1 < 0
  · exact lift (fun t q => XS.ifYes P.here P.ex rfl (pc0 := pc) rfl (P.d hd) rfl ((if0 _ _).trans (flt c).2.1) h0 hT q) (rT c x T P)
  · replace c := Decidable.not_not.mp c
    exact lift (fun t q => XS.ifNo P.here P.ex rfl (P.d hd) rfl ((if0 _ _).trans (tlt c).2.1) q) (rF c x T P)
theorem Go.icmp_gt (pT pF : Nat) {x1 y1 : Int32} {o : Int} (hd : decode B.by pc = .ok (.if_icmp .gt o, 3)) (h0 : 0 ≤ (pc : Int) + o) (hT : ((pc : Int) + o).toNat = pT) (hF : pc + 3 = pF) (rT : y1 < x1 → Go Q Z B k n h pT Ls st) (rF : ¬ y1 < x1 → Go Q Z B k n h pF Ls st) : Go Q Z B k n h pc Ls (.int y1 :: .int x1 :: st) := fun x T P => by
  subst hF
  by_cases c : y1 < x1
  · exact lift (fun t q => XS.icmpYes P.here P.ex rfl (pc0 := pc) rfl (P.d hd) rfl (tlt c).2.2.1 h0 hT q) (rT c x T P)
  · exact lift (fun t q => XS.icmpNo P.here P.ex rfl (P.d hd) rfl (flt c).2.2.1 q) (rF c x T P)
theorem Go.if_gt (pT pF : Nat) {x1 : Int32} {o : Int} (hd : decode B.by pc = .ok (.ifCond .gt o, 3)) (h0 : 0 ≤ (pc : Int) + o) (hT : ((pc : Int) + o).toNat = pT) (hF : pc + 3 = pF) (rT : 0 < x1 → Go Q Z B k n h pT Ls st) (rF : ¬ 0 < x1 → Go Q Z B k n h pF Ls st) : Go Q Z B k n h pc Ls (.int x1 :: st) := fun x T P => by
  subst hF
  by_cases c : 0 < x1
  · exact lift (fun t q => XS.ifYes P.here P.ex rfl (pc0 := pc) rfl (P.d hd) rfl ((if0 _ _).trans (tlt c).2.2.1) h0 hT q) (rT c x T P)
  · exact lift (fun t q => XS.ifNo P.here P.ex rfl (P.d hd) rfl ((if0 _ _).trans (flt c).2.2.1) q) (rF c x T P)
theorem Go.icmp_le (pT pF : Nat) {x1 y1 : Int32} {o : Int} (hd : decode B.by pc = .ok (.if_icmp .le o, 3)) (h0 : 0 ≤ (pc : Int) + o) (hT : ((pc : Int) + o).toNat = pT) (hF : pc + 3 = pF) (rT : ¬ y1 < x1 → Go Q Z B k n h pT Ls st) (rF : y1 < x1 → Go Q Z B k n h pF Ls st) : Go Q Z B k n h pc Ls (.int y1 :: .int x1 :: st) := fun x T P => by
  subst hF
  by_cases c : ¬ y1 < x1
  · exact lift (fun t q => XS.icmpYes P.here P.ex rfl (pc0 := pc) rfl (P.d hd) rfl (flt c).2.2.2 h0 hT q) (rT c x T P)
  · replace c := Decidable.not_not.mp c
    exact lift (fun t q => XS.icmpNo P.here P.ex rfl (P.d hd) rfl (tlt c).2.2.2 q) (rF c x T P)
theorem Go.if_le (pT pF : Nat) {x1 : Int32} {o : Int} (hd : decode B.by pc = .ok (.ifCond .le o, 3)) (h0 : 0 ≤ (pc : Int) + o) (hT : ((pc : Int) + o).toNat = pT) (hF : pc + 3 = pF) (rT : ¬ 0 < x1 → Go Q Z B k n h pT Ls st) (rF : 0 < x1 → Go Q Z B k n h pF Ls st) : Go Q Z B k n h pc Ls (.int x1 :: st) := fun x T P => by
  subst hF
  by_cases c : ¬ 0 < x1
  · exact lift (fun t q => XS.ifYes P.here P.ex rfl (pc0 := pc) rfl (P.d hd) rfl ((if0 _ _).trans (flt c).2.2.2) h0 hT q) (rT c x T P)
  · replace c := Decidable.not_not.mp c
    exact lift (fun t q => XS.ifNo P.here P.ex rfl (P.d hd) rfl ((if0 _ _).trans (tlt c).2.2.2) q) (rF c x T P)
theorem Go.icmp_eq (pT pF : Nat) {x1 y1 : Int32} {o : Int} (hd : decode B.by pc = .ok (.if_icmp .eq o, 3)) (h0 : 0 ≤ (pc : Int) + o) (hT : ((pc : Int) + o).toNat = pT) (hF : pc + 3 = pF) (rT : x1 = y1 → Go Q Z B k n h pT Ls st) (rF : ¬ x1 = y1 → Go Q Z B k n h pF Ls st) : Go Q Z B k n h pc Ls (.int y1 :: .int x1 :: st) := fun x T P => by
  subst hF
  by_cases c : x1 = y1
  · exact lift (fun t q => XS.icmpYes P.here P.ex rfl (pc0 := pc) rfl (P.d hd) rfl (teq c).1 h0 hT q) (rT c x T P)
  · exact lift (fun t q => XS.icmpNo P.here P.ex rfl (P.d hd) rfl (feq c).1 q) (rF c x T P)
theorem Go.if_eq (pT pF : Nat) {x1 : Int32} {o : Int} (hd : decode B.by pc = .ok (.ifCond .eq o, 3)) (h0 : 0 ≤ (pc : Int) + o) (hT : ((pc : Int) + o).toNat = pT) (hF : pc + 3 = pF) (rT : x1 = 0 → Go Q Z B k n h pT Ls st) (rF : ¬ x1 = 0 → Go Q Z B k n h pF Ls st) : Go Q Z B k n h pc Ls (.int x1 :: st) := fun x T P => by
  subst hF
  by_cases c : x1 = 0
  · exact lift (fun t q => XS.ifYes P.here P.ex rfl (pc0 := pc) rfl (P.d hd) rfl ((if0 _ _).trans (teq c).1) h0 hT q) (rT c x T P)
  · exact lift (fun t q => XS.ifNo P.here P.ex rfl (P.d hd) rfl ((if0 _ _).trans (feq c).1) q) (rF c x T P)
theorem Go.icmp_ne (pT pF : Nat) {x1 y1 : Int32} {o : Int} (hd : decode B.by pc = .ok (.if_icmp .ne o, 3)) (h0 : 0 ≤ (pc : Int) + o) (hT : ((pc : Int) + o).toNat = pT) (hF : pc + 3 = pF) (rT : ¬ x1 = y1 → Go Q Z B k n h pT Ls st) (rF : x1 = y1 → Go Q Z B k n h pF Ls st) : Go Q Z B k n h pc Ls (.int y1 :: .int x1 :: st) := fun x T P => by
  subst hF
  by_cases c : ¬ x1 = y1
  · exact lift (fun t q => XS.icmpYes P.here P.ex rfl (pc0 := pc) rfl (P.d hd) rfl (feq c).2 h0 hT q) (rT c x T P)
  · replace c := Decidable.not_not.mp c
    exact lift (fun t q => XS.icmpNo P.here P.ex rfl (P.d hd) rfl (teq c).2 q) (rF c x T P)
theorem Go.if_ne (pT pF : Nat) {x1 : Int32} {o : Int} (hd : decode B.by pc = .ok (.ifCond .ne o, 3)) (h0 : 0 ≤ (pc : Int) + o) (hT : ((pc : Int) + o).toNat = pT) (hF : pc + 3 = pF) (rT : ¬ x1 = 0 → Go Q Z B k n h pT Ls st) (rF : x1 = 0 → Go Q Z B k n h pF Ls st) : Go Q Z B k n h pc Ls (.int x1 :: st) := fun x T P => by
  subst hF
  by_cases c : ¬ x1 = 0
  · exact lift (fun t q => XS.ifYes P.here P.ex rfl (pc0 := pc) rfl (P.d hd) rfl ((if0 _ _).trans (feq c).2) h0 hT q) (rT c x T P)
  · replace c := Decidable.not_not.mp c
    exact lift (fun t q => XS.ifNo P.here P.ex rfl (P.d hd) rfl ((if0 _ _).trans (teq c).2) q) (rF c x T P)
theorem Go.ifnull_r (pF : Nat) {o : Int} {b : Addr} (hd : decode B.by pc = .ok (.ifnull o, 3)) (hF : pc + 3 = pF) (r : Go Q Z B k n h pF Ls st) : Go Q Z B k n h pc Ls (.ref b :: st) := fun x T P => by
  subst hF; exact lift (fun t q => XS.ifnullNo P.here P.ex rfl (P.d hd) rfl q) (r x T P)
theorem Go.ifnull_n (pT : Nat) {o : Int} (hd : decode B.by pc = .ok (.ifnull o, 3)) (h0 : 0 ≤ (pc : Int) + o) (hT : ((pc : Int) + o).toNat = pT) (r : Go Q Z B k n h pT Ls st) : Go Q Z B k n h pc Ls (.null :: st) := fun x T P =>
  lift (fun t q => XS.ifnullYes P.here P.ex rfl (pc0 := pc) rfl (P.d hd) rfl h0 hT q) (r x T P)
theorem Go.ifnonnull_r (pT : Nat) {o : Int} {b : Addr} (hd : decode B.by pc = .ok (.ifnonnull o, 3)) (h0 : 0 ≤ (pc : Int) + o) (hT : ((pc : Int) + o).toNat = pT) (r : Go Q Z B k n h pT Ls st) : Go Q Z B k n h pc Ls (.ref b :: st) := fun x T P =>
  lift (fun t q => XT.ifnonnullYes P.here P.ex rfl (pc0 := pc) rfl (P.d hd) rfl h0 hT q) (r x T P)
theorem Go.ifnonnull_n (pF : Nat) {o : Int} (hd : decode B.by pc = .ok (.ifnonnull o, 3)) (hF : pc + 3 = pF) (r : Go Q Z B k n h pF Ls st) : Go Q Z B k n h pc Ls (.null :: st) := fun x T P => by
  subst hF; exact lift (fun t q => XT.ifnonnullNo P.here P.ex rfl (P.d hd) rfl q) (r x T P)
theorem Go.acmp_eq (pT pF : Nat) {v w : Value} {o : Int} (hd : decode B.by pc = .ok (.if_acmp .eq o, 3)) (h0 : 0 ≤ (pc : Int) + o) (hT : ((pc : Int) + o).toNat = pT) (hF : pc + 3 = pF) (hv : v.isRef = true) (hw : w.isRef = true) (rT : v = w → Go Q Z B k n h pT Ls st) (rF : ¬ v = w → Go Q Z B k n h pF Ls st) : Go Q Z B k n h pc Ls (w :: v :: st) := fun x T P => by
  subst hF
  by_cases c : v = w
  · exact lift (fun t q => XT.acmpYes P.here P.ex rfl (pc0 := pc) rfl (P.d hd) rfl hv hw (XT.aa_eq_t c) h0 hT q) (rT c x T P)
  · exact lift (fun t q => XT.acmpNo P.here P.ex rfl (P.d hd) rfl hv hw (XT.aa_eq_f c) q) (rF c x T P)
theorem Go.acmp_ne (pT pF : Nat) {v w : Value} {o : Int} (hd : decode B.by pc = .ok (.if_acmp .ne o, 3)) (h0 : 0 ≤ (pc : Int) + o) (hT : ((pc : Int) + o).toNat = pT) (hF : pc + 3 = pF) (hv : v.isRef = true) (hw : w.isRef = true) (rT : ¬ v = w → Go Q Z B k n h pT Ls st) (rF : v = w → Go Q Z B k n h pF Ls st) : Go Q Z B k n h pc Ls (w :: v :: st) := fun x T P => by
  subst hF
  by_cases c : ¬ v = w
  · exact lift (fun t q => XT.acmpYes P.here P.ex rfl (pc0 := pc) rfl (P.d hd) rfl hv hw (XT.aa_ne_t c) h0 hT q) (rT c x T P)
  · replace c := Decidable.not_not.mp c
    exact lift (fun t q => XT.acmpNo P.here P.ex rfl (P.d hd) rfl hv hw (XT.aa_ne_f c) q) (rF c x T P)
theorem En.zz (E : En Z x B) : Z.Warmed39 x.s.vm := E.2.2.2.2.2.2.1
theorem En.own (E : En Z x B) : x.s.vm.findClass B.y.cls = some x.m.cls := E.2.2.2.1
theorem En.ml (E : En Z x B) : x.c.maxLocals = B.ml := E.2.2.1
theorem En.rt (E : En Z x B) : x.meth.sig.returnType = B.rt := E.2.2.2.2.2.1
theorem En.nl (E : En Z x B) : x.meth.locks = false := E.2.2.2.2.2.2.2.1
/-! ## constants of the pool -/
theorem Go.ldcI (pc' : Nat) (hp : pc + 2 = pc') {ix : Nat} {v : Int32} (i : Nat) (hd : decode B.by pc = .ok (.ldc ix, 2)) (w : B.tb[i]? = some (.constant B.y.cls ix v)) (r : Go Q Z B k n h pc' Ls (.int v :: st)) : Go Q Z B k n h pc Ls st := fun x T P => by
  subst hp
  obtain ⟨a0, hw⟩ := P.wd.w
  obtain ⟨E, _, _, X, _⟩ := id P
  exact lift (fun t q => X.ldcI P.ex E.own (mv E.zz (hw w)) rfl (P.d hd) q) (r x T P)
theorem Go.ldcWI (pc' : Nat) (hp : pc + 3 = pc') {ix : Nat} {v : Int32} (i : Nat) (hd : decode B.by pc = .ok (.ldc_w ix, 3)) (w : B.tb[i]? = some (.constant B.y.cls ix v)) (r : Go Q Z B k n h pc' Ls (.int v :: st)) : Go Q Z B k n h pc Ls st := fun x T P => by
  subst hp
  obtain ⟨a0, hw⟩ := P.wd.w
  obtain ⟨E, _, _, X, _⟩ := id P
  exact lift (fun t q => X.ldcWI P.ex E.own (mv E.zz (hw w)) rfl (P.d hd) q) (r x T P)
theorem Go.ldc2J (pc' : Nat) (hp : pc + 3 = pc') {ix : Nat} {v : Int64} (i : Nat) (hd : decode B.by pc = .ok (.ldc2_w ix, 3)) (w : B.tb[i]? = some (.constantLong B.y.cls ix v)) (r : Go Q Z B k n h pc' Ls (.long v :: st)) : Go Q Z B k n h pc Ls st := fun x T P => by
  subst hp
  obtain ⟨a0, hw⟩ := P.wd.w
  obtain ⟨E, _, _, X, _⟩ := id P
  exact lift (fun t q => X.ldc2J P.ex E.own (mv E.zz (hw w)) rfl (P.d hd) q) (r x T P)
theorem Go.ldc2D (pc' : Nat) (hp : pc + 3 = pc') {ix : Nat} {v : UInt64} (i : Nat) (hd : decode B.by pc = .ok (.ldc2_w ix, 3)) (w : B.tb[i]? = some (.constantDouble B.y.cls ix v)) (r : Go Q Z B k n h pc' Ls (.double v :: st)) : Go Q Z B k n h pc Ls st := fun x T P => by
  subst hp
  obtain ⟨a0, hw⟩ := P.wd.w
  obtain ⟨E, _, _, X, _⟩ := id P
  exact lift (fun t q => X.ldc2DoubleC P.ex E.own (mv E.zz (hw w)) (g := mkF x.m pc Ls st) rfl (P.d hd) t q) (r x T P)
/-! ## objects -/
theorem ltN {a : Addr} {m : Nat} (q : @LT.lt Nat instLTNat a m) : @LT.lt Nat instLTNat a m := q
theorem keep_ext (E : Ext h h') : Keep h h' [] := (Keep.refl h []).ext E
theorem keep_wr {a : Addr} {sl : Nat} {v : Value} (W : Wr h h' a sl v) : Keep h h' [a] := Keep.of_wr W
theorem ext_keep {H : Heap} {ws : List Addr} (E : Ext H h) (K : Keep h h' ws) (q : ∀ y ∈ ws, H.size ≤ y) : Ext H h' :=
  ⟨Nat.le_trans E.1 K.1, fun y c r => K.2.1 y c (E.2 y c r) fun z => absurd (Array.getElem?_eq_some_iff.mp r).1 (Nat.not_lt.mpr (q y z))⟩
theorem ge1 {H : Nat} {a : Addr} (q : H ≤ a) : ∀ y ∈ [a], H ≤ y := allS q all0
theorem fr_snoc {K : Nat} {locs : List Loc} {a : Addr} {sl : Nat} (N : Fr K locs) (q : K ≤ a) : Fr K (locs ++ [⟨a, sl⟩]) := N.app fun y hy => by cases List.mem_singleton.mp hy; exact q
theorem Go.newO (pc' : Nat) (hp : pc + 3 = pc') {C : String} {ix sz : Nat} (i1 i2 i3 : Nat) (hd : decode B.by pc = .ok (.new ix, 3)) (w1 : B.tb[i1]? = some (.classLink B.y.cls ix C)) (w2 : B.tb[i2]? = some (.instantiable C sz)) (w3 : B.tb[i3]? = some (.initialized C)) (hc : k + 1 ≤ B.R.cells) (hl : n + sz ≤ B.R.slots)
    (r : ∀ (h' : Heap) (a : Addr), @Eq Nat a h.size → Z.heap.size ≤ a → Keep h h' [] → Exa Z h' a C → (∀ (i : Nat) {O nm d : String} {ty : FieldType}, B.tb[i]? = some (.lays C O nm d) ∨ B.tb[i]? = some (.laysFinal C O nm d) → parseFieldDescriptor d = some ty → Fld Z h' a O nm d (defaultValue ty)) → Go Q Z B (k + 1) (n + sz) h' pc' Ls (.ref a :: st)) : Go Q Z B k n h pc Ls st := fun x T P => by
  subst hp
  obtain ⟨a0, hw⟩ := P.wd.w
  obtain ⟨E, O', locs, X, e, N⟩ := id P
  obtain ⟨T', h', X', e', Ex, A, D, -, s'⟩ := RoadKit.newO X P.ex E.zz E.own (hw w1) (hw w2) (hw w3) e (g := mkF x.m pc Ls st) rfl (P.d hd) hc hl
  exact lift s' (r h' h.size rfl P.le (keep_ext Ex) A (fun i {O nm d ty} q ht => D (q.imp (fun z => hw z) (fun z => hw z)) ht) x T' ⟨E, ⟨Nat.le_trans O'.1 Ex.1, fun y c q => Ex.2 y c (O'.2 y c q)⟩, locs, X', e', N⟩)
theorem Go.getF (pc' : Nat) (hp : pc + 3 = pc') {O nm d : String} {ix : Nat} {a : Addr} {v : Value} (i : Nat) (hd : decode B.by pc = .ok (.getfield ix, 3)) (w : B.tb[i]? = some (.fieldLink B.y.cls ix O nm d)) (F : Fld Z h a O nm d v) (r : Go Q Z B k n h pc' Ls (v :: st)) : Go Q Z B k n h pc Ls (.ref a :: st) := fun x T P => by
  subst hp
  obtain ⟨a0, hw⟩ := P.wd.w
  obtain ⟨E, O', locs, X, e, N⟩ := id P
  obtain ⟨T', X', e', s'⟩ := RoadKit.getF X P.ex E.zz E.own (host := "") (Or.inl (hw w)) Via.refl e F (g := mkF x.m pc Ls (.ref a :: st)) rfl rfl (P.d hd)
  exact lift s' (r x T' ⟨E, O', locs, X', e', N⟩)
theorem Go.getFN (pc' : Nat) (hp : pc + 3 = pc') {O nm d host : String} {ix : Nat} {a : Addr} {v : Value} (i : Nat) (hd : decode B.by pc = .ok (.getfield ix, 3)) (w : B.tb[i]? = some (.fieldLinkNest B.y.cls ix O nm d host)) (F : Fld Z h a O nm d v) (r : Go Q Z B k n h pc' Ls (v :: st)) : Go Q Z B k n h pc Ls (.ref a :: st) := fun x T P => by
  subst hp
  obtain ⟨a0, hw⟩ := P.wd.w
  obtain ⟨E, O', locs, X, e, N⟩ := id P
  obtain ⟨T', X', e', s'⟩ := RoadKit.getF X P.ex E.zz E.own (host := host) (Or.inr (hw w)) Via.refl e F (g := mkF x.m pc Ls (.ref a :: st)) rfl rfl (P.d hd)
  exact lift s' (r x T' ⟨E, O', locs, X', e', N⟩)
theorem Go.getFV (pc' : Nat) (hp : pc + 3 = pc') {R0 O nm d : String} {ix : Nat} {a : Addr} {v : Value} (i j : Nat) (hd : decode B.by pc = .ok (.getfield ix, 3)) (w : B.tb[i]? = some (.fieldLink B.y.cls ix R0 nm d)) (w2 : B.tb[j]? = some (.sameField R0 O nm d)) (F : Fld Z h a O nm d v) (r : Go Q Z B k n h pc' Ls (v :: st)) : Go Q Z B k n h pc Ls (.ref a :: st) := fun x T P => by
  subst hp
  obtain ⟨a0, hw⟩ := P.wd.w
  obtain ⟨E, O', locs, X, e, N⟩ := id P
  obtain ⟨T', X', e', s'⟩ := RoadKit.getF X P.ex E.zz E.own (host := "") (Or.inl (hw w)) (Via.of (hw w2)) e F (g := mkF x.m pc Ls (.ref a :: st)) rfl rfl (P.d hd)
  exact lift s' (r x T' ⟨E, O', locs, X', e', N⟩)
theorem Go.putF (pc' : Nat) (hp : pc + 3 = pc') {C O nm d : String} {ix sz : Nat} {ty : FieldType} {a : Addr} {v v' old : Value} (i1 i2 i3 : Nat) (hd : decode B.by pc = .ok (.putfield ix, 3)) (w1 : B.tb[i1]? = some (.fieldLink B.y.cls ix O nm d)) (F : Fld Z h a O nm d old) (Ea : Exa Z h a C)
    (L : B.tb[i2]? = some (.lays C O nm d) ∨ (B.tb[i2]? = some (.laysFinal C O nm d) ∧ B.y.cls = O ∧ B.y.name = "<init>")) (w3 : B.tb[i3]? = some (.instantiable C sz)) (hty : parseFieldDescriptor d = some ty) (hn : narrow ty v = v') (hf : fits ty v' = true) (ge : Z.heap.size ≤ a)
    (r : ∀ h' : Heap, Keep h h' [a] → Wr h h' a (RoadKit.slotOf Z O nm d) v' → Fld Z h' a O nm d v' → Go Q Z B k n h' pc' Ls st) : Go Q Z B k n h pc Ls (v :: .ref a :: st) := fun x T P => by
  subst hp
  obtain ⟨a0, hw⟩ := P.wd.w
  obtain ⟨E, O', locs, X, e, N⟩ := id P
  obtain ⟨T', h', X', e', W, s'⟩ := putFN X P.ex E.zz E.own (hw w1) Via.refl e F Ea (L.imp (fun z => hw z) (fun z => ⟨hw z.1, z.2.1, E.2.2.2.2.1.trans z.2.2⟩)) (hw w3) hty hn hf (g := mkF x.m pc Ls (v :: .ref a :: st)) rfl rfl (P.d hd)
  exact lift s' (r h' (keep_wr W) W (F.same W) x T' ⟨E, ext_keep O' (keep_wr W) (ge1 ge), _, X', e', fr_snoc N ge⟩)
theorem Go.putFV (pc' : Nat) (hp : pc + 3 = pc') {R0 C O nm d : String} {ix sz : Nat} {ty : FieldType} {a : Addr} {v v' old : Value} (i1 i2 i3 i4 : Nat) (hd : decode B.by pc = .ok (.putfield ix, 3)) (w1 : B.tb[i1]? = some (.fieldLink B.y.cls ix R0 nm d)) (w4 : B.tb[i4]? = some (.sameField R0 O nm d)) (F : Fld Z h a O nm d old) (Ea : Exa Z h a C)
    (L : B.tb[i2]? = some (.lays C O nm d) ∨ (B.tb[i2]? = some (.laysFinal C O nm d) ∧ B.y.cls = O ∧ B.y.name = "<init>")) (w3 : B.tb[i3]? = some (.instantiable C sz)) (hty : parseFieldDescriptor d = some ty) (hn : narrow ty v = v') (hf : fits ty v' = true) (ge : Z.heap.size ≤ a)
    (r : ∀ h' : Heap, Keep h h' [a] → Wr h h' a (RoadKit.slotOf Z O nm d) v' → Fld Z h' a O nm d v' → Go Q Z B k n h' pc' Ls st) : Go Q Z B k n h pc Ls (v :: .ref a :: st) := fun x T P => by
  subst hp
  obtain ⟨a0, hw⟩ := P.wd.w
  obtain ⟨E, O', locs, X, e, N⟩ := id P
  obtain ⟨T', h', X', e', W, s'⟩ := putFN X P.ex E.zz E.own (hw w1) (Via.of (hw w4)) e F Ea (L.imp (fun z => hw z) (fun z => ⟨hw z.1, z.2.1, E.2.2.2.2.1.trans z.2.2⟩)) (hw w3) hty hn hf (g := mkF x.m pc Ls (v :: .ref a :: st)) rfl rfl (P.d hd)
  exact lift s' (r h' (keep_wr W) W (F.same W) x T' ⟨E, ext_keep O' (keep_wr W) (ge1 ge), _, X', e', fr_snoc N ge⟩)
/-- another field of the object that was written -/
theorem Fld.oth {C O nm d O2 nm2 d2 : String} {tb : List Cond} {a b : Addr} {v w : Value} {t t' : FieldType} (hw : Wd Z tb) (F : Fld Z h b O nm d w) (W : Wr h h' a (RoadKit.slotOf Z O2 nm2 d2) v) (i j : Nat) (L1 : tb[i]? = some (.lays C O nm d) ∨ tb[i]? = some (.laysFinal C O nm d)) (L2 : tb[j]? = some (.lays C O2 nm2 d2) ∨ tb[j]? = some (.laysFinal C O2 nm2 d2))
    (hn : nm ≠ nm2) (ht : parseFieldDescriptor d = some t) (ht' : parseFieldDescriptor d2 = some t') : Fld Z h' b O nm d w := by
  obtain ⟨a0, hw⟩ := hw.w
  exact F.other W (Or.inr (RoadKit.slot_ne (a0 := a0) (L1.imp (fun z => hw z) (fun z => hw z)) (L2.imp (fun z => hw z) (fun z => hw z)) hn ht ht'))
theorem Go.getS (pc' : Nat) (hp : pc + 3 = pc') {O nm d : String} {ix : Nat} {v : Value} (i : Nat) (hd : decode B.by pc = .ok (.getstatic ix, 3)) (w : B.tb[i]? = some (.fieldLink B.y.cls ix O nm d)) (F : Sta Z Z.heap O nm d v) (r : Go Q Z B k n h pc' Ls (v :: st)) : Go Q Z B k n h pc Ls st := fun x T P => by
  subst hp
  obtain ⟨a0, hw⟩ := P.wd.w
  obtain ⟨E, O', locs, X, e, N⟩ := id P
  obtain ⟨T', X', e', s'⟩ := RoadKit.getS X P.ex E.zz (host := "") E.own (hw w) Via.refl e (F.ext O') (g := mkF x.m pc Ls st) rfl (P.d hd)
  exact lift s' (r x T' ⟨E, O', locs, X', e', N⟩)
theorem Go.getSN (pc' : Nat) (hp : pc + 3 = pc') {O nm d host : String} {ix : Nat} {v : Value} (i : Nat) (hd : decode B.by pc = .ok (.getstatic ix, 3)) (w : B.tb[i]? = some (.fieldLinkNest B.y.cls ix O nm d host)) (F : Sta Z Z.heap O nm d v) (r : Go Q Z B k n h pc' Ls (v :: st)) : Go Q Z B k n h pc Ls st := fun x T P => by
  subst hp
  obtain ⟨a0, hw⟩ := P.wd.w
  obtain ⟨E, O', locs, X, e, N⟩ := id P
  obtain ⟨T', X', e', s'⟩ := getS2 X P.ex E.zz (host := host) E.own (Or.inr (hw w)) Via.refl e (F.ext O') (g := mkF x.m pc Ls st) rfl (P.d hd)
  exact lift s' (r x T' ⟨E, O', locs, X', e', N⟩)
theorem Go.castY (pc' : Nat) (hp : pc + 3 = pc') {K : String} {ix : Nat} {a : Addr} (i : Nat) (hd : decode B.by pc = .ok (.checkcast ix, 3)) (w : B.tb[i]? = some (.classLink B.y.cls ix K)) (F : Ins Z h a K true) (r : Go Q Z B k n h pc' Ls (.ref a :: st)) : Go Q Z B k n h pc Ls (.ref a :: st) := fun x T P => by
  subst hp
  obtain ⟨a0, hw⟩ := P.wd.w
  obtain ⟨E, O', locs, X, e, N⟩ := id P
  obtain ⟨T', X', e', s'⟩ := RoadKit.castY X P.ex E.zz E.own (hw w) e F (g := mkF x.m pc Ls (.ref a :: st)) rfl rfl (P.d hd)
  exact lift s' (r x T' ⟨E, O', locs, X', e', N⟩)
theorem Go.instY (pc' : Nat) (hp : pc + 3 = pc') {K : String} {ix : Nat} {a : Addr} (i : Nat) (hd : decode B.by pc = .ok (.instanceof ix, 3)) (w : B.tb[i]? = some (.classLink B.y.cls ix K)) (F : Ins Z h a K true) (r : Go Q Z B k n h pc' Ls (.int 1 :: st)) : Go Q Z B k n h pc Ls (.ref a :: st) := fun x T P => by
  subst hp
  obtain ⟨a0, hw⟩ := P.wd.w
  obtain ⟨E, O', locs, X, e, N⟩ := id P
  obtain ⟨T', X', e', s'⟩ := RoadKit.instY X P.ex E.zz E.own (hw w) e F (g := mkF x.m pc Ls (.ref a :: st)) rfl rfl (P.d hd)
  exact lift s' (r x T' ⟨E, O', locs, X', e', N⟩)
theorem Go.instNo (pc' : Nat) (hp : pc + 3 = pc') {C K : String} {ix : Nat} {a : Addr} (i : Nat) (hd : decode B.by pc = .ok (.instanceof ix, 3)) (w : B.tb[i]? = some (.classLink B.y.cls ix K)) (Ea : Exa Z h a C) (F : ∃ c t, Z.vm.findClass C = some c ∧ Z.vm.findClass K = some t ∧ Z.vm.assignable c t = false) (r : Go Q Z B k n h pc' Ls (.int 0 :: st)) : Go Q Z B k n h pc Ls (.ref a :: st) := fun x T P => by
  subst hp
  obtain ⟨a0, hw⟩ := P.wd.w
  obtain ⟨E, O', locs, X, e, N⟩ := id P
  obtain ⟨T', X', e', s'⟩ := RoadKit.instNo X P.ex E.zz E.own (hw w) e Ea F (g := mkF x.m pc Ls (.ref a :: st)) rfl rfl (P.d hd)
  exact lift s' (r x T' ⟨E, O', locs, X', e', N⟩)
theorem Go.initO (pc' : Nat) (hp : pc + 3 = pc') {ix : Nat} {a : Addr} (i1 i2 i3 : Nat) (hd : decode B.by pc = .ok (.invokespecial ix, 3)) (w1 : B.tb[i1]? = some (.methodLink B.y.cls ix Lib.objectInit)) (w2 : B.tb[i2]? = some (.instanceMethod Lib.objectInit)) (w3 : B.tb[i3]? = some (.code Lib.objectInit ⟨#[0xb1]⟩ 1 none)) (hs : Ls.size = B.ml) (hf : 1 ≤ B.R.frames) {W : Nat} (hW : (st.map fun v => v.category).sum ≤ W) (hl : W + 12 ≤ B.R.locals)
    (r : Go Q Z B k n h pc' Ls st) : Go Q Z B k n h pc Ls (.ref a :: st) := fun x T P => by
  subst hp
  obtain ⟨a0, hw⟩ := P.wd.w
  obtain ⟨E, O', locs, X, e, N⟩ := id P
  obtain ⟨T', X', e', s'⟩ := RoadKit.initO X P.ex E.zz E.own (hw w1) (hw w2) (hw w3) e (g := mkF x.m pc Ls (.ref a :: st)) rfl (by rw [E.ml]; exact hs) rfl (P.d hd) hf (W := W) (by show 2 * 0 + _ ≤ _; omega) hl
  exact lift s' (r x T' ⟨E, O', locs, X', e', N⟩)
/-! ## arrays -/
theorem Ary.lt {a : Addr} {ty : FieldType} {vs : List Value} (A : Ary Z h a ty vs) : a < h.size := by obtain ⟨c, A, -⟩ := A; exact A.lt
theorem Ary.len {a : Addr} {ty : FieldType} {vs : List Value} (A : Ary Z h a ty vs) : vs.length < 2 ^ 31 := by obtain ⟨c, -, -, r, -⟩ := A; exact r
theorem len_ofNat {m : Nat} (hm : m < 2 ^ 31) : (Int32.ofNat m).toInt = m := Int32.toInt_ofNat_of_lt hm
theorem ofNat_zero {m : Nat} (hm : m < 2 ^ 31) : Int32.ofNat m = 0 ↔ m = 0 := by
  constructor
  · intro q; have := len_ofNat hm; rw [q] at this; have z : (0 : Int32).toInt = 0 := rfl; omega
  · intro q; subst q; rfl
theorem Ary.keep {a : Addr} {ty : FieldType} {vs : List Value} {ws : List Addr} (A : Ary Z h a ty vs) (K : Keep h h' ws) (q : a ∉ ws) : Ary Z h' a ty vs := by
  obtain ⟨c, A, r⟩ := A; exact ⟨c, ⟨K.2.1 a c A.1 q, A.2⟩, r⟩
theorem Ary.ext {a : Addr} {ty : FieldType} {vs : List Value} (E : Ext h h') (A : Ary Z h a ty vs) : Ary Z h' a ty vs := by
  obtain ⟨c, A, r⟩ := A; exact ⟨c, A.ext E, r⟩
theorem Aov.keep {a : Addr} {C : String} {ws : List Addr} (A : Aov Z h a C) (K : Keep h h' ws) : Aov Z h' a C := by
  obtain ⟨c, A, r⟩ := A; obtain ⟨c', q1, q2, -⟩ := K.2.2 a c A; exact ⟨c', q1, q2 ▸ r⟩
theorem Ins.keep {a : Addr} {C : String} {b : Bool} {ws : List Addr} (A : Ins Z h a C b) (K : Keep h h' ws) : Ins Z h' a C b := by
  obtain ⟨c, cT, A, r1, r2⟩ := A; obtain ⟨c', q1, q2, q3, -⟩ := K.2.2 a c A; exact ⟨c', cT, q1, r1, by rw [q2, q3]; exact r2⟩
theorem Sta.keepO {C nm d : String} {w : Value} (E : Ext Z.heap h) (F : Sta Z Z.heap C nm d w) : Sta Z h C nm d w := F.ext E
theorem ix_in {m : Nat} {j : Int32} (h0 : 0 ≤ j.toInt) (h1 : j.toInt < m) : ¬ (j < 0 ∨ m ≤ j.toNatClampNeg) := by
  intro q
  rcases q with q | q
  · rw [Int32.lt_iff_toInt_lt] at q; have : (0 : Int32).toInt = 0 := rfl; omega
  · have := nat_of (j := j) (by rw [Int32.lt_iff_toInt_lt]; have : (0 : Int32).toInt = 0 := rfl; omega); omega
theorem ix_nat {m : Nat} {j : Int32} (h0 : j.toInt = m) : j.toNatClampNeg = m := by
  have := nat_of (j := j) (by rw [Int32.lt_iff_toInt_lt]; have : (0 : Int32).toInt = 0 := rfl; omega); omega
theorem len_nat {m : Nat} (h : m < 2 ^ 31) : m.toInt32.toInt = m := len_toInt h
theorem slots_at {c : Cell} {vs : List Value} (e : c.slots.toList = vs) (j : Nat) : c.slots[j]? = vs[j]? := by rw [← e]; simp
theorem Go.newA (pc' : Nat) (hp : pc + 2 = pc') {aty : ArrayType} {m : Int32} (i cap N : Nat) (hd : decode B.by pc = .ok (.newarray aty, 2)) (w : B.tb[i]? = some (.arrayClass (newarray.typeOf aty))) (hN : m.toInt = N) (hcap : N ≤ cap) (hb : cap * 8 ≤ 536870912) (hc : k + 1 ≤ B.R.cells) (hl : n + cap ≤ B.R.slots)
    (r : ∀ (h' : Heap) (a : Addr), @Eq Nat a h.size → Z.heap.size ≤ a → Keep h h' [] → Ary Z h' a (newarray.typeOf aty) (List.replicate N (defaultValue (newarray.typeOf aty))) → Exa Z h' a ("[" ++ (newarray.typeOf aty).toString) → Go Q Z B (k + 1) (n + cap) h' pc' Ls (.ref a :: st)) : Go Q Z B k n h pc Ls (.int m :: st) := fun x T P => by
  subst hp
  obtain ⟨a0, hw⟩ := P.wd.w
  obtain ⟨E, O', locs, X, e, N'⟩ := id P
  have hm : ¬ m < 0 := by rw [Int32.lt_iff_toInt_lt]; have : (0 : Int32).toInt = 0 := rfl; omega
  obtain ⟨T', h', cA, X', e', Ex, A, A', s'⟩ := newPE X P.ex E.zz (hw w) e (g := mkF x.m pc Ls (.int m :: st)) rfl (P.d hd) rfl hm (cap := cap) (by rw [ix_nat hN]; exact hcap) hb hc hl rfl
  have hlen : N < 2 ^ 31 := by have := m.toInt_lt; omega
  refine lift s' (r h' h.size rfl P.le (keep_ext Ex) ⟨_, A, ?_, ?_, ?_⟩ A' x T' ⟨E, ⟨Nat.le_trans O'.1 Ex.1, fun y c q => Ex.2 y c (O'.2 y c q)⟩, locs, X', e', N'⟩)
  · show (Array.replicate _ _).toList = _
    rw [ix_nat hN, Array.toList_replicate]
  · rw [List.length_replicate]; exact hlen
  · intro v hv
    rw [List.eq_of_mem_replicate hv]
    cases aty <;> rfl
theorem Go.newR (pc' : Nat) (hp : pc + 3 = pc') {C : String} {ix : Nat} {m : Int32} (i1 i2 cap N : Nat) (hd : decode B.by pc = .ok (.anewarray ix, 3)) (w1 : B.tb[i1]? = some (.classLink B.y.cls ix C)) (w2 : B.tb[i2]? = some (.arrayOver (.object C))) (hN : m.toInt = N) (hcap : N ≤ cap) (hb : cap * 8 ≤ 536870912) (hc : k + 1 ≤ B.R.cells) (hl : n + cap ≤ B.R.slots)
    (r : ∀ (h' : Heap) (a : Addr), @Eq Nat a h.size → Z.heap.size ≤ a → Keep h h' [] → Ary Z h' a (.object C) (List.replicate N .null) → Exa Z h' a ("[" ++ (FieldType.object C).toString) → Aov Z h' a C → Go Q Z B (k + 1) (n + cap) h' pc' Ls (.ref a :: st)) : Go Q Z B k n h pc Ls (.int m :: st) := fun x T P => by
  subst hp
  obtain ⟨a0, hw⟩ := P.wd.w
  obtain ⟨E, O', locs, X, e, N'⟩ := id P
  have hm : ¬ m < 0 := by rw [Int32.lt_iff_toInt_lt]; have : (0 : Int32).toInt = 0 := rfl; omega
  obtain ⟨T', h', cA, X', e', Ex, A, A', O1, s'⟩ := newRE X P.ex E.zz E.own (hw w1) (hw w2) e (g := mkF x.m pc Ls (.int m :: st)) rfl (P.d hd) rfl hm (cap := cap) (by rw [ix_nat hN]; exact hcap) hb hc hl rfl
  have hlen : N < 2 ^ 31 := by have := m.toInt_lt; omega
  refine lift s' (r h' h.size rfl P.le (keep_ext Ex) ⟨_, A, ?_, ?_, ?_⟩ A' ⟨_, A.1, O1⟩ x T' ⟨E, ⟨Nat.le_trans O'.1 Ex.1, fun y c q => Ex.2 y c (O'.2 y c q)⟩, locs, X', e', N'⟩)
  · show (Array.replicate _ _).toList = _
    rw [ix_nat hN, Array.toList_replicate]; rfl
  · rw [List.length_replicate]; exact hlen
  · intro v hv
    rw [List.eq_of_mem_replicate hv]; rfl
theorem Go.alen (pc' : Nat) (hp : pc + 1 = pc') {ty : FieldType} {a : Addr} {vs : List Value} (v : Int32) (hd : decode B.by pc = .ok (.arraylength, 1)) (A : Ary Z h a ty vs) (hv : v.toInt = vs.length) (r : Go Q Z B k n h pc' Ls (.int v :: st)) : Go Q Z B k n h pc Ls (.ref a :: st) := fun x T P => by
  subst hp
  obtain ⟨E, O', locs, X, e, N'⟩ := id P
  obtain ⟨c, A, e1, e2, e3⟩ := A
  have : c.slots.size.toInt32 = v := by
    have q : c.slots.size = vs.length := by rw [← e1]; simp
    apply Int32.toInt_inj.mp
    rw [q, hv, len_toInt e2]
  exact lift (fun t q => X.arraylength P.ex (by rw [e]; exact A.1) (State.isArrayOf_alike E.zz.alike A.2.1) (g := mkF x.m pc Ls (.ref a :: st)) rfl rfl (P.d hd) t (by rw [this]; exact q)) (r x T P)
theorem Go.iaload (pc' : Nat) (hp : pc + 1 = pc') {a : Addr} {vs : List Value} {j : Int32} (v : Int32) (hd : decode B.by pc = .ok (.iaload, 1)) (A : Ary Z h a .int vs) (jn : Nat) (hj : j.toInt = jn) (hv : vs[jn]? = some (.int v)) (r : Go Q Z B k n h pc' Ls (.int v :: st)) : Go Q Z B k n h pc Ls (.int j :: .ref a :: st) := fun x T P => by
  subst hp
  obtain ⟨E, O', locs, X, e, N'⟩ := id P
  obtain ⟨c, A, e1, e2, e3⟩ := A
  have q : c.slots.size = vs.length := by rw [← e1]; simp
  have hlt := (List.getElem?_eq_some_iff.mp hv).1
  exact lift (fun t q' => X.iaload P.ex (j := j) (v := .int v) (by rw [e]; exact A.1) (State.isArrayOf_alike E.zz.alike A.2.1) A.2.2 (ix_in (by omega) (by omega)) (by rw [ix_nat hj, slots_at e1]; exact hv) (g := mkF x.m pc Ls (.int j :: .ref a :: st)) rfl rfl (P.d hd) t q') (r x T P)
theorem Go.laload (pc' : Nat) (hp : pc + 1 = pc') {a : Addr} {vs : List Value} {j : Int32} (v : Int64) (hd : decode B.by pc = .ok (.laload, 1)) (A : Ary Z h a .long vs) (jn : Nat) (hj : j.toInt = jn) (hv : vs[jn]? = some (.long v)) (r : Go Q Z B k n h pc' Ls (.long v :: st)) : Go Q Z B k n h pc Ls (.int j :: .ref a :: st) := fun x T P => by
  subst hp
  obtain ⟨E, O', locs, X, e, N'⟩ := id P
  obtain ⟨c, A, e1, e2, e3⟩ := A
  have q : c.slots.size = vs.length := by rw [← e1]; simp
  have hlt := (List.getElem?_eq_some_iff.mp hv).1
  exact lift (fun t q' => X.laload P.ex (j := j) (v := .long v) (by rw [e]; exact A.1) (State.isArrayOf_alike E.zz.alike A.2.1) A.2.2 (ix_in (by omega) (by omega)) (by rw [ix_nat hj, slots_at e1]; exact hv) (g := mkF x.m pc Ls (.int j :: .ref a :: st)) rfl rfl (P.d hd) t q') (r x T P)
theorem Go.caload (pc' : Nat) (hp : pc + 1 = pc') {a : Addr} {vs : List Value} {j : Int32} (v : Int32) (hd : decode B.by pc = .ok (.caload, 1)) (A : Ary Z h a .char vs) (jn : Nat) (hj : j.toInt = jn) (hv : vs[jn]? = some (.int v)) (r : Go Q Z B k n h pc' Ls (.int v :: st)) : Go Q Z B k n h pc Ls (.int j :: .ref a :: st) := fun x T P => by
  subst hp
  obtain ⟨E, O', locs, X, e, N'⟩ := id P
  obtain ⟨c, A, e1, e2, e3⟩ := A
  have q : c.slots.size = vs.length := by rw [← e1]; simp
  have hlt := (List.getElem?_eq_some_iff.mp hv).1
  exact lift (fun t q' => X.caload P.ex (j := j) (v := .int v) (by rw [e]; exact A.1) (State.isArrayOf_alike E.zz.alike A.2.1) A.2.2 (ix_in (by omega) (by omega)) (by rw [ix_nat hj, slots_at e1]; exact hv) (g := mkF x.m pc Ls (.int j :: .ref a :: st)) rfl rfl (P.d hd) t q') (r x T P)
theorem Go.saload (pc' : Nat) (hp : pc + 1 = pc') {a : Addr} {vs : List Value} {j : Int32} (v : Int32) (hd : decode B.by pc = .ok (.saload, 1)) (A : Ary Z h a .short vs) (jn : Nat) (hj : j.toInt = jn) (hv : vs[jn]? = some (.int v)) (r : Go Q Z B k n h pc' Ls (.int v :: st)) : Go Q Z B k n h pc Ls (.int j :: .ref a :: st) := fun x T P => by
  subst hp
  obtain ⟨E, O', locs, X, e, N'⟩ := id P
  obtain ⟨c, A, e1, e2, e3⟩ := A
  have q : c.slots.size = vs.length := by rw [← e1]; simp
  have hlt := (List.getElem?_eq_some_iff.mp hv).1
  exact lift (fun t q' => X.saload P.ex (j := j) (v := .int v) (by rw [e]; exact A.1) (State.isArrayOf_alike E.zz.alike A.2.1) A.2.2 (ix_in (by omega) (by omega)) (by rw [ix_nat hj, slots_at e1]; exact hv) (g := mkF x.m pc Ls (.int j :: .ref a :: st)) rfl rfl (P.d hd) t q') (r x T P)
theorem Go.baload (pc' : Nat) (hp : pc + 1 = pc') {a : Addr} {vs : List Value} {j : Int32} (v : Int32) (hd : decode B.by pc = .ok (.baload, 1)) (A : Ary Z h a .byte vs) (jn : Nat) (hj : j.toInt = jn) (hv : vs[jn]? = some (.int v)) (r : Go Q Z B k n h pc' Ls (.int v :: st)) : Go Q Z B k n h pc Ls (.int j :: .ref a :: st) := fun x T P => by
  subst hp
  obtain ⟨E, O', locs, X, e, N'⟩ := id P
  obtain ⟨c, A, e1, e2, e3⟩ := A
  have q : c.slots.size = vs.length := by rw [← e1]; simp
  have hlt := (List.getElem?_eq_some_iff.mp hv).1
  exact lift (fun t q' => X.baloadBytes P.ex (j := j) (v := .int v) (by rw [e]; exact A.1) (State.isArrayOf_alike E.zz.alike A.2.1) A.2.2 (ix_in (by omega) (by omega)) (by rw [ix_nat hj, slots_at e1]; exact hv) (g := mkF x.m pc Ls (.int j :: .ref a :: st)) rfl rfl (P.d hd) t q') (r x T P)
theorem Go.zaload (pc' : Nat) (hp : pc + 1 = pc') {a : Addr} {vs : List Value} {j : Int32} (v : Int32) (hd : decode B.by pc = .ok (.baload, 1)) (A : Ary Z h a .boolean vs) (jn : Nat) (hj : j.toInt = jn) (hv : vs[jn]? = some (.int v)) (r : Go Q Z B k n h pc' Ls (.int v :: st)) : Go Q Z B k n h pc Ls (.int j :: .ref a :: st) := fun x T P => by
  subst hp
  obtain ⟨E, O', locs, X, e, N'⟩ := id P
  obtain ⟨c, A, e1, e2, e3⟩ := A
  have q : c.slots.size = vs.length := by rw [← e1]; simp
  have hlt := (List.getElem?_eq_some_iff.mp hv).1
  exact lift (fun t q' => X.baloadBooleans P.ex (j := j) (v := .int v) (by rw [e]; exact A.1) (State.isArrayOf_alike E.zz.alike A.2.1) A.2.2 (ix_in (by omega) (by omega)) (by rw [ix_nat hj, slots_at e1]; exact hv) (g := mkF x.m pc Ls (.int j :: .ref a :: st)) rfl rfl (P.d hd) t q') (r x T P)
theorem Go.aaload (pc' : Nat) (hp : pc + 1 = pc') {ty : FieldType} {a : Addr} {vs : List Value} {j : Int32} (v : Value) (hd : decode B.by pc = .ok (.aaload, 1)) (hty : ty.isReference = true) (A : Ary Z h a ty vs) (jn : Nat) (hj : j.toInt = jn) (hv : vs[jn]? = some v) (r : Go Q Z B k n h pc' Ls (v :: st)) : Go Q Z B k n h pc Ls (.int j :: .ref a :: st) := fun x T P => by
  subst hp
  obtain ⟨E, O', locs, X, e, N'⟩ := id P
  obtain ⟨c, A, e1, e2, e3⟩ := A
  have q : c.slots.size = vs.length := by rw [← e1]; simp
  have hlt := (List.getElem?_eq_some_iff.mp hv).1
  exact lift (fun t q' => X.aaload P.ex (j := j) (v := v) (by rw [e]; exact A.1) (State.isArrayOf_alike E.zz.alike A.2.1) hty A.2.2 (ix_in (by omega) (by omega)) (by rw [ix_nat hj, slots_at e1]; exact hv) (g := mkF x.m pc Ls (.int j :: .ref a :: st)) rfl rfl (P.d hd) t q') (r x T P)
/-- a store into an array -/
theorem Ary.set {a : Addr} {ty : FieldType} {vs : List Value} {j : Nat} {v : Value} {c : Cell} (A : Arr Z h a c ty) (e1 : c.slots.toList = vs) (e2 : vs.length < 2 ^ 31) (e3 : ∀ v ∈ vs, fits ty v = true) (W : Wr h h' a j v) (hv : fits ty v = true) : Ary Z h' a ty (vs.set j v) := by
  refine ⟨c.setSlot j v, A.same W, ?_, by rw [List.length_set]; exact e2, fun w hw => ?_⟩
  · show (c.slots.setIfInBounds j v).toList = _
    rw [Array.toList_setIfInBounds, e1]
  · rcases List.mem_or_eq_of_mem_set hw with q | rfl
    · exact e3 _ q
    · exact hv
theorem Go.stI (pc' : Nat) (hp : pc + 1 = pc') {a : Addr} {vs : List Value} {j : Int32} {v : Int32} (hd : decode B.by pc = .ok (.iastore, 1)) (A : Ary Z h a .int vs) (jn : Nat) (hj : j.toInt = jn) (hlt : jn < vs.length) (ge : Z.heap.size ≤ a)
    (r : ∀ h' : Heap, Keep h h' [a] → Ary Z h' a .int (vs.set jn (.int v)) → Go Q Z B k n h' pc' Ls st) : Go Q Z B k n h pc Ls (.int v :: .int j :: .ref a :: st) := fun x T P => by
  subst hp
  obtain ⟨E, O', locs, X, e, N⟩ := id P
  obtain ⟨c, A, e1, e2, e3⟩ := A
  have q : c.slots.size = vs.length := by rw [← e1]; simp
  obtain ⟨T', h', X', e', W, s'⟩ := RoadKit.stI X P.ex E.zz e A (j := j) (ix_in (by omega) (by omega)) (g := mkF x.m pc Ls (.int v :: .int j :: .ref a :: st)) rfl rfl (P.d hd)
  rw [ix_nat hj] at W
  exact lift s' (r h' (keep_wr W) (Ary.set A e1 e2 e3 W (rfl)) x T' ⟨E, ext_keep O' (keep_wr W) (ge1 ge), _, X', e', fr_snoc N ge⟩)
theorem Go.stJ (pc' : Nat) (hp : pc + 1 = pc') {a : Addr} {vs : List Value} {j : Int32} {v : Int64} (hd : decode B.by pc = .ok (.lastore, 1)) (A : Ary Z h a .long vs) (jn : Nat) (hj : j.toInt = jn) (hlt : jn < vs.length) (ge : Z.heap.size ≤ a)
    (r : ∀ h' : Heap, Keep h h' [a] → Ary Z h' a .long (vs.set jn (.long v)) → Go Q Z B k n h' pc' Ls st) : Go Q Z B k n h pc Ls (.long v :: .int j :: .ref a :: st) := fun x T P => by
  subst hp
  obtain ⟨E, O', locs, X, e, N⟩ := id P
  obtain ⟨c, A, e1, e2, e3⟩ := A
  have q : c.slots.size = vs.length := by rw [← e1]; simp
  obtain ⟨T', h', X', e', W, s'⟩ := RoadKit.stJ X P.ex E.zz e A (j := j) (ix_in (by omega) (by omega)) (g := mkF x.m pc Ls (.long v :: .int j :: .ref a :: st)) rfl rfl (P.d hd)
  rw [ix_nat hj] at W
  exact lift s' (r h' (keep_wr W) (Ary.set A e1 e2 e3 W (rfl)) x T' ⟨E, ext_keep O' (keep_wr W) (ge1 ge), _, X', e', fr_snoc N ge⟩)
theorem Go.stC (pc' : Nat) (hp : pc + 1 = pc') {a : Addr} {vs : List Value} {j : Int32} {v : Int32} (hd : decode B.by pc = .ok (.castore, 1)) (A : Ary Z h a .char vs) (jn : Nat) (hj : j.toInt = jn) (hlt : jn < vs.length) (ge : Z.heap.size ≤ a)
    (r : ∀ h' : Heap, Keep h h' [a] → Ary Z h' a .char (vs.set jn (.int (nar .char v))) → Go Q Z B k n h' pc' Ls st) : Go Q Z B k n h pc Ls (.int v :: .int j :: .ref a :: st) := fun x T P => by
  subst hp
  obtain ⟨E, O', locs, X, e, N⟩ := id P
  obtain ⟨c, A, e1, e2, e3⟩ := A
  have q : c.slots.size = vs.length := by rw [← e1]; simp
  obtain ⟨T', h', X', e', W, s'⟩ := RoadKit.stC X P.ex E.zz e A (j := j) (ix_in (by omega) (by omega)) (g := mkF x.m pc Ls (.int v :: .int j :: .ref a :: st)) rfl rfl (P.d hd)
  rw [ix_nat hj] at W
  exact lift s' (r h' (keep_wr W) (Ary.set A e1 e2 e3 W (fits_nar_char v)) x T' ⟨E, ext_keep O' (keep_wr W) (ge1 ge), _, X', e', fr_snoc N ge⟩)
theorem Go.stS (pc' : Nat) (hp : pc + 1 = pc') {a : Addr} {vs : List Value} {j : Int32} {v : Int32} (hd : decode B.by pc = .ok (.sastore, 1)) (A : Ary Z h a .short vs) (jn : Nat) (hj : j.toInt = jn) (hlt : jn < vs.length) (ge : Z.heap.size ≤ a)
    (r : ∀ h' : Heap, Keep h h' [a] → Ary Z h' a .short (vs.set jn (.int (nar .short v))) → Go Q Z B k n h' pc' Ls st) : Go Q Z B k n h pc Ls (.int v :: .int j :: .ref a :: st) := fun x T P => by
  subst hp
  obtain ⟨E, O', locs, X, e, N⟩ := id P
  obtain ⟨c, A, e1, e2, e3⟩ := A
  have q : c.slots.size = vs.length := by rw [← e1]; simp
  obtain ⟨T', h', X', e', W, s'⟩ := RoadKit.stS X P.ex E.zz e A (j := j) (ix_in (by omega) (by omega)) (g := mkF x.m pc Ls (.int v :: .int j :: .ref a :: st)) rfl rfl (P.d hd)
  rw [ix_nat hj] at W
  exact lift s' (r h' (keep_wr W) (Ary.set A e1 e2 e3 W (fits_nar_short v)) x T' ⟨E, ext_keep O' (keep_wr W) (ge1 ge), _, X', e', fr_snoc N ge⟩)
theorem Go.stB (pc' : Nat) (hp : pc + 1 = pc') {a : Addr} {vs : List Value} {j : Int32} {v : Int32} (hd : decode B.by pc = .ok (.bastore, 1)) (A : Ary Z h a .byte vs) (jn : Nat) (hj : j.toInt = jn) (hlt : jn < vs.length) (ge : Z.heap.size ≤ a)
    (r : ∀ h' : Heap, Keep h h' [a] → Ary Z h' a .byte (vs.set jn (.int (nar .byte v))) → Go Q Z B k n h' pc' Ls st) : Go Q Z B k n h pc Ls (.int v :: .int j :: .ref a :: st) := fun x T P => by
  subst hp
  obtain ⟨E, O', locs, X, e, N⟩ := id P
  obtain ⟨c, A, e1, e2, e3⟩ := A
  have q : c.slots.size = vs.length := by rw [← e1]; simp
  obtain ⟨T', h', X', e', W, s'⟩ := RoadKit.stB X P.ex E.zz e A (j := j) (ix_in (by omega) (by omega)) (g := mkF x.m pc Ls (.int v :: .int j :: .ref a :: st)) rfl rfl (P.d hd)
  rw [ix_nat hj] at W
  exact lift s' (r h' (keep_wr W) (Ary.set A e1 e2 e3 W (fits_nar_byte v)) x T' ⟨E, ext_keep O' (keep_wr W) (ge1 ge), _, X', e', fr_snoc N ge⟩)
theorem Go.stZ (pc' : Nat) (hp : pc + 1 = pc') {a : Addr} {vs : List Value} {j : Int32} {v : Int32} (hd : decode B.by pc = .ok (.bastore, 1)) (A : Ary Z h a .boolean vs) (jn : Nat) (hj : j.toInt = jn) (hlt : jn < vs.length) (ge : Z.heap.size ≤ a)
    (r : ∀ h' : Heap, Keep h h' [a] → Ary Z h' a .boolean (vs.set jn (.int (nar .boolean v))) → Go Q Z B k n h' pc' Ls st) : Go Q Z B k n h pc Ls (.int v :: .int j :: .ref a :: st) := fun x T P => by
  subst hp
  obtain ⟨E, O', locs, X, e, N⟩ := id P
  obtain ⟨c, A, e1, e2, e3⟩ := A
  have q : c.slots.size = vs.length := by rw [← e1]; simp
  obtain ⟨T', h', X', e', W, s'⟩ := RoadKit.stZ X P.ex E.zz e A (j := j) (ix_in (by omega) (by omega)) (g := mkF x.m pc Ls (.int v :: .int j :: .ref a :: st)) rfl rfl (P.d hd)
  rw [ix_nat hj] at W
  exact lift s' (r h' (keep_wr W) (Ary.set A e1 e2 e3 W (fits_nar_bool v)) x T' ⟨E, ext_keep O' (keep_wr W) (ge1 ge), _, X', e', fr_snoc N ge⟩)
theorem Go.stR (pc' : Nat) (hp : pc + 1 = pc') {C : String} {a b : Addr} {vs : List Value} {j : Int32} (hd : decode B.by pc = .ok (.aastore, 1)) (A : Ary Z h a (.object C) vs) (O : Aov Z h a C) (I : Ins Z h b C true) (jn : Nat) (hj : j.toInt = jn) (hlt : jn < vs.length) (ge : Z.heap.size ≤ a)
    (r : ∀ h' : Heap, Keep h h' [a] → Ary Z h' a (.object C) (vs.set jn (.ref b)) → Go Q Z B k n h' pc' Ls st) : Go Q Z B k n h pc Ls (.ref b :: .int j :: .ref a :: st) := fun x T P => by
  subst hp
  obtain ⟨E, O', locs, X, e, N⟩ := id P
  obtain ⟨c, A, e1, e2, e3⟩ := A
  obtain ⟨c', q1, q2⟩ := O
  cases q1.symm.trans A.1
  have q : c.slots.size = vs.length := by rw [← e1]; simp
  obtain ⟨T', h', X', e', W, s'⟩ := RoadKit.stR X P.ex E.zz e A (j := j) (v := .ref b) (ix_in (by omega) (by omega)) rfl (Sto.of A q2 I) (g := mkF x.m pc Ls (.ref b :: .int j :: .ref a :: st)) rfl rfl (P.d hd)
  rw [ix_nat hj] at W
  exact lift s' (r h' (keep_wr W) (Ary.set A e1 e2 e3 W rfl) x T' ⟨E, ext_keep O' (keep_wr W) (ge1 ge), _, X', e', fr_snoc N ge⟩)
/-! ## returns -/
theorem ret_core {v : Option Value} {T : State} {locs : List Loc} {fs : List Frame} (E : En Z x B) (O' : Ext Z.heap h) (e : T.heap = h) (N : Fr Z.heap.size locs) (hk : k ≤ B.R.cells) (hn : n ≤ B.R.slots) (hQ : Q v h)
    (hs : Steps x.p.tables x.e x.below (T.setTop (mkF x.m pc Ls st)) (T.setFrames fs)) (hrun : (T.setFrames fs).status = .running) (hended : Ended (T.setFrames fs) x.below (.returned v)) (hW : x.s.WarmedH (T.setFrames fs).vm) (hsame : x.s.sameButNew ({ T.setFrames fs with vm := x.s.vm } : State) locs k n) : Rn Q Z x B T pc Ls st := by
  subst e
  exact ⟨T.setFrames fs, _, hs, hrun, hended, _, locs, rfl, ⟨hQ, O', N⟩, ⟨_, rfl⟩, hW, hsame.mono hk hn⟩
theorem Go.retV (hd : decode B.by pc = .ok (.return_, 1)) (ht : B.rt = none) (hk : k ≤ B.R.cells) (hn : n ≤ B.R.slots) (hQ : Q none h) : Go Q Z B k n h pc Ls [] := fun x T P => by
  obtain ⟨E, O', locs, X, e, N⟩ := id P
  obtain ⟨fs, hr, hrun, hended, hW, hsame⟩ := X.leave (v := none) (fun _ => rfl) E.nl
  exact ret_core E O' e N hk hn hQ (X.returnOut P.ex (E.rt.trans ht) (P.d hd) hr) hrun hended hW hsame
theorem Go.retI {z : Int32} (hd : decode B.by pc = .ok (.ireturn, 1)) (ht : B.rt = some .int) (hk : k ≤ B.R.cells) (hn : n ≤ B.R.slots) (hQ : Q (some (.int z)) h) : Go Q Z B k n h pc Ls [.int z] := fun x T P => by
  obtain ⟨E, O', locs, X, e, N⟩ := id P
  obtain ⟨fs, hr, hrun, hended, hW, hsame⟩ := X.leave (v := some (.int z)) (fun q => by rw [E.rt, ht] at q; cases q) E.nl
  exact ret_core E O' e N hk hn hQ (X.ireturnOut P.ex (E.rt.trans ht) rfl (Or.inl rfl) (P.d hd) hr) hrun hended hW hsame
theorem Go.retN {z z' : Int32} {t : FieldType} (hd : decode B.by pc = .ok (.ireturn, 1)) (ht : B.rt = some t) (hz : t = .boolean ∨ t = .byte ∨ t = .char ∨ t = .short) (hq : nar t z = z') (hk : k ≤ B.R.cells) (hn : n ≤ B.R.slots) (hQ : Q (some (.int z')) h) : Go Q Z B k n h pc Ls (.int z :: st) := fun x T P => by
  subst hq
  obtain ⟨E, O', locs, X, e, N⟩ := id P
  obtain ⟨fs, hr, hrun, hended, hW, hsame⟩ := X.leave (v := some (.int (nar t z))) (fun q => by rw [E.rt, ht] at q; cases q) E.nl
  exact ret_core E O' e N hk hn hQ (RoadKit.retN X P.ex (E.rt.trans ht) hz (P.d hd) hr) hrun hended hW hsame
theorem Go.retJ {z : Int64} (hd : decode B.by pc = .ok (.lreturn, 1)) (ht : B.rt = some .long) (hk : k ≤ B.R.cells) (hn : n ≤ B.R.slots) (hQ : Q (some (.long z)) h) : Go Q Z B k n h pc Ls [.long z] := fun x T P => by
  obtain ⟨E, O', locs, X, e, N⟩ := id P
  obtain ⟨fs, hr, hrun, hended, hW, hsame⟩ := X.leave (v := some (.long z)) (fun q => by rw [E.rt, ht] at q; cases q) E.nl
  exact ret_core E O' e N hk hn hQ (X.lreturnOut P.ex (E.rt.trans ht) (P.d hd) hr) hrun hended hW hsame
theorem Go.retD {z : UInt64} (hd : decode B.by pc = .ok (.dreturn, 1)) (ht : B.rt = some .double) (hk : k ≤ B.R.cells) (hn : n ≤ B.R.slots) (hQ : Q (some (.double z)) h) : Go Q Z B k n h pc Ls (.double z :: st) := fun x T P => by
  obtain ⟨E, O', locs, X, e, N⟩ := id P
  obtain ⟨fs, hr, hrun, hended, hW, hsame⟩ := X.leave (v := some (.double z)) (fun q => by rw [E.rt, ht] at q; cases q) E.nl
  exact ret_core E O' e N hk hn hQ (retOut X P.ex (i := .dreturn) (E.rt.trans ht) rfl (Or.inr (Or.inr (Or.inl ⟨rfl, rfl, _, rfl⟩))) (P.d hd) hr) hrun hended hW hsame
theorem Go.retA {z : Value} {t : FieldType} (hd : decode B.by pc = .ok (.areturn, 1)) (ht : B.rt = some t) (hr' : t.isReference = true) (hz : z.isRef = true) (hk : k ≤ B.R.cells) (hn : n ≤ B.R.slots) (hQ : Q (some z) h) : Go Q Z B k n h pc Ls [z] := fun x T P => by
  obtain ⟨E, O', locs, X, e, N⟩ := id P
  obtain ⟨fs, hr, hrun, hended, hW, hsame⟩ := X.leave (v := some z) (fun q => by rw [E.rt, ht] at q; cases q) E.nl
  exact ret_core E O' e N hk hn hQ (X.areturnOut P.ex hz (E.rt.trans ht) hr' (P.d hd) hr) hrun hended hW hsame
/-! ## calls -/
theorem Con.back {C : Bd} {as : Array Value} {Qc : Option Value → Heap → Prop} {len W : Nat} (K : Con Z C as h Qc) (P : Sp Z x B T k n h) (i j : Nat) (wc : B.tb[i]? = some (.code C.y C.by C.ml C.rt)) (wz : B.tb[j]? = some (.initialized C.y.cls)) (hf : C.R.frames + 1 ≤ B.R.frames) (hl : W + (C.ml + 11) + C.R.locals ≤ B.R.locals) :
    Back x.l B.R x.p x.e x.below x.s x.args C.y len W (fun A a => a = as ∧ A.U.heap = h ∧ A.cells + C.R.cells ≤ B.R.cells ∧ A.slots + C.R.slots ≤ B.R.slots)
      (fun A _ v D => ∃ L, (Qc v D.U.heap ∧ Ext Z.heap D.U.heap ∧ Fr Z.heap.size L) ∧ D.locs = A.locs ++ L ∧ D.cells = A.cells + C.R.cells ∧ D.slots = A.slots + C.R.slots) := by
  obtain ⟨a0, hw⟩ := P.wd.w
  exact backOf (a0 := a0) (Q := fun v h' L => Qc v h' ∧ Ext Z.heap h' ∧ Fr Z.heap.size L) (K P.old x.l []) P.1.zz (hw wc) (hw wz) hf hl
theorem Go.callS (pc' : Nat) (hp : pc + 3 = pc') {C : Bd} {Qc : Option Value → Heap → Prop} {ix : Nat} (argsL : List Value) {st : List Value} (i1 i2 i3 i4 : Nat) (K : Con Z C argsL.toArray h Qc) (hd : decode B.by pc = .ok (.invokestatic ix, 3)) (w1 : B.tb[i1]? = some (.methodLink B.y.cls ix C.y)) (w2 : B.tb[i2]? = some (.static C.y)) (w3 : B.tb[i3]? = some (.initialized C.y.cls)) (w4 : B.tb[i4]? = some (.code C.y C.by C.ml C.rt))
    (hy : C.y.cls ≠ "java/lang/invoke/MethodHandle" ∧ C.y.cls ≠ "java/lang/invoke/VarHandle") {ps : List FieldType} {rt : Option FieldType} (hpd : parseMethodDescriptor C.y.desc = some ⟨ps, rt⟩) (hlen : argsL.length = ps.length) (hs : Ls.size = B.ml) (hst : st = argsL.reverse ++ rest) {W : Nat} (hW : (rest.map fun v => v.category).sum ≤ W) (hf : C.R.frames + 1 ≤ B.R.frames) (hl : W + (C.ml + 11) + C.R.locals ≤ B.R.locals) (hc : k + C.R.cells ≤ B.R.cells) (hn : n + C.R.slots ≤ B.R.slots)
    (r : ∀ (v : Option Value) (h' : Heap), Qc v h' → Go Q Z B (k + C.R.cells) (n + C.R.slots) h' pc' Ls (v.toList ++ rest)) : Go Q Z B k n h pc Ls st := fun x T P => by
  subst hp hst
  obtain ⟨a0, hw⟩ := P.wd.w
  obtain ⟨E, O', locs, X, e, N⟩ := id P
  obtain ⟨v, vm₁, ⟨T1, L1, k1, n1⟩, -, X1, ⟨Lc, hQ, l1, y1, z1⟩, st1⟩ := Jvm.LawKit.callS X P.ex (y := C.y) E.own (mvT E.zz (hw w1)) (mvT E.zz (hw w2)) (mvT E.zz (hw w3)) (mvT E.zz (hw w4)) hy (K.back (W := W) P i4 i3 w4 w3 hf hl) (g := mkF x.m pc Ls (argsL.reverse ++ rest)) rfl (by rw [E.ml]; exact hs) (argsL := argsL) (rest := rest) (lenOf hpd hlen) rfl (by show 2 * 0 + _ ≤ _; omega) (P.d hd) (fun _ _ => ⟨rfl, e, hc, hn⟩)
  dsimp only [Pt.U, Pt.locs, Pt.cells, Pt.slots] at X1 l1 y1 z1 st1 hQ
  subst l1 y1 z1
  exact lift st1 (r v T1.heap hQ.1 x T1 ⟨E, hQ.2.1, _, X1, rfl, N.app hQ.2.2⟩)
theorem Go.callI (pc' : Nat) (hp : pc + 3 = pc') {C : Bd} {Qc : Option Value → Heap → Prop} {ix : Nat} (a : Addr) (argsL : List Value) {st : List Value} (i1 i2 i3 i4 : Nat) (K : Con Z C (.ref a :: argsL).toArray h Qc) (hd : decode B.by pc = .ok (.invokespecial ix, 3)) (w1 : B.tb[i1]? = some (.methodLink B.y.cls ix C.y)) (w2 : B.tb[i2]? = some (.instanceMethod C.y)) (w3 : B.tb[i3]? = some (.initialized C.y.cls)) (w4 : B.tb[i4]? = some (.code C.y C.by C.ml none)) (hrt : C.rt = none) (hi : C.y.name = "<init>")
    (hy : C.y.cls ≠ "java/lang/invoke/MethodHandle" ∧ C.y.cls ≠ "java/lang/invoke/VarHandle") {ps : List FieldType} {rt : Option FieldType} (hpd : parseMethodDescriptor C.y.desc = some ⟨ps, rt⟩) (hlen : argsL.length = ps.length) (hs : Ls.size = B.ml) (hst : st = argsL.reverse ++ .ref a :: rest) {W : Nat} (hW : (rest.map fun v => v.category).sum ≤ W) (hf : C.R.frames + 1 ≤ B.R.frames) (hl : W + (C.ml + 11) + C.R.locals ≤ B.R.locals) (hc : k + C.R.cells ≤ B.R.cells) (hn : n + C.R.slots ≤ B.R.slots)
    (r : ∀ (v : Option Value) (h' : Heap), Qc v h' → Go Q Z B (k + C.R.cells) (n + C.R.slots) h' pc' Ls (v.toList ++ rest)) : Go Q Z B k n h pc Ls st := fun x T P => by
  subst hp hst
  obtain ⟨a0, hw⟩ := P.wd.w
  obtain ⟨E, O', locs, X, e, N⟩ := id P
  obtain ⟨v, vm₁, ⟨T1, L1, k1, n1⟩, -, X1, ⟨Lc, hQ, l1, y1, z1⟩, st1⟩ := X.specialBack P.ex (y := C.y) hi E.own (mvT E.zz (hw w1)) (mvT E.zz (hw w2)) (mvT E.zz (hw w4)) hy (K.back (W := W) P i4 i3 (by rw [hrt]; exact w4) w3 hf hl) (g := mkF x.m pc Ls (argsL.reverse ++ .ref a :: rest)) rfl (by rw [E.ml]; exact hs) (Steps.refl _) (a := a) (argsL := argsL) (rest := rest) (lenOf hpd hlen) rfl (by show 2 * 0 + _ ≤ _; omega) (P.d hd) (fun _ _ => ⟨rfl, e, hc, hn⟩)
  dsimp only [Pt.U, Pt.locs, Pt.cells, Pt.slots] at X1 l1 y1 z1 st1 hQ
  subst l1 y1 z1
  exact liftS st1 (r v T1.heap hQ.1 x T1 ⟨E, hQ.2.1, _, X1, rfl, N.app hQ.2.2⟩)
theorem Go.callV (pc' : Nat) (hp : pc + 3 = pc') {C : Bd} {Qc : Option Value → Heap → Prop} {ix : Nat} {D : String} (a : Addr) (argsL : List Value) {st : List Value} (i1 i2 i3 i4 i5 i6 : Nat) (K : Con Z C (.ref a :: argsL).toArray h Qc) (Ea : Exa Z h a D) (hd : decode B.by pc = .ok (.invokevirtual ix, 3)) (w1 : B.tb[i1]? = some (.methodLink B.y.cls ix C.y)) (w2 : B.tb[i2]? = some (.declares C.y)) (w3 : B.tb[i3]? = some (.selects D C.y C.y)) (w4 : B.tb[i4]? = some (.instanceMethod C.y)) (w5 : B.tb[i5]? = some (.initialized C.y.cls)) (w6 : B.tb[i6]? = some (.code C.y C.by C.ml C.rt))
    (hy : C.y.cls ≠ "java/lang/invoke/MethodHandle" ∧ C.y.cls ≠ "java/lang/invoke/VarHandle") {ps : List FieldType} {rt : Option FieldType} (hpd : parseMethodDescriptor C.y.desc = some ⟨ps, rt⟩) (hlen : argsL.length = ps.length) (hs : Ls.size = B.ml) (hst : st = argsL.reverse ++ .ref a :: rest) {W : Nat} (hW : (rest.map fun v => v.category).sum ≤ W) (hf : C.R.frames + 1 ≤ B.R.frames) (hl : W + (C.ml + 11) + C.R.locals ≤ B.R.locals) (hc : k + C.R.cells ≤ B.R.cells) (hn : n + C.R.slots ≤ B.R.slots)
    (r : ∀ (v : Option Value) (h' : Heap), Qc v h' → Go Q Z B (k + C.R.cells) (n + C.R.slots) h' pc' Ls (v.toList ++ rest)) : Go Q Z B k n h pc Ls st := fun x T P => by
  subst hp hst
  obtain ⟨a0, hw⟩ := P.wd.w
  obtain ⟨E, O', locs, X, e, N⟩ := id P
  obtain ⟨cq, kq, qa, qb, qc⟩ := isOf E.zz e Ea
  obtain ⟨v, vm₁, ⟨T1, L1, k1, n1⟩, -, X1, ⟨Lc, hQ, l1, y1, z1⟩, st1⟩ := X.virtualBack P.ex (y := C.y) (z := C.y) E.own (mvT E.zz (hw w1)) (mvT E.zz (hw w2)) (notFace_of_selects (args := #[]) (mvT E.zz (hw w3))) (mvT E.zz (hw w3)) (mvT E.zz (hw w4)) hy (K.back (W := W) P i6 i5 w6 w5 hf hl) qa qc (g := mkF x.m pc Ls (argsL.reverse ++ .ref a :: rest)) rfl (by rw [E.ml]; exact hs) (Steps.refl _) (argsL := argsL) (rest := rest) (lenOf hpd hlen) rfl (by show 2 * 0 + _ ≤ _; omega) (P.d hd) (fun _ _ => ⟨rfl, e, hc, hn⟩)
  dsimp only [Pt.U, Pt.locs, Pt.cells, Pt.slots] at X1 l1 y1 z1 st1 hQ
  subst l1 y1 z1
  exact liftS st1 (r v T1.heap hQ.1 x T1 ⟨E, hQ.2.1, _, X1, rfl, N.app hQ.2.2⟩)
theorem Go.callP (pc' : Nat) (hp : pc + 3 = pc') {C : Bd} {Qc : Option Value → Heap → Prop} {ix : Nat} {D : String} (a : Addr) (argsL : List Value) {st : List Value} (i1 i2 i3 i4 i5 i6 : Nat) (K : Con Z C (.ref a :: argsL).toArray h Qc) (Ea : Exa Z h a D) (hd : decode B.by pc = .ok (.invokevirtual ix, 3)) (w1 : B.tb[i1]? = some (.methodLink B.y.cls ix C.y)) (w2 : B.tb[i2]? = some (.instanceMethod C.y)) (w3 : B.tb[i3]? = some (.selects C.y.cls C.y C.y)) (w4 : B.tb[i4]? = some (.privateMethod C.y)) (w5 : B.tb[i5]? = some (.initialized C.y.cls)) (w6 : B.tb[i6]? = some (.code C.y C.by C.ml C.rt))
    (hy : C.y.cls ≠ "java/lang/invoke/MethodHandle" ∧ C.y.cls ≠ "java/lang/invoke/VarHandle") {ps : List FieldType} {rt : Option FieldType} (hpd : parseMethodDescriptor C.y.desc = some ⟨ps, rt⟩) (hlen : argsL.length = ps.length) (hs : Ls.size = B.ml) (hst : st = argsL.reverse ++ .ref a :: rest) {W : Nat} (hW : (rest.map fun v => v.category).sum ≤ W) (hf : C.R.frames + 1 ≤ B.R.frames) (hl : W + (C.ml + 11) + C.R.locals ≤ B.R.locals) (hc : k + C.R.cells ≤ B.R.cells) (hn : n + C.R.slots ≤ B.R.slots)
    (r : ∀ (v : Option Value) (h' : Heap), Qc v h' → Go Q Z B (k + C.R.cells) (n + C.R.slots) h' pc' Ls (v.toList ++ rest)) : Go Q Z B k n h pc Ls st := fun x T P => by
  subst hp hst
  obtain ⟨a0, hw⟩ := P.wd.w
  obtain ⟨E, O', locs, X, e, N⟩ := id P
  obtain ⟨cq, qa, qb⟩ := Ea.cell
  obtain ⟨v, vm₁, ⟨T1, L1, k1, n1⟩, -, X1, ⟨Lc, hQ, l1, y1, z1⟩, st1⟩ := X.privateBack P.ex (y := C.y) E.own (mvT E.zz (hw w1)) (mvT E.zz (hw w2)) (mvT E.zz (hw w3)) (Cond.privateMethod_at (mvP E.zz (hw w4) (args := #[]))) (mvT E.zz (hw w6)) hy (K.back (W := W) P i6 i5 w6 w5 hf hl) (g := mkF x.m pc Ls (argsL.reverse ++ .ref a :: rest)) rfl (by rw [E.ml]; exact hs) (Steps.refl _) (a := a) (by rw [e]; exact qa) qb (argsL := argsL) (rest := rest) (lenOf hpd hlen) rfl (by show 2 * 0 + _ ≤ _; omega) (P.d hd) (fun _ _ => ⟨rfl, e, hc, hn⟩)
  dsimp only [Pt.U, Pt.locs, Pt.cells, Pt.slots] at X1 l1 y1 z1 st1 hQ
  subst l1 y1 z1
  exact liftS st1 (r v T1.heap hQ.1 x T1 ⟨E, hQ.2.1, _, X1, rfl, N.app hQ.2.2⟩)
end St
end Jvm.Ow
namespace Jvm.Ow
open Sem ClassFile Op Lib Jvm.Stand Jvm.Free Jvm.LawKit Jvm.RoadKit
section More
variable {Q : Option Value → Heap → Prop} {Z : State} {x : Cx} {B : Bd} {T : State} {k n : Nat} {h h' : Heap} {pc : Nat} {Ls Ls' : Array Slot} {st rest : List Value}
theorem Go.instNull (pc' : Nat) (hp : pc + 3 = pc') {ix : Nat} (hd : decode B.by pc = .ok (.instanceof ix, 3)) (r : Go Q Z B k n h pc' Ls (.int 0 :: st)) : Go Q Z B k n h pc Ls (.null :: st) := fun x T P => by
  subst hp
  obtain ⟨E, O', locs, X, e, N⟩ := id P
  exact lift (fun t q => X.instanceofNull P.ex (g := mkF x.m pc Ls (.null :: st)) rfl rfl (P.d hd) t q) (r x T P)
theorem ary_arv {a : Addr} {c0 : ClassId} {ty : FieldType} {z : Int32} {vs : List Value} {d : Value} (F : Arv Z h a c0 ty z vs d) (hl : z.toNatClampNeg = vs.length) : Ary Z h a ty vs := by
  obtain ⟨c, A, -, S, hz, H, G⟩ := F
  have e : c.slots.toList = vs := by
    apply List.ext_getElem?
    intro i
    rw [Array.getElem?_toList]
    by_cases hi : i < vs.length
    · rw [H i (by omega)]
      simp [List.getD, hi]
    · rw [List.getElem?_eq_none (by omega), Array.getElem?_eq_none (by omega)]
  refine ⟨c, A, e, ?_, fun v hv => ?_⟩
  · rw [← hl]; have := nat_of (j := z) hz; have := z.toInt_lt; omega
  · obtain ⟨i, hi, rfl⟩ := List.mem_iff_getElem.mp hv
    have := G i (by omega)
    simpa [List.getD, hi] using this
theorem Go.grid (pc' : Nat) (hp : pc + 4 = pc') {ad C : String} {ty : FieldType} {ix : Nat} {m1 m2 : Int32} (i1 i2 i3 N M cap : Nat) (hd : decode B.by pc = .ok (.multianewarray ix 2, 4)) (hC : (FieldType.array ty).toString = C) (had : "[" ++ C = ad) (w1 : B.tb[i1]? = some (.classLink B.y.cls ix ad)) (w2 : B.tb[i2]? = some (.arrayOver (.array ty))) (w3 : B.tb[i3]? = some (.arrayClass ty))
    (hN : m1.toInt = N) (hM : m2.toInt = M) (hcap : M ≤ cap) (hb : cap * 8 ≤ 536870912) (hb1 : N ≤ 1000) (hdf : fits ty (defaultValue ty) = true) (hdd : (defaultValue ty).isDefault = true) (hc : k + (1 + N) ≤ B.R.cells) (hl : n + (N + N * cap) ≤ B.R.slots)
    (r : ∀ (h' : Heap) (a : Addr), @Eq Nat a h.size → Z.heap.size ≤ a → Keep h h' [] → Ary Z h' a (.array ty) ((List.range N).map fun j => .ref (a + 1 + j)) → (∀ j, j < N → Ary Z h' (a + 1 + j) ty (List.replicate M (defaultValue ty))) → Go Q Z B (k + (1 + N)) (n + (N + N * cap)) h' pc' Ls (.ref a :: st)) : Go Q Z B k n h pc Ls (.int m2 :: .int m1 :: st) := fun x T P => by
  subst hp
  obtain ⟨a0, hw⟩ := P.wd.w
  obtain ⟨E, O', locs, X, e, N'⟩ := id P
  have z0 : (0 : Int32).toInt = 0 := rfl
  have hm1 : ¬ m1 < 0 := by rw [Int32.lt_iff_toInt_lt]; omega
  have hm2 : ¬ m2 < 0 := by rw [Int32.lt_iff_toInt_lt]; omega
  obtain ⟨T', h', cA, comp, X', e', Ex, A, -, -, R1, s'⟩ := gridM X P.ex E.zz E.own hC had (hw w1) (hw w2) (hw w3) e (g := mkF x.m pc Ls (.int m2 :: .int m1 :: st)) rfl (P.d hd) rfl hm1 hm2 (N := N) (ix_nat hN) rfl (cap := cap) (by rw [ix_nat hM]; exact hcap) hb hb1 hdf hdd hc hl
  have hlen : M < 2 ^ 31 := by have := m2.toInt_lt; omega
  refine lift s' (r h' h.size rfl P.le (keep_ext Ex) ?_ (fun j hj => ?_) x T' ⟨E, ⟨Nat.le_trans O'.1 Ex.1, fun y c q => Ex.2 y c (O'.2 y c q)⟩, locs, X', e', N'⟩)
  · have := ary_arv A (by rw [ix_nat hN]; simp)
    rw [List.map_map] at this
    exact this
  · obtain ⟨A1, -⟩ := R1 j (h.size + 1 + j) (by simp [hj])
    refine ⟨_, A1, ?_, by rw [List.length_replicate]; exact hlen, fun v hv => ?_⟩
    · show (Array.replicate _ _).toList = _
      rw [ix_nat hM, Array.toList_replicate]
    · rw [List.eq_of_mem_replicate hv]; exact hdf
/-- a class right under the root is not assignable to another plain class -/
theorem not_asg {tb : List Cond} (hw : Wd Z tb) {C S K : String} {sz : Nat} (i1 i2 i3 : Nat) (w1 : tb[i1]? = some (.superclass C S)) (w2 : tb[i2]? = some (.noSuperclass S)) (w3 : tb[i3]? = some (.instantiable K sz)) (n1 : C ≠ K) (n2 : S ≠ K) : ∃ c t, Z.vm.findClass C = some c ∧ Z.vm.findClass K = some t ∧ Z.vm.assignable c t = false := by
  obtain ⟨a0, hw⟩ := hw.w
  obtain ⟨c, h0⟩ := found_sup (hw w1)
  obtain ⟨p, k, kp, h1, h2, h3, h4, h5, -, h7⟩ := Cond.superclass_spec h0 (hw w1)
  obtain ⟨c', k', g1, g2, g3, -, -⟩ := Cond.noSuperclass_spec (hw w2)
  cases g1.symm.trans h1
  cases g2.symm.trans h3
  obtain ⟨t, kt, i1, i2, i3, i4, -⟩ := Cond.instantiable_spec (hw w3)
  have ne1 := ids_ne h0 i1 n1
  have ne2 := ids_ne h1 i1 n2
  have hi : kt.isInterface = false := (Bool.or_eq_false_iff.mp i4).1
  refine ⟨c, t, h0, i1, ?_⟩
  show Z.vm.assignableAux (255 + 1) c t = false
  have sub : ∀ fuel, Z.vm.isSubclassAux fuel c t = false := by
    intro fuel
    cases fuel with
    | zero => rfl
    | succ f =>
      cases f with
      | zero => simp [Vm.isSubclassAux, ne1, h2, h4]
      | succ f => simp [Vm.isSubclassAux, ne1, ne2, h2, h4, h3, g3]
  simp [Vm.assignableAux, ne1, h2, i2, h5, i3, hi, Vm.isSubclass, sub]
end More
end Jvm.Ow
namespace Jvm.Pilot.@@N@@
open Jvm Jvm.ClassFile Sem Op Lib Jvm.Free Jvm.Stand Jvm.LawKit Jvm.RoadKit Bundle Jvm.Ow Jvm.Pilot.@@N@@.Jvm.D
def Brd (Z : State) (h : Heap) (t : Nat) (N : Nat) (g : Nat → Nat → Int32) : Prop := Ary Z h t (.array .int) ((List.range N).map fun j => .ref (t + 1 + j)) ∧ ∀ j, j < N → Ary Z h (t + 1 + j) .int ((List.range N).map fun i => .int (g j i))
theorem Brd.keep {Z : State} {h h' : Heap} {t : Nat} {N : Nat} {g : Nat → Nat → Int32} {ws : List Addr} (B : Brd Z h t N g) (K : Keep h h' ws) (q : ∀ y : Nat, y ∈ ws → y < t ∨ t + N < y) : Brd Z h' t N g :=
  ⟨B.1.keep K (fun m => by have := q _ m; omega), fun j hj => (B.2 j hj).keep K (fun m => by have := q _ m; omega)⟩
theorem Brd.lt {Z : State} {h : Heap} {t : Nat} {N : Nat} {g : Nat → Nat → Int32} (B : Brd Z h t N g) (hN : 0 < N) : t + N < h.size := by
  have := ltN (B.2 (N - 1) (by omega)).lt; omega
def updG (g : Nat → Nat → Int32) (r c : Nat) (x : Int32) : Nat → Nat → Int32 := fun j i => if j = r ∧ i = c then x else g j i
theorem own_row {t : Nat} {N r : Nat} (hr : r < N) : ((List.range N).map fun j => Value.ref (t + 1 + j))[r]? = some (.ref (t + 1 + r)) := by simp [hr]
theorem own_at {g : Nat → Int32} {N r : Nat} (hr : r < N) : ((List.range N).map fun j => Value.int (g j))[r]? = some (.int (g r)) := by simp [hr]
theorem own_set {f f' : Nat → Int32} {N c : Nat} {x : Int32} (h1 : f' c = x) (h2 : ∀ i, i ≠ c → f' i = f i) : ((List.range N).map fun i => Value.int (f i)).set c (.int x) = (List.range N).map fun i => Value.int (f' i) := by
  apply List.ext_getElem?
  intro i
  by_cases hc : i = c
  · subst hc
    by_cases hi : i < N
    · simp [hi, h1]
    · simp [hi]
  · rw [List.getElem?_set_ne (Ne.symm hc)]
    by_cases hi : i < N
    · simp [hi, h2 i hc]
    · simp [hi]
theorem Brd.put {Z : State} {h h' : Heap} {t : Nat} {N r c : Nat} {g : Nat → Nat → Int32} {x : Int32} (B : Brd Z h t N g) (hr : r < N) (K : Keep h h' [t + 1 + r]) (A : Ary Z h' (t + 1 + r) .int (((List.range N).map fun i => Value.int (g r i)).set c (.int x))) : Brd Z h' t N (updG g r c x) := by
  refine ⟨B.1.keep K (ninS (show @Ne Nat t (t + 1 + r) from by omega) nin0), fun j hj => ?_⟩
  by_cases q : j = r
  · subst q
    rw [own_set (f' := fun i => updG g j c x j i) (by simp [updG]) (by intro i hi; simp [updG, hi])] at A
    exact A
  · have := (B.2 j hj).keep K (ninS (show @Ne Nat (t + 1 + j) (t + 1 + r) from by omega) nin0)
    have e : (fun i => Value.int (updG g r c x j i)) = fun i => Value.int (g j i) := by funext i; simp [updG, q]
    rw [e]; exact this
theorem own_sz {N : Nat} {z : Int32} (h : z.toInt = N) : z.toInt = ((List.range N).map f).length := by simp [h]
theorem own_lt {N i : Nat} {z w : Int32} (hz : z.toInt = N) (hi : w.toInt = i) : w < z ↔ i < N := by rw [Int32.lt_iff_toInt_lt]; omega
theorem own_inc {w : Int32} {i N : Nat} (h : w.toInt = i) (h1 : i < N) (h2 : N ≤ 20) : (w + 1).toInt = ((i + 1 : Nat) : Int) := by
  have o : (1 : Int32).toInt = 1 := rfl
  rw [Jvm.Free.XT.add32 ⟨by omega, by omega⟩]; omega
theorem own_rep {N : Nat} : List.replicate N (defaultValue .int) = (List.range N).map fun i => Value.int ((fun _ _ => 0 : Nat → Nat → Int32) 0 i) := by
  apply List.ext_getElem?
  intro i
  by_cases hi : i < N
  · simp [hi, List.getElem?_replicate]; rfl
  · simp [hi, List.getElem?_replicate]
theorem own_store {l l' : Array Slot} {i : Nat} {v : Value} {o : Slot} (hold : l[i]? = some o) (ho : One o) (hv : v.category = 1) (hl : l.setIfInBounds i (.val v) = l') : storeLocals l i v = some l' := by
  rw [XS.store1 hold ho hv, hl]
theorem own_pl {p k v : Int32} (h : (1 : Int32) + ((XT.ushr p k) &&& (1 : Int32)) = v) : v ≠ 0 := by
  intro q
  rcases and_one (XT.ushr p k) with e | e
  · rw [e, q] at h; exact absurd h (by decide)
  · rw [e, q] at h; exact absurd h (by decide)
theorem own_N {sz : Int32} (h : sz = 1 ∨ sz = 2 ∨ sz = 18 ∨ sz = 20) : ∃ N : Nat, sz.toInt = N ∧ N ≤ 20 ∧ 0 < N := by
  rcases h with rfl | rfl | rfl | rfl
  · exact ⟨1, rfl, by decide, by decide⟩
  · exact ⟨2, rfl, by decide, by decide⟩
  · exact ⟨18, rfl, by decide, by decide⟩
  · exact ⟨20, rfl, by decide, by decide⟩
theorem own_big {sz : Int32} {N : Nat} (h : sz = 1 ∨ sz = 2 ∨ sz = 18 ∨ sz = 20) (hN : sz.toInt = N) (h1 : ¬ sz = 1) (h2 : ¬ sz = 2) : 18 ≤ N := by
  rcases h with rfl | rfl | rfl | rfl
  · exact absurd rfl h1
  · exact absurd rfl h2
  · have o : (18 : Int32).toInt = 18 := rfl; omega
  · have o : (20 : Int32).toInt = 20 := rfl; omega
theorem own_cn (y : Int32) {sz : Int32} {N : Nat} (hN : sz.toInt = N) (h0 : 0 < N) : ∃ cn : Nat, ((y &&& (255 : Int32)) % sz).toInt = cn ∧ cn < N := by
  have h1 : (y &&& (255 : Int32)).toInt = y.toInt % (2 ^ 8 : Nat) := c_mask _ 255 8 (by decide) (by decide)
  have h2 := (c_iremV (y &&& (255 : Int32)) sz).1 (by omega) (by omega)
  exact ⟨((y &&& (255 : Int32)) % sz).toInt.toNat, by omega, by omega⟩
theorem own_and3 (y : Int32) : 0 ≤ (y &&& (3 : Int32)).toInt ∧ (y &&& (3 : Int32)).toInt < 4 := by
  have h1 : (y &&& (3 : Int32)).toInt = y.toInt % (2 ^ 2 : Nat) := c_mask _ 3 2 (by decide) (by decide)
  omega
theorem own_rn0 (p : Int32) : ∃ rn : Nat, (p &&& (3 : Int32)).toInt = rn ∧ rn < 4 := ⟨(p &&& (3 : Int32)).toInt.toNat, by have := own_and3 p; omega, by have := own_and3 p; omega⟩
theorem own_rnk (y k : Int32) (K : Nat) (hk : k.toInt = K) (hK : K ≤ 12) : ∃ rn : Nat, (k + (y &&& (3 : Int32))).toInt = rn ∧ K ≤ rn ∧ rn < K + 4 := by
  have h1 := own_and3 y
  have h2 := Jvm.Free.XT.add32 (x := k) (y := y &&& (3 : Int32)) ⟨by omega, by omega⟩
  exact ⟨(k + (y &&& (3 : Int32))).toInt.toNat, by omega, by omega, by omega⟩
theorem own_rn1 (p : Int32) : ∃ rn : Nat, ((4 : Int32) + ((XT.ushr p (8 : Int32)) &&& (3 : Int32))).toInt = rn ∧ 4 ≤ rn ∧ rn < 8 := own_rnk _ 4 4 rfl (by decide)
theorem own_rn2 (p : Int32) : ∃ rn : Nat, ((8 : Int32) + ((XT.ushr p (16 : Int32)) &&& (3 : Int32))).toInt = rn ∧ 8 ≤ rn ∧ rn < 12 := own_rnk _ 8 8 rfl (by decide)
theorem own_rn3 (p : Int32) : ∃ rn : Nat, ((12 : Int32) + ((XT.ushr p (24 : Int32)) &&& (3 : Int32))).toInt = rn ∧ 12 ≤ rn ∧ rn < 16 := own_rnk _ 12 12 rfl (by decide)
def FullQ (N : Nat) (g : Nat → Nat → Int32) (q : Int32) : Prop := q = 1 ∧ (∀ j, j < N → ∀ i, i < N → g j i ≠ 0) ∨ q = 0 ∧ ¬ (∀ j, j < N → ∀ i, i < N → g j i ≠ 0)
theorem own_f1 {N : Nat} {o p q : Int32} (hN : N = 1) (ho : o = 0 ∨ o = 1) (hp : p ≠ 0) (h : FullQ N (if o = 0 then fun _ _ => (0 : Int32) else updG (fun _ _ => (0 : Int32)) 0 0 p) q) : q = o := by
  subst hN
  rcases ho with rfl | rfl
  · rcases h with ⟨_, f⟩ | ⟨rfl, _⟩
    · exact absurd (by simp) (f 0 (by decide) 0 (by decide))
    · rfl
  · rcases h with ⟨rfl, _⟩ | ⟨_, f⟩
    · rfl
    · refine absurd (fun j hj i hi => ?_) f
      obtain rfl : j = 0 := by omega
      obtain rfl : i = 0 := by omega
      simp [updG, hp]
theorem own_f2 {N : Nat} {o0 o1 o2 o3 p0 p1 p2 p3 q ex : Int32} (hN : N = 2) (h0 : p0 ≠ 0) (h1 : p1 ≠ 0) (h2 : p2 ≠ 0) (h3 : p3 ≠ 0) (hex : ex = if o0 = 0 ∨ o1 = 0 ∨ o2 = 0 ∨ o3 = 0 then 0 else 1)
    (h : FullQ N (if o3 = 0 then if o2 = 0 then if o1 = 0 then if o0 = 0 then fun _ _ => (0 : Int32) else updG (fun _ _ => (0 : Int32)) 0 0 p0 else updG (if o0 = 0 then fun _ _ => (0 : Int32) else updG (fun _ _ => (0 : Int32)) 0 0 p0) 0 1 p1 else updG (if o1 = 0 then if o0 = 0 then fun _ _ => (0 : Int32) else updG (fun _ _ => (0 : Int32)) 0 0 p0 else updG (if o0 = 0 then fun _ _ => (0 : Int32) else updG (fun _ _ => (0 : Int32)) 0 0 p0) 0 1 p1) 1 0 p2 else updG (if o2 = 0 then if o1 = 0 then if o0 = 0 then fun _ _ => (0 : Int32) else updG (fun _ _ => (0 : Int32)) 0 0 p0 else updG (if o0 = 0 then fun _ _ => (0 : Int32) else updG (fun _ _ => (0 : Int32)) 0 0 p0) 0 1 p1 else updG (if o1 = 0 then if o0 = 0 then fun _ _ => (0 : Int32) else updG (fun _ _ => (0 : Int32)) 0 0 p0 else updG (if o0 = 0 then fun _ _ => (0 : Int32) else updG (fun _ _ => (0 : Int32)) 0 0 p0) 0 1 p1) 1 0 p2) 1 1 p3) q) : q = ex := by
  subst hN
  by_cases a0 : o0 = 0 <;> by_cases a1 : o1 = 0 <;> by_cases a2 : o2 = 0 <;> by_cases a3 : o3 = 0
  all_goals simp only [a0, a1, a2, a3, if_true, if_false, or_true, true_or, or_self, or_false, false_or] at h hex
  all_goals subst hex
  all_goals rcases h with ⟨rfl, f⟩ | ⟨rfl, f⟩
  all_goals first
    | rfl
    | (refine absurd ?_ (f 0 (by decide) 0 (by decide)); simp [updG]; done)
    | (refine absurd ?_ (f 0 (by decide) 1 (by decide)); simp [updG]; done)
    | (refine absurd ?_ (f 1 (by decide) 0 (by decide)); simp [updG]; done)
    | (refine absurd ?_ (f 1 (by decide) 1 (by decide)); simp [updG]; done)
    | (refine absurd (fun j hj i hi => ?_) f
       have ej : j = 0 ∨ j = 1 := by omega
       have ei : i = 0 ∨ i = 1 := by omega
       rcases ej with rfl | rfl <;> rcases ei with rfl | rfl <;> simp [updG, h0, h1, h2, h3])
theorem own_f3 {o0 o1 o2 o3 p0 p1 p2 p3 q : Int32} {N rn0 rn1 rn2 rn3 cn0 cn1 cn2 cn3 : Nat} (hN : 18 ≤ N) (h0 : rn0 ≠ 16) (h1 : rn1 ≠ 16) (h2 : rn2 ≠ 16) (h3 : rn3 ≠ 16)
    (h : FullQ N (if o3 = 0 then if o2 = 0 then if o1 = 0 then if o0 = 0 then fun _ _ => (0 : Int32) else updG (fun _ _ => (0 : Int32)) rn0 cn0 p0 else updG (if o0 = 0 then fun _ _ => (0 : Int32) else updG (fun _ _ => (0 : Int32)) rn0 cn0 p0) rn1 cn1 p1 else updG (if o1 = 0 then if o0 = 0 then fun _ _ => (0 : Int32) else updG (fun _ _ => (0 : Int32)) rn0 cn0 p0 else updG (if o0 = 0 then fun _ _ => (0 : Int32) else updG (fun _ _ => (0 : Int32)) rn0 cn0 p0) rn1 cn1 p1) rn2 cn2 p2 else updG (if o2 = 0 then if o1 = 0 then if o0 = 0 then fun _ _ => (0 : Int32) else updG (fun _ _ => (0 : Int32)) rn0 cn0 p0 else updG (if o0 = 0 then fun _ _ => (0 : Int32) else updG (fun _ _ => (0 : Int32)) rn0 cn0 p0) rn1 cn1 p1 else updG (if o1 = 0 then if o0 = 0 then fun _ _ => (0 : Int32) else updG (fun _ _ => (0 : Int32)) rn0 cn0 p0 else updG (if o0 = 0 then fun _ _ => (0 : Int32) else updG (fun _ _ => (0 : Int32)) rn0 cn0 p0) rn1 cn1 p1) rn2 cn2 p2) rn3 cn3 p3) q) : q = 0 := by
  rcases h with ⟨_, f⟩ | ⟨rfl, _⟩
  · refine absurd ?_ (f 16 (by omega) 0 (by omega))
    split <;> (try simp only [updG, if_neg (fun z : 16 = _ ∧ _ => h3 z.1.symm)]) <;> split <;> (try simp only [updG, if_neg (fun z : 16 = _ ∧ _ => h2 z.1.symm)]) <;> split <;> (try simp only [updG, if_neg (fun z : 16 = _ ∧ _ => h1 z.1.symm)]) <;> split <;> (try simp only [updG, if_neg (fun z : 16 = _ ∧ _ => h0 z.1.symm)])
  · rfl
theorem d4_0 : decode prog_39_method_1_code 0 = .ok (.aload_n 0, 1) := by decide +kernel
theorem d4_1 : decode prog_39_method_1_code 1 = .ok (.invokespecial 1, 3) := by decide +kernel
theorem d4_4 : decode prog_39_method_1_code 4 = .ok (.aload_n 0, 1) := by decide +kernel
theorem d4_5 : decode prog_39_method_1_code 5 = .ok (.iload_n 1, 1) := by decide +kernel
theorem d4_6 : decode prog_39_method_1_code 6 = .ok (.putfield 7, 3) := by decide +kernel
theorem d4_9 : decode prog_39_method_1_code 9 = .ok (.aload_n 0, 1) := by decide +kernel
theorem d4_10 : decode prog_39_method_1_code 10 = .ok (.iload_n 2, 1) := by decide +kernel
theorem d4_11 : decode prog_39_method_1_code 11 = .ok (.putfield 13, 3) := by decide +kernel
theorem d4_14 : decode prog_39_method_1_code 14 = .ok (.return_, 1) := by decide +kernel
theorem pd4 : parseMethodDescriptor "(II)V" = some ⟨[.int, .int], none⟩ := by decide +kernel
theorem pn4 : plainName "com/example/befehlswerk/befehlswerk/kernel/Position" = true := by first | (simp [plainName, overriddenIn]; done) | decide +kernel
abbrev B4 : Bd := ((⟨"com/example/befehlswerk/befehlswerk/kernel/Position", "<init>", "(II)V"⟩ : MethodName), prog_39_method_1_code, 3, none, ({ frames := 1, cells := 0, slots := 0, locals := 12 } : Room), tables_1)
theorem ef4 (m : MethodId) (a : Addr) (r : Int32) (c : Int32) : entryFrame m (List.toArray [.ref a, .int r, .int c]) 3 = mkF m 0 #[.val (.ref a), .val (.int r), .val (.int c)] [] := by first | (simp [entryFrame, mkF, argsToLocals, Value.category]; done) | rfl
def Q4 (Z : State) (a : Addr) (r : Int32) (c : Int32) (h0 : Heap) (v : Option Value) (h : Heap) : Prop := v = none ∧ Keep h0 h [a] ∧ Fld Z h a "com/example/befehlswerk/befehlswerk/kernel/Position" "row" "I" (.int r) ∧ Fld Z h a "com/example/befehlswerk/befehlswerk/kernel/Position" "column" "I" (.int c)
set_option maxRecDepth 65536 in
set_option maxHeartbeats 40000000 in
theorem c4 (Z : State) (hw : Wd Z tables_1) (h0 : Heap) (a : Addr) (r : Int32) (c : Int32)  (hge : Z.heap.size ≤ a) (hE : Exa Z h0 a "com/example/befehlswerk/befehlswerk/kernel/Position") (hF1 : Fld Z h0 a "com/example/befehlswerk/befehlswerk/kernel/Position" "row" "I" (.int 0)) (hF2 : Fld Z h0 a "com/example/befehlswerk/befehlswerk/kernel/Position" "column" "I" (.int 0)) : Con Z B4 (List.toArray [.ref a, .int r, .int c]) h0 (Q4 Z a r c h0) := by
  refine Con.mk hw pn4 (fun m => ef4 m a r c) (Go.old fun hle' => ?_)
  have hle := hle'.1
  refine Go.aloadN 1 rfl d4_0 rfl rfl ?_
  refine Go.initO 4 rfl 28 7 8 d4_1 rfl rfl rfl rfl (by decide) (W := 0) (Nat.le_of_ble_eq_true rfl) (by decide) ?_
  refine Go.aloadN 5 rfl d4_4 rfl rfl ?_
  refine Go.iloadN 6 rfl d4_5 rfl ?_
  refine Go.putF 9 rfl (v' := .int r) (ty := .int) 29 30 23 d4_6 rfl hF1 hE (Or.inr ⟨rfl, rfl, rfl⟩) rfl (by decide) rfl rfl hge fun h1 K2 W3 F4 => ?_
  refine Go.aloadN 10 rfl d4_9 rfl rfl ?_
  refine Go.iloadN 11 rfl d4_10 rfl ?_
  have F5 : Fld Z h1 a "com/example/befehlswerk/befehlswerk/kernel/Position" "column" "I" (.int (0 : Int32)) := (Fld.oth hw hF2 W3 32 30 (Or.inr rfl) (Or.inr rfl) (by decide) rfl rfl)
  have F6 : Exa Z h1 a "com/example/befehlswerk/befehlswerk/kernel/Position" := (hE.keep K2)
  refine Go.putF 14 rfl (v' := .int c) (ty := .int) 31 32 23 d4_11 rfl F5 F6 (Or.inr ⟨rfl, rfl, rfl⟩) rfl (by decide) rfl rfl hge fun h7 K8 W9 F10 => ?_
  have F11 : Fld Z h7 a "com/example/befehlswerk/befehlswerk/kernel/Position" "row" "I" (.int r) := (Fld.oth hw F4 W9 30 32 (Or.inr rfl) (Or.inr rfl) (by decide) rfl rfl)
  exact Go.retV d4_14 rfl (by decide) (by decide) ⟨rfl, (((Keep.refl h0 [a]).trans K2 (by simp)).trans K8 (by simp)), F11, F10⟩
theorem d6_0 : decode prog_39_method_4_code 0 = .ok (.aload_n 0, 1) := by decide +kernel
theorem d6_1 : decode prog_39_method_4_code 1 = .ok (.getfield 7, 3) := by decide +kernel
theorem d6_4 : decode prog_39_method_4_code 4 = .ok (.ireturn, 1) := by decide +kernel
theorem pd6 : parseMethodDescriptor "()I" = some ⟨[], some .int⟩ := by decide +kernel
theorem pn6 : plainName "com/example/befehlswerk/befehlswerk/kernel/Position" = true := by first | (simp [plainName, overriddenIn]; done) | decide +kernel
abbrev B6 : Bd := ((⟨"com/example/befehlswerk/befehlswerk/kernel/Position", "row", "()I"⟩ : MethodName), prog_39_method_4_code, 1, (some .int), ({ frames := 0, cells := 0, slots := 0, locals := 0 } : Room), tables_1)
theorem ef6 (m : MethodId) (a : Addr) : entryFrame m (List.toArray [.ref a]) 1 = mkF m 0 #[.val (.ref a)] [] := by first | (simp [entryFrame, mkF, argsToLocals, Value.category]; done) | rfl
def Q6 (r : Int32) (h0 : Heap) (v : Option Value) (h : Heap) : Prop := v = some (.int r) ∧ h0 = h
set_option maxRecDepth 65536 in
set_option maxHeartbeats 40000000 in
theorem c6 (Z : State) (hw : Wd Z tables_1) (h0 : Heap) (a : Addr) (r : Int32) (hF : Fld Z h0 a "com/example/befehlswerk/befehlswerk/kernel/Position" "row" "I" (.int r)) : Con Z B6 (List.toArray [.ref a]) h0 (Q6 r h0) := by
  refine Con.mk hw pn6 (fun m => ef6 m a) (Go.old fun hle' => ?_)
  have hle := hle'.1
  refine Go.aloadN 1 rfl d6_0 rfl rfl ?_
  refine Go.getF 4 rfl (v := .int r) 29 d6_1 rfl hF ?_
  exact Go.retI d6_4 rfl (by decide) (by decide) ⟨rfl, rfl⟩
theorem d7_0 : decode prog_39_method_5_code 0 = .ok (.aload_n 0, 1) := by decide +kernel
theorem d7_1 : decode prog_39_method_5_code 1 = .ok (.getfield 13, 3) := by decide +kernel
theorem d7_4 : decode prog_39_method_5_code 4 = .ok (.ireturn, 1) := by decide +kernel
theorem pd7 : parseMethodDescriptor "()I" = some ⟨[], some .int⟩ := by decide +kernel
theorem pn7 : plainName "com/example/befehlswerk/befehlswerk/kernel/Position" = true := by first | (simp [plainName, overriddenIn]; done) | decide +kernel
abbrev B7 : Bd := ((⟨"com/example/befehlswerk/befehlswerk/kernel/Position", "column", "()I"⟩ : MethodName), prog_39_method_5_code, 1, (some .int), ({ frames := 0, cells := 0, slots := 0, locals := 0 } : Room), tables_1)
theorem ef7 (m : MethodId) (a : Addr) : entryFrame m (List.toArray [.ref a]) 1 = mkF m 0 #[.val (.ref a)] [] := by first | (simp [entryFrame, mkF, argsToLocals, Value.category]; done) | rfl
def Q7 (r : Int32) (h0 : Heap) (v : Option Value) (h : Heap) : Prop := v = some (.int r) ∧ h0 = h
set_option maxRecDepth 65536 in
set_option maxHeartbeats 40000000 in
theorem c7 (Z : State) (hw : Wd Z tables_1) (h0 : Heap) (a : Addr) (r : Int32) (hF : Fld Z h0 a "com/example/befehlswerk/befehlswerk/kernel/Position" "column" "I" (.int r)) : Con Z B7 (List.toArray [.ref a]) h0 (Q7 r h0) := by
  refine Con.mk hw pn7 (fun m => ef7 m a) (Go.old fun hle' => ?_)
  have hle := hle'.1
  refine Go.aloadN 1 rfl d7_0 rfl rfl ?_
  refine Go.getF 4 rfl (v := .int r) 31 d7_1 rfl hF ?_
  exact Go.retI d7_4 rfl (by decide) (by decide) ⟨rfl, rfl⟩
theorem d1_0 : decode prog_2_method_1_code 0 = .ok (.aload_n 0, 1) := by decide +kernel
theorem d1_1 : decode prog_2_method_1_code 1 = .ok (.invokespecial 1, 3) := by decide +kernel
theorem d1_4 : decode prog_2_method_1_code 4 = .ok (.aload_n 0, 1) := by decide +kernel
theorem d1_5 : decode prog_2_method_1_code 5 = .ok (.iload_n 1, 1) := by decide +kernel
theorem d1_6 : decode prog_2_method_1_code 6 = .ok (.putfield 7, 3) := by decide +kernel
theorem d1_9 : decode prog_2_method_1_code 9 = .ok (.aload_n 0, 1) := by decide +kernel
theorem d1_10 : decode prog_2_method_1_code 10 = .ok (.iload_n 2, 1) := by decide +kernel
theorem d1_11 : decode prog_2_method_1_code 11 = .ok (.putfield 13, 3) := by decide +kernel
theorem d1_14 : decode prog_2_method_1_code 14 = .ok (.aload_n 0, 1) := by decide +kernel
theorem d1_15 : decode prog_2_method_1_code 15 = .ok (.iload_n 1, 1) := by decide +kernel
theorem d1_16 : decode prog_2_method_1_code 16 = .ok (.iload_n 1, 1) := by decide +kernel
theorem d1_17 : decode prog_2_method_1_code 17 = .ok (.multianewarray 17 2, 4) := by decide +kernel
theorem d1_21 : decode prog_2_method_1_code 21 = .ok (.putfield 19, 3) := by decide +kernel
theorem d1_24 : decode prog_2_method_1_code 24 = .ok (.return_, 1) := by decide +kernel
theorem pd1 : parseMethodDescriptor "(IZ)V" = some ⟨[.int, .boolean], none⟩ := by decide +kernel
theorem pn1 : plainName "com/example/befehlswerk/befehlswerk/connect6/Board" = true := by first | (simp [plainName, overriddenIn]; done) | decide +kernel
abbrev B1 : Bd := ((⟨"com/example/befehlswerk/befehlswerk/connect6/Board", "<init>", "(IZ)V"⟩ : MethodName), prog_2_method_1_code, 3, none, ({ frames := 1, cells := 21, slots := 420, locals := 12 } : Room), tables_1)
theorem ef1 (m : MethodId) (a : Addr) (sz : Int32) (tor : Int32) : entryFrame m (List.toArray [.ref a, .int sz, .int tor]) 3 = mkF m 0 #[.val (.ref a), .val (.int sz), .val (.int tor)] [] := by first | (simp [entryFrame, mkF, argsToLocals, Value.category]; done) | rfl
def Q1 (Z : State) (a : Addr) (N : Nat) (h0 : Heap) (v : Option Value) (h : Heap) : Prop := v = none ∧ ∃ t, h0.size ≤ t ∧ Keep h0 h [a] ∧ Fld Z h a "com/example/befehlswerk/befehlswerk/connect6/Board" "stones" "[[I" (.ref t) ∧ Brd Z h t N (fun _ _ => 0)
set_option maxRecDepth 65536 in
set_option maxHeartbeats 40000000 in
theorem c1 (Z : State) (hw : Wd Z tables_1) (h0 : Heap) (a : Addr) (sz : Int32) (tor : Int32) (N : Nat) (hN : sz.toInt = N) (hN20 : N ≤ 20) (hge : Z.heap.size ≤ a) (hE : Exa Z h0 a "com/example/befehlswerk/befehlswerk/connect6/Board") (hF1 : Fld Z h0 a "com/example/befehlswerk/befehlswerk/connect6/Board" "size" "I" (.int 0)) (hF2 : Fld Z h0 a "com/example/befehlswerk/befehlswerk/connect6/Board" "torus" "Z" (.int 0)) (hF3 : Fld Z h0 a "com/example/befehlswerk/befehlswerk/connect6/Board" "stones" "[[I" .null) : Con Z B1 (List.toArray [.ref a, .int sz, .int tor]) h0 (Q1 Z a N h0) := by
  refine Con.mk hw pn1 (fun m => ef1 m a sz tor) (Go.old fun hle' => ?_)
  have hle := hle'.1
  refine Go.aloadN 1 rfl d1_0 rfl rfl ?_
  refine Go.initO 4 rfl 6 7 8 d1_1 rfl rfl rfl rfl (by decide) (W := 0) (Nat.le_of_ble_eq_true rfl) (by decide) ?_
  refine Go.aloadN 5 rfl d1_4 rfl rfl ?_
  refine Go.iloadN 6 rfl d1_5 rfl ?_
  refine Go.putF 9 rfl (v' := .int sz) (ty := .int) 9 10 1 d1_6 rfl hF1 hE (Or.inr ⟨rfl, rfl, rfl⟩) rfl (by decide) rfl rfl hge fun h1 K2 W3 F4 => ?_
  refine Go.aloadN 10 rfl d1_9 rfl rfl ?_
  refine Go.iloadN 11 rfl d1_10 rfl ?_
  have F5 : Fld Z h1 a "com/example/befehlswerk/befehlswerk/connect6/Board" "torus" "Z" (.int (0 : Int32)) := (Fld.oth hw hF2 W3 12 10 (Or.inr rfl) (Or.inr rfl) (by decide) rfl rfl)
  have F6 : Exa Z h1 a "com/example/befehlswerk/befehlswerk/connect6/Board" := (hE.keep K2)
  refine Go.putF 14 rfl (v' := .int (tor &&& 1)) (ty := .boolean) 11 12 1 d1_11 rfl F5 F6 (Or.inr ⟨rfl, rfl, rfl⟩) rfl (by decide) rfl (fits_nar_bool tor) hge fun h7 K8 W9 F10 => ?_
  refine Go.aloadN 15 rfl d1_14 rfl rfl ?_
  refine Go.iloadN 16 rfl d1_15 rfl ?_
  refine Go.iloadN 17 rfl d1_16 rfl ?_
  refine Go.grid 21 rfl 13 14 15 N N 20 d1_17 rfl rfl rfl rfl rfl hN hN hN20 (by decide) (by omega) rfl rfl (by show 0 + (1 + N) ≤ 21; omega) (by show 0 + (N + N * 20) ≤ 420; omega) fun h11 a12 g13 z14 K15 A16 A17 => ?_
  refine Go.more (k' := 21) (n' := 420) (by omega) (by omega) ?_
  have Bd0 : Brd Z h11 a12 N (fun _ _ => 0) := ⟨A16, fun j hj => by have := A17 j hj; rw [own_rep] at this; exact this⟩
  have F18 : Fld Z h11 a "com/example/befehlswerk/befehlswerk/connect6/Board" "stones" "[[I" (.null) := ((Fld.oth hw (Fld.oth hw hF3 W3 17 10 (Or.inr rfl) (Or.inr rfl) (by decide) rfl rfl) W9 17 12 (Or.inr rfl) (Or.inr rfl) (by decide) rfl rfl).keep K15 nin0)
  have F19 : Exa Z h11 a "com/example/befehlswerk/befehlswerk/connect6/Board" := ((F6.keep K8).keep K15)
  refine Go.putF 24 rfl (v' := .ref a12) (ty := (.array (.array .int))) 16 17 1 d1_21 rfl F18 F19 (Or.inr ⟨rfl, rfl, rfl⟩) rfl (by decide) rfl rfl hge fun h20 K21 W22 F23 => ?_
  exact Go.retV d1_24 rfl (by decide) (by decide) ⟨rfl, a12, by have := g13; have := K2.1; have := K8.1; omega, (((((Keep.refl h0 [a]).trans K2 (by simp)).trans K8 (by simp)).trans K15 all0).trans K21 (by simp)), F23, Bd0.keep K21 (by intro y hy; obtain rfl := List.mem_singleton.mp hy; left; have := ltN hE.lt; have := g13; have := K2.1; have := K8.1; omega)⟩
theorem d5_0 : decode prog_2_method_7_code 0 = .ok (.aload_n 0, 1) := by decide +kernel
theorem d5_1 : decode prog_2_method_7_code 1 = .ok (.getfield 19, 3) := by decide +kernel
theorem d5_4 : decode prog_2_method_7_code 4 = .ok (.aload_n 1, 1) := by decide +kernel
theorem d5_5 : decode prog_2_method_7_code 5 = .ok (.invokevirtual 36, 3) := by decide +kernel
theorem d5_8 : decode prog_2_method_7_code 8 = .ok (.aaload, 1) := by decide +kernel
theorem d5_9 : decode prog_2_method_7_code 9 = .ok (.aload_n 1, 1) := by decide +kernel
theorem d5_10 : decode prog_2_method_7_code 10 = .ok (.invokevirtual 42, 3) := by decide +kernel
theorem d5_13 : decode prog_2_method_7_code 13 = .ok (.iload_n 2, 1) := by decide +kernel
theorem d5_14 : decode prog_2_method_7_code 14 = .ok (.iastore, 1) := by decide +kernel
theorem d5_15 : decode prog_2_method_7_code 15 = .ok (.return_, 1) := by decide +kernel
theorem pd5 : parseMethodDescriptor "(Lcom/example/befehlswerk/befehlswerk/kernel/Position;I)V" = some ⟨[(.object "com/example/befehlswerk/befehlswerk/kernel/Position"), .int], none⟩ := by decide +kernel
theorem pn5 : plainName "com/example/befehlswerk/befehlswerk/connect6/Board" = true := by first | (simp [plainName, overriddenIn]; done) | decide +kernel
abbrev B5 : Bd := ((⟨"com/example/befehlswerk/befehlswerk/connect6/Board", "put", "(Lcom/example/befehlswerk/befehlswerk/kernel/Position;I)V"⟩ : MethodName), prog_2_method_7_code, 3, none, ({ frames := 1, cells := 0, slots := 0, locals := 13 } : Room), tables_1)
theorem ef5 (m : MethodId) (a : Addr) (p : Addr) (x : Int32) : entryFrame m (List.toArray [.ref a, .ref p, .int x]) 3 = mkF m 0 #[.val (.ref a), .val (.ref p), .val (.int x)] [] := by first | (simp [entryFrame, mkF, argsToLocals, Value.category]; done) | rfl
def Q5 (Z : State) (t : Addr) (N : Nat) (g : Nat → Nat → Int32) (rn : Nat) (cn : Nat) (x : Int32) (h0 : Heap) (v : Option Value) (h : Heap) : Prop := v = none ∧ Keep h0 h [t + 1 + rn] ∧ Brd Z h t N (updG g rn cn x)
set_option maxRecDepth 65536 in
set_option maxHeartbeats 40000000 in
theorem c5 (Z : State) (hw : Wd Z tables_1) (h0 : Heap) (a : Addr) (p : Addr) (x : Int32) (t : Addr) (N : Nat) (g : Nat → Nat → Int32) (rn : Nat) (cn : Nat) (r : Int32) (c : Int32) (hgt : Z.heap.size ≤ t) (hS : Fld Z h0 a "com/example/befehlswerk/befehlswerk/connect6/Board" "stones" "[[I" (.ref t)) (hB : Brd Z h0 t N g) (hP : Exa Z h0 p "com/example/befehlswerk/befehlswerk/kernel/Position") (hR : Fld Z h0 p "com/example/befehlswerk/befehlswerk/kernel/Position" "row" "I" (.int r)) (hC : Fld Z h0 p "com/example/befehlswerk/befehlswerk/kernel/Position" "column" "I" (.int c)) (hrn : r.toInt = rn) (hcn : c.toInt = cn) (hr : rn < N) (hc : cn < N) : Con Z B5 (List.toArray [.ref a, .ref p, .int x]) h0 (Q5 Z t N g rn cn x h0) := by
  refine Con.mk hw pn5 (fun m => ef5 m a p x) (Go.old fun hle' => ?_)
  have hle := hle'.1
  refine Go.aloadN 1 rfl d5_0 rfl rfl ?_
  refine Go.getF 4 rfl (v := .ref t) 16 d5_1 rfl hS ?_
  refine Go.aloadN 5 rfl d5_4 rfl rfl ?_
  refine Go.callV 8 rfl (C := B6) p [] (rest := [.ref t]) 38 39 41 40 24 42 (c6 Z hw h0 p r hR) hP d5_5 rfl rfl rfl rfl rfl rfl (by decide) pd6 rfl rfl rfl (W := 1) (Nat.le_of_ble_eq_true rfl) (by decide) (by decide) (by decide) (by decide) fun v1 h2 q3 => ?_
  obtain ⟨rfl, rfl⟩ := q3
  obtain ⟨u, hu⟩ : ∃ u : Addr, @Eq Nat u (t + 1 + rn) := ⟨_, rfl⟩
  refine Go.aaload 9 rfl (.ref u) d5_8 rfl hB.1 rn hrn (hu ▸ own_row hr) ?_
  refine Go.aloadN 10 rfl d5_9 rfl rfl ?_
  refine Go.callV 13 rfl (C := B7) p [] (rest := [.ref u]) 43 44 46 45 24 47 (c7 Z hw h0 p c hC) hP d5_10 rfl rfl rfl rfl rfl rfl (by decide) pd7 rfl rfl rfl (W := 1) (Nat.le_of_ble_eq_true rfl) (by decide) (by decide) (by decide) (by decide) fun v4 h5 q6 => ?_
  obtain ⟨rfl, rfl⟩ := q6
  refine Go.iloadN 14 rfl d5_13 rfl ?_
  refine Go.stI 15 rfl d5_14 (hu ▸ hB.2 rn hr) cn hcn (by simp; omega) (by omega) fun h7 K8 A9 => ?_
  have A10 : Ary Z h7 u .int (((List.range N).map fun i => .int (g rn i)).set cn (.int x)) := A9
  exact Go.retV d5_15 rfl (by decide) (by decide) ⟨rfl, hu ▸ K8, hB.put hr (hu ▸ K8) (hu ▸ A10)⟩
theorem d3_0 : decode method_4_code 0 = .ok (.iload_n 1, 1) := by decide +kernel
theorem d3_1 : decode method_4_code 1 = .ok (.ifCond .eq 18, 3) := by decide +kernel
theorem d3_4 : decode method_4_code 4 = .ok (.aload_n 0, 1) := by decide +kernel
theorem d3_5 : decode method_4_code 5 = .ok (.new 26, 3) := by decide +kernel
theorem d3_8 : decode method_4_code 8 = .ok (.dup, 1) := by decide +kernel
theorem d3_9 : decode method_4_code 9 = .ok (.iload_n 2, 1) := by decide +kernel
theorem d3_10 : decode method_4_code 10 = .ok (.iload_n 3, 1) := by decide +kernel
theorem d3_11 : decode method_4_code 11 = .ok (.invokespecial 28, 3) := by decide +kernel
theorem d3_14 : decode method_4_code 14 = .ok (.iload 4, 2) := by decide +kernel
theorem d3_16 : decode method_4_code 16 = .ok (.invokevirtual 31, 3) := by decide +kernel
theorem d3_19 : decode method_4_code 19 = .ok (.return_, 1) := by decide +kernel
theorem pd3 : parseMethodDescriptor "(Lcom/example/befehlswerk/befehlswerk/connect6/Board;ZIII)V" = some ⟨[(.object "com/example/befehlswerk/befehlswerk/connect6/Board"), .boolean, .int, .int, .int], none⟩ := by decide +kernel
theorem pn3 : plainName "com/example/befehlswerk/befehlswerk/connect6/BoardIsFullPinLaw" = true := by first | (simp [plainName, overriddenIn]; done) | decide +kernel
abbrev B3 : Bd := ((⟨"com/example/befehlswerk/befehlswerk/connect6/BoardIsFullPinLaw", "place", "(Lcom/example/befehlswerk/befehlswerk/connect6/Board;ZIII)V"⟩ : MethodName), method_4_code, 5, none, ({ frames := 2, cells := 1, slots := 2, locals := 28 } : Room), tables_1)
theorem ef3 (m : MethodId) (a : Addr) (o : Int32) (r : Int32) (c : Int32) (x : Int32) : entryFrame m (List.toArray [.ref a, .int o, .int r, .int c, .int x]) 5 = mkF m 0 #[.val (.ref a), .val (.int o), .val (.int r), .val (.int c), .val (.int x)] [] := by first | (simp [entryFrame, mkF, argsToLocals, Value.category]; done) | rfl
def Q3 (Z : State) (a : Addr) (o : Int32) (x : Int32) (t : Addr) (N : Nat) (g : Nat → Nat → Int32) (rn : Nat) (cn : Nat) (h0 : Heap) (v : Option Value) (h : Heap) : Prop := v = none ∧ Keep h0 h [t + 1 + rn] ∧ Fld Z h a "com/example/befehlswerk/befehlswerk/connect6/Board" "stones" "[[I" (.ref t) ∧ Brd Z h t N (if o = 0 then g else updG g rn cn x)
set_option maxRecDepth 65536 in
set_option maxHeartbeats 40000000 in
theorem c3 (Z : State) (hw : Wd Z tables_1) (h0 : Heap) (a : Addr) (o : Int32) (r : Int32) (c : Int32) (x : Int32) (t : Addr) (N : Nat) (g : Nat → Nat → Int32) (rn : Nat) (cn : Nat) (hgt : Z.heap.size ≤ t) (hne : a < t) (hE : Exa Z h0 a "com/example/befehlswerk/befehlswerk/connect6/Board") (hS : Fld Z h0 a "com/example/befehlswerk/befehlswerk/connect6/Board" "stones" "[[I" (.ref t)) (hB : Brd Z h0 t N g) (hrn : r.toInt = rn) (hcn : c.toInt = cn) (hr : rn < N) (hc : cn < N) : Con Z B3 (List.toArray [.ref a, .int o, .int r, .int c, .int x]) h0 (Q3 Z a o x t N g rn cn h0) := by
  refine Con.mk hw pn3 (fun m => ef3 m a o r c x) (Go.old fun hle' => ?_)
  have hle := hle'.1
  refine Go.iloadN 1 rfl d3_0 rfl ?_
  refine Go.if_eq 19 4 d3_1 (by decide) rfl rfl (fun (b1 : o = 0) => ?_) (fun (b1 : ¬ o = 0) => ?_)
  · exact Go.retV d3_19 rfl (by decide) (by decide) ⟨rfl, Keep.refl _ _, hS, by rw [if_pos b1]; exact hB⟩
  · refine Go.aloadN 5 rfl d3_4 rfl rfl ?_
    refine Go.newO 8 rfl 22 23 24 d3_5 rfl rfl rfl (by decide) (by decide) fun h3 a2 g4 z5 K6 E7 D8 => ?_
    refine Go.dup 9 rfl d3_8 rfl ?_
    refine Go.iloadN 10 rfl d3_9 rfl ?_
    refine Go.iloadN 11 rfl d3_10 rfl ?_
    refine Go.callI 14 rfl (C := B4) a2 [.int r, .int c] (rest := [.ref a2, .ref a]) 25 26 24 27 (c4 Z hw h3 a2 r c z5 E7 (D8 30 (Or.inr rfl) (ty := .int) (by decide) : Fld Z h3 a2 "com/example/befehlswerk/befehlswerk/kernel/Position" "row" "I" (.int (0 : Int32))) (D8 32 (Or.inr rfl) (ty := .int) (by decide) : Fld Z h3 a2 "com/example/befehlswerk/befehlswerk/kernel/Position" "column" "I" (.int (0 : Int32)))) d3_11 rfl rfl rfl rfl rfl rfl (by decide) pd4 rfl rfl rfl (W := 2) (Nat.le_of_ble_eq_true rfl) (by decide) (by decide) (by decide) (by decide) fun v9 h10 q11 => ?_
    obtain ⟨rfl, K12, F13, F14⟩ := q11
    have Bd1 : Brd Z h10 t N g := (hB.keep K6 all0).keep K12 (by intro y hy; obtain rfl := List.mem_singleton.mp hy; right; have := hB.lt (by omega); have := g4; omega)
    refine Go.iload 16 rfl d3_14 rfl ?_
    have ne15 : a ≠ a2 := (show @Ne Nat a a2 from by have := ltN hS.lt; have := g4; omega)
    have F16 : Fld Z h10 a "com/example/befehlswerk/befehlswerk/connect6/Board" "stones" "[[I" (.ref t) := ((hS.keep K6 nin0).keep K12 (ninS ne15 nin0))
    have F17 : Exa Z h10 a2 "com/example/befehlswerk/befehlswerk/kernel/Position" := (E7.keep K12)
    have F21 : Exa Z h10 a "com/example/befehlswerk/befehlswerk/connect6/Board" := ((hE.keep K6).keep K12)
    refine Go.callV 19 rfl (C := B5) a [.ref a2, .int x] (rest := []) 33 34 36 35 2 37 (c5 Z hw h10 a a2 x t N g rn cn r c hgt F16 Bd1 F17 F13 F14 hrn hcn hr hc) F21 d3_16 rfl rfl rfl rfl rfl rfl (by decide) pd5 rfl rfl rfl (W := 0) (Nat.le_of_ble_eq_true rfl) (by decide) (by decide) (by decide) (by decide) fun v18 h19 q20 => ?_
    obtain ⟨rfl, K22, B23⟩ := q20
    exact Go.retV d3_19 rfl (by decide) (by decide) ⟨rfl, (((Keep.refl h0 [t + 1 + rn]).trans K6 all0).trans K12 (allS (Or.inr (by have := g4; have := hB.lt (by omega); omega)) all0)).trans K22 (by simp), F16.keep K22 (ninS (show @Ne Nat a (t + 1 + rn) from by have := ltN hne; omega) nin0), by rw [if_neg b1]; exact B23⟩
theorem d8_0 : decode prog_2_method_8_code 0 = .ok (.aload_n 0, 1) := by decide +kernel
theorem d8_1 : decode prog_2_method_8_code 1 = .ok (.getfield 19, 3) := by decide +kernel
theorem d8_4 : decode prog_2_method_8_code 4 = .ok (.astore_n 1, 1) := by decide +kernel
theorem d8_5 : decode prog_2_method_8_code 5 = .ok (.aload_n 1, 1) := by decide +kernel
theorem d8_6 : decode prog_2_method_8_code 6 = .ok (.arraylength, 1) := by decide +kernel
theorem d8_7 : decode prog_2_method_8_code 7 = .ok (.istore_n 2, 1) := by decide +kernel
theorem d8_8 : decode prog_2_method_8_code 8 = .ok (.iconst 0, 1) := by decide +kernel
theorem d8_9 : decode prog_2_method_8_code 9 = .ok (.istore_n 3, 1) := by decide +kernel
theorem d8_10 : decode prog_2_method_8_code 10 = .ok (.iload_n 3, 1) := by decide +kernel
theorem d8_11 : decode prog_2_method_8_code 11 = .ok (.iload_n 2, 1) := by decide +kernel
theorem d8_12 : decode prog_2_method_8_code 12 = .ok (.if_icmp .ge 53, 3) := by decide +kernel
theorem d8_15 : decode prog_2_method_8_code 15 = .ok (.aload_n 1, 1) := by decide +kernel
theorem d8_16 : decode prog_2_method_8_code 16 = .ok (.iload_n 3, 1) := by decide +kernel
theorem d8_17 : decode prog_2_method_8_code 17 = .ok (.aaload, 1) := by decide +kernel
theorem d8_18 : decode prog_2_method_8_code 18 = .ok (.astore 4, 2) := by decide +kernel
theorem d8_20 : decode prog_2_method_8_code 20 = .ok (.aload 4, 2) := by decide +kernel
theorem d8_22 : decode prog_2_method_8_code 22 = .ok (.astore 5, 2) := by decide +kernel
theorem d8_24 : decode prog_2_method_8_code 24 = .ok (.aload 5, 2) := by decide +kernel
theorem d8_26 : decode prog_2_method_8_code 26 = .ok (.arraylength, 1) := by decide +kernel
theorem d8_27 : decode prog_2_method_8_code 27 = .ok (.istore 6, 2) := by decide +kernel
theorem d8_29 : decode prog_2_method_8_code 29 = .ok (.iconst 0, 1) := by decide +kernel
theorem d8_30 : decode prog_2_method_8_code 30 = .ok (.istore 7, 2) := by decide +kernel
theorem d8_32 : decode prog_2_method_8_code 32 = .ok (.iload 7, 2) := by decide +kernel
theorem d8_34 : decode prog_2_method_8_code 34 = .ok (.iload 6, 2) := by decide +kernel
theorem d8_36 : decode prog_2_method_8_code 36 = .ok (.if_icmp .ge 23, 3) := by decide +kernel
theorem d8_39 : decode prog_2_method_8_code 39 = .ok (.aload 5, 2) := by decide +kernel
theorem d8_41 : decode prog_2_method_8_code 41 = .ok (.iload 7, 2) := by decide +kernel
theorem d8_43 : decode prog_2_method_8_code 43 = .ok (.iaload, 1) := by decide +kernel
theorem d8_44 : decode prog_2_method_8_code 44 = .ok (.istore 8, 2) := by decide +kernel
theorem d8_46 : decode prog_2_method_8_code 46 = .ok (.iload 8, 2) := by decide +kernel
theorem d8_48 : decode prog_2_method_8_code 48 = .ok (.ifCond .ne 5, 3) := by decide +kernel
theorem d8_51 : decode prog_2_method_8_code 51 = .ok (.iconst 0, 1) := by decide +kernel
theorem d8_52 : decode prog_2_method_8_code 52 = .ok (.ireturn, 1) := by decide +kernel
theorem d8_53 : decode prog_2_method_8_code 53 = .ok (.iinc 7 1, 3) := by decide +kernel
theorem d8_56 : decode prog_2_method_8_code 56 = .ok (.goto (-24), 3) := by decide +kernel
theorem d8_59 : decode prog_2_method_8_code 59 = .ok (.iinc 3 1, 3) := by decide +kernel
theorem d8_62 : decode prog_2_method_8_code 62 = .ok (.goto (-52), 3) := by decide +kernel
theorem d8_65 : decode prog_2_method_8_code 65 = .ok (.iconst 1, 1) := by decide +kernel
theorem d8_66 : decode prog_2_method_8_code 66 = .ok (.ireturn, 1) := by decide +kernel
theorem pd8 : parseMethodDescriptor "()Z" = some ⟨[], some .boolean⟩ := by decide +kernel
theorem pn8 : plainName "com/example/befehlswerk/befehlswerk/connect6/Board" = true := by first | (simp [plainName, overriddenIn]; done) | decide +kernel
abbrev B8 : Bd := ((⟨"com/example/befehlswerk/befehlswerk/connect6/Board", "isFull", "()Z"⟩ : MethodName), prog_2_method_8_code, 9, (some .boolean), ({ frames := 0, cells := 0, slots := 0, locals := 0 } : Room), tables_1)
def Q8 (N : Nat) (g : Nat → Nat → Int32) (h0 : Heap) (v : Option Value) (h : Heap) : Prop := ∃ q : Int32, v = some (.int q) ∧ (q = 1 ∧ (∀ j, j < N → ∀ i, i < N → g j i ≠ 0) ∨ q = 0 ∧ ¬ (∀ j, j < N → ∀ i, i < N → g j i ≠ 0)) ∧ h0 = h
set_option maxRecDepth 65536 in
set_option maxHeartbeats 40000000 in
theorem in8 (Z : State) (h0 : Heap) (a t u : Addr) (z jv : Int32) (N : Nat) (g : Nat → Nat → Int32) (jn : Nat) (hB : Brd Z h0 t N g) (hz : z.toInt = N) (hN20 : N ≤ 20) (hj : jn < N) (hu : u = t + 1 + jn)
    (J : (∀ i, i < N → g jn i ≠ 0) → ∀ (iv : Int32) (s8 : Slot), (s8 = .unset ∨ ∃ y, s8 = .val (.int y)) → Go (Q8 N g h0) Z B8 0 0 h0 59 #[.val (.ref a), .val (.ref t), .val (.int z), .val (.int jv), .val (.ref u), .val (.ref u), .val (.int z), .val (.int iv), s8] []) :
    ∀ (d i : Nat) (iv : Int32) (s8 : Slot), i + d = N → iv.toInt = i → (∀ k, k < i → g jn k ≠ 0) → (s8 = .unset ∨ ∃ y, s8 = .val (.int y)) → Go (Q8 N g h0) Z B8 0 0 h0 32 #[.val (.ref a), .val (.ref t), .val (.int z), .val (.int jv), .val (.ref u), .val (.ref u), .val (.int z), .val (.int iv), s8] [] := by
  intro d
  induction d with
  | zero =>
    intro i iv s8 hd hi hk hs
    refine Go.iload 34 rfl d8_32 rfl ?_
    refine Go.iload 36 rfl d8_34 rfl ?_
    refine Go.icmp_ge 59 39 d8_36 (by decide) rfl rfl (fun (b101 : ¬ iv < z) => ?_) (fun (b101 : iv < z) => ?_)
    · exact J (fun i' hi' => hk i' (by omega)) iv s8 hs
    · exact absurd ((own_lt hz hi).mp b101) (by omega)
  | succ d ih =>
    intro i iv s8 hd hi hk hs
    refine Go.iload 34 rfl d8_32 rfl ?_
    refine Go.iload 36 rfl d8_34 rfl ?_
    refine Go.icmp_ge 59 39 d8_36 (by decide) rfl rfl (fun (b101 : ¬ iv < z) => ?_) (fun (b101 : iv < z) => ?_)
    · exact absurd ((own_lt hz hi).mpr (by omega)) b101
    · refine Go.aload 41 rfl d8_39 rfl rfl ?_
      refine Go.iload 43 rfl d8_41 rfl ?_
      refine Go.iaload 44 rfl (g jn i) d8_43 (hu ▸ hB.2 jn hj) i hi (own_at (g := g jn) (by omega)) ?_
      refine Go.nameI fun v102 hv102 => ?_
      rcases hs with rfl | ⟨y', rfl⟩
      · refine Go.istore 46 rfl d8_44 (Ls' := #[.val (.ref a), .val (.ref t), .val (.int z), .val (.int jv), .val (.ref u), .val (.ref u), .val (.int z), .val (.int iv), .val (.int v102)]) rfl ?_
        refine Go.iload 48 rfl d8_46 rfl ?_
        refine Go.if_ne 53 51 d8_48 (by decide) rfl rfl (fun (b103 : ¬ v102 = 0) => ?_) (fun (b103 : v102 = 0) => ?_)
        · refine Go.iinc 56 rfl (1 : Int32) d8_53 rfl rfl (Ls' := #[.val (.ref a), .val (.ref t), .val (.int z), .val (.int jv), .val (.ref u), .val (.ref u), .val (.int z), .val (.int (iv + (1 : Int32))), .val (.int v102)]) rfl ?_
          refine Go.goto 32 d8_56 (by decide) (by decide) ?_
          exact ih (i + 1) _ _ (by omega) (own_inc hi (by omega) hN20) (fun k hk' => by by_cases q : k = i; (subst q; intro e; exact b103 (hv102 ▸ e)); exact hk k (by omega)) (Or.inr ⟨_, rfl⟩)
        · refine Go.iconst 52 rfl (0 : Int32) d8_51 rfl ?_
          exact Go.retN (t := .boolean) (z' := (0 : Int32)) d8_52 rfl (by decide) rfl (by decide) (by decide) ⟨0, rfl, Or.inr ⟨rfl, fun q => q jn hj i (by omega) (hv102.trans b103)⟩, rfl⟩
      · refine Go.istore 46 rfl d8_44 (Ls' := #[.val (.ref a), .val (.ref t), .val (.int z), .val (.int jv), .val (.ref u), .val (.ref u), .val (.int z), .val (.int iv), .val (.int v102)]) rfl ?_
        refine Go.iload 48 rfl d8_46 rfl ?_
        refine Go.if_ne 53 51 d8_48 (by decide) rfl rfl (fun (b104 : ¬ v102 = 0) => ?_) (fun (b104 : v102 = 0) => ?_)
        · refine Go.iinc 56 rfl (1 : Int32) d8_53 rfl rfl (Ls' := #[.val (.ref a), .val (.ref t), .val (.int z), .val (.int jv), .val (.ref u), .val (.ref u), .val (.int z), .val (.int (iv + (1 : Int32))), .val (.int v102)]) rfl ?_
          refine Go.goto 32 d8_56 (by decide) (by decide) ?_
          exact ih (i + 1) _ _ (by omega) (own_inc hi (by omega) hN20) (fun k hk' => by by_cases q : k = i; (subst q; intro e; exact b104 (hv102 ▸ e)); exact hk k (by omega)) (Or.inr ⟨_, rfl⟩)
        · refine Go.iconst 52 rfl (0 : Int32) d8_51 rfl ?_
          exact Go.retN (t := .boolean) (z' := (0 : Int32)) d8_52 rfl (by decide) rfl (by decide) (by decide) ⟨0, rfl, Or.inr ⟨rfl, fun q => q jn hj i (by omega) (hv102.trans b104)⟩, rfl⟩
set_option maxRecDepth 65536 in
set_option maxHeartbeats 40000000 in
theorem out8 (Z : State) (h0 : Heap) (a t : Addr) (z : Int32) (N : Nat) (g : Nat → Nat → Int32) (hB : Brd Z h0 t N g) (hz : z.toInt = N) (hN20 : N ≤ 20) :
    ∀ (d j : Nat) (jv : Int32) (s4 s5 s6 s7 s8 : Slot), j + d = N → jv.toInt = j → (∀ k, k < j → ∀ i, i < N → g k i ≠ 0) → One s4 → One s5 → One s6 → One s7 → (s8 = .unset ∨ ∃ y, s8 = .val (.int y)) → Go (Q8 N g h0) Z B8 0 0 h0 10 #[.val (.ref a), .val (.ref t), .val (.int z), .val (.int jv), s4, s5, s6, s7, s8] [] := by
  intro d
  induction d with
  | zero =>
    intro j jv s4 s5 s6 s7 s8 hd hi hk o4 o5 o6 o7 hs
    refine Go.iloadN 11 rfl d8_10 rfl ?_
    refine Go.iloadN 12 rfl d8_11 rfl ?_
    refine Go.icmp_ge 65 15 d8_12 (by decide) rfl rfl (fun (b201 : ¬ jv < z) => ?_) (fun (b201 : jv < z) => ?_)
    · refine Go.iconst 66 rfl (1 : Int32) d8_65 rfl ?_
      exact Go.retN (t := .boolean) (z' := (1 : Int32)) d8_66 rfl (by decide) rfl (by decide) (by decide) ⟨1, rfl, Or.inl ⟨rfl, fun j' hj' => hk j' (by omega)⟩, rfl⟩
    · exact absurd ((own_lt hz hi).mp b201) (by omega)
  | succ d ih =>
    intro j jv s4 s5 s6 s7 s8 hd hi hk o4 o5 o6 o7 hs
    refine Go.iloadN 11 rfl d8_10 rfl ?_
    refine Go.iloadN 12 rfl d8_11 rfl ?_
    refine Go.icmp_ge 65 15 d8_12 (by decide) rfl rfl (fun (b201 : ¬ jv < z) => ?_) (fun (b201 : jv < z) => ?_)
    · exact absurd ((own_lt hz hi).mpr (by omega)) b201
    · refine Go.aloadN 16 rfl d8_15 rfl rfl ?_
      refine Go.iloadN 17 rfl d8_16 rfl ?_
      obtain ⟨u, hu⟩ : ∃ u : Addr, @Eq Nat u (t + 1 + j) := ⟨_, rfl⟩
      refine Go.aaload 18 rfl (.ref u) d8_17 rfl hB.1 j hi (hu ▸ own_row (by omega)) ?_
      refine Go.astore 20 rfl d8_18 rfl (Ls' := #[.val (.ref a), .val (.ref t), .val (.int z), .val (.int jv), .val (.ref u), s5, s6, s7, s8]) (own_store rfl o4 rfl rfl) ?_
      refine Go.aload 22 rfl d8_20 rfl rfl ?_
      refine Go.astore 24 rfl d8_22 rfl (Ls' := #[.val (.ref a), .val (.ref t), .val (.int z), .val (.int jv), .val (.ref u), .val (.ref u), s6, s7, s8]) (own_store rfl o5 rfl rfl) ?_
      refine Go.aload 26 rfl d8_24 rfl rfl ?_
      refine Go.alen 27 rfl z d8_26 (hu ▸ hB.2 j (by omega)) (own_sz hz) ?_
      refine Go.istore 29 rfl d8_27 (Ls' := #[.val (.ref a), .val (.ref t), .val (.int z), .val (.int jv), .val (.ref u), .val (.ref u), .val (.int z), s7, s8]) (own_store rfl o6 rfl rfl) ?_
      refine Go.iconst 30 rfl (0 : Int32) d8_29 rfl ?_
      refine Go.istore 32 rfl d8_30 (Ls' := #[.val (.ref a), .val (.ref t), .val (.int z), .val (.int jv), .val (.ref u), .val (.ref u), .val (.int z), .val (.int (0 : Int32)), s8]) (own_store rfl o7 rfl rfl) ?_
      refine in8 Z h0 a t u z jv N g j hB hz hN20 (by omega) hu (fun hrow iv s8 hs => ?_) N 0 _ s8 (by omega) rfl (by intro k hk; omega) hs
      refine Go.iinc 62 rfl (1 : Int32) d8_59 rfl rfl (Ls' := #[.val (.ref a), .val (.ref t), .val (.int z), .val (.int (jv + (1 : Int32))), .val (.ref u), .val (.ref u), .val (.int z), .val (.int iv), s8]) rfl ?_
      refine Go.goto 10 d8_62 (by decide) (by decide) ?_
      exact ih (j + 1) _ _ _ _ _ _ (by omega) (own_inc hi (by omega) hN20) (fun k hk' => by by_cases q : k = j; (subst q; exact hrow); exact hk k (by omega)) (One.val rfl) (One.val rfl) (One.val rfl) (One.val rfl) hs
theorem ef8 (m : MethodId) (a : Addr) : entryFrame m (List.toArray [.ref a]) 9 = mkF m 0 #[.val (.ref a), .unset, .unset, .unset, .unset, .unset, .unset, .unset, .unset] [] := by first | (simp [entryFrame, mkF, argsToLocals, Value.category]; done) | rfl
set_option maxRecDepth 65536 in
set_option maxHeartbeats 40000000 in
theorem c8 (Z : State) (hw : Wd Z tables_1) (h0 : Heap) (a t : Addr) (N : Nat) (g : Nat → Nat → Int32) (z : Int32) (hz : z.toInt = N) (hN20 : N ≤ 20) (hS : Fld Z h0 a "com/example/befehlswerk/befehlswerk/connect6/Board" "stones" "[[I" (.ref t)) (hB : Brd Z h0 t N g) : Con Z B8 (List.toArray [.ref a]) h0 (Q8 N g h0) := by
  refine Con.mk hw pn8 (fun m => ef8 m a) (Go.old fun hle' => ?_)
  refine Go.aloadN 1 rfl d8_0 rfl rfl ?_
  refine Go.getF 4 rfl (v := .ref t) 16 d8_1 rfl hS ?_
  refine Go.astoreN 5 rfl d8_4 rfl (Ls' := #[.val (.ref a), .val (.ref t), .unset, .unset, .unset, .unset, .unset, .unset, .unset]) rfl ?_
  refine Go.aloadN 6 rfl d8_5 rfl rfl ?_
  refine Go.alen 7 rfl z d8_6 hB.1 (own_sz hz) ?_
  refine Go.istoreN 8 rfl d8_7 (Ls' := #[.val (.ref a), .val (.ref t), .val (.int z), .unset, .unset, .unset, .unset, .unset, .unset]) rfl ?_
  refine Go.iconst 9 rfl (0 : Int32) d8_8 rfl ?_
  refine Go.istoreN 10 rfl d8_9 (Ls' := #[.val (.ref a), .val (.ref t), .val (.int z), .val (.int (0 : Int32)), .unset, .unset, .unset, .unset, .unset]) rfl ?_
  exact out8 Z h0 a t z N g hB hz hN20 N 0 _ _ _ _ _ _ (by omega) rfl (by intro k hk; omega) One.u One.u One.u One.u (Or.inl rfl)
theorem d9_0 : decode method_3_code 0 = .ok (.iload_n 0, 1) := by decide +kernel
theorem d9_1 : decode method_3_code 1 = .ok (.iload_n 1, 1) := by decide +kernel
theorem d9_2 : decode method_3_code 2 = .ok (.iushr, 1) := by decide +kernel
theorem d9_3 : decode method_3_code 3 = .ok (.sipush 255, 3) := by decide +kernel
theorem d9_6 : decode method_3_code 6 = .ok (.iand, 1) := by decide +kernel
theorem d9_7 : decode method_3_code 7 = .ok (.iload_n 2, 1) := by decide +kernel
theorem d9_8 : decode method_3_code 8 = .ok (.irem, 1) := by decide +kernel
theorem d9_9 : decode method_3_code 9 = .ok (.ireturn, 1) := by decide +kernel
theorem pd9 : parseMethodDescriptor "(III)I" = some ⟨[.int, .int, .int], some .int⟩ := by decide +kernel
theorem pn9 : plainName "com/example/befehlswerk/befehlswerk/connect6/BoardIsFullPinLaw" = true := by first | (simp [plainName, overriddenIn]; done) | decide +kernel
abbrev B9 : Bd := ((⟨"com/example/befehlswerk/befehlswerk/connect6/BoardIsFullPinLaw", "col", "(III)I"⟩ : MethodName), method_3_code, 3, (some .int), ({ frames := 0, cells := 0, slots := 0, locals := 0 } : Room), tables_1)
theorem ef9 (m : MethodId) (q : Int32) (s : Int32) (z : Int32) : entryFrame m (List.toArray [.int q, .int s, .int z]) 3 = mkF m 0 #[.val (.int q), .val (.int s), .val (.int z)] [] := by first | (simp [entryFrame, mkF, argsToLocals, Value.category]; done) | rfl
def Q9 (q : Int32) (s : Int32) (z : Int32) (h0 : Heap) (v : Option Value) (h : Heap) : Prop := v = some (.int (((XT.ushr q s) &&& (255 : Int32)) % z)) ∧ h0 = h
set_option maxRecDepth 65536 in
set_option maxHeartbeats 40000000 in
theorem c9 (Z : State) (hw : Wd Z tables_1) (h0 : Heap) (q : Int32) (s : Int32) (z : Int32)  (hz : z ≠ 0) : Con Z B9 (List.toArray [.int q, .int s, .int z]) h0 (Q9 q s z h0) := by
  refine Con.mk hw pn9 (fun m => ef9 m q s z) (Go.old fun hle' => ?_)
  have hle := hle'.1
  refine Go.iloadN 1 rfl d9_0 rfl ?_
  refine Go.iloadN 2 rfl d9_1 rfl ?_
  refine Go.iushr 3 rfl d9_2 ?_
  refine Go.sipush 6 rfl (255 : Int32) d9_3 rfl ?_
  refine Go.iand 7 rfl d9_6 ?_
  refine Go.iloadN 8 rfl d9_7 rfl ?_
  refine Go.irem 9 rfl d9_8 hz ?_
  exact Go.retI d9_9 rfl (by decide) (by decide) ⟨rfl, rfl⟩
theorem pn0 : plainName "com/example/befehlswerk/befehlswerk/connect6/BoardIsFullPinLaw" = true := by first | (simp [plainName, overriddenIn]; done) | decide +kernel
abbrev B0 : Bd := (x, code, maxLocals, ret, room_1, tables_1)
theorem ef0 (m : MethodId) (p1 : Int32) (p2 : Int32) (p3 : Int32) (p4 : Int32) : entryFrame m (List.toArray [.int p1, .int p2, .int p3, .int p4]) maxLocals = mkF m 0 #[.val (.int p1), .val (.int p2), .val (.int p3), .val (.int p4), .unset, .unset, .unset, .unset, .unset, .unset, .unset, .unset, .unset, .unset, .unset, .unset, .unset] [] := by first | (simp [entryFrame, mkF, argsToLocals, Value.category, maxLocals]; done) | rfl
def Q0  (v : Option Value) (h : Heap) : Prop := v = some (.int 1)
set_option maxRecDepth 65536 in
set_option maxHeartbeats 40000000 in
theorem c0 (Z : State) (hw : Wd Z tables_1) (h0 : Heap) (p1 : Int32) (p2 : Int32) (p3 : Int32) (p4 : Int32)   : Con Z B0 (List.toArray [.int p1, .int p2, .int p3, .int p4]) h0 (Q0 ) := by
  refine Con.mk hw pn0 (fun m => ef0 m p1 p2 p3 p4) (Go.old fun hle' => ?_)
  have hle := hle'.1
  refine Go.iloadN 1 rfl at_0 rfl ?_
  refine Go.iconst 2 rfl (3 : Int32) at_1 rfl ?_
  refine Go.iand 3 rfl at_2 ?_
  refine Go.nameI fun v1 hv1 => ?_
  refine Go.istore 5 rfl at_3 (Ls' := #[.val (.int p1), .val (.int p2), .val (.int p3), .val (.int p4), .val (.int v1), .unset, .unset, .unset, .unset, .unset, .unset, .unset, .unset, .unset, .unset, .unset, .unset]) rfl ?_
  refine Go.iload 7 rfl at_5 rfl ?_
  refine Go.joinI (pcJ := 37) (LsJ := #[.val (.int p1), .val (.int p2), .val (.int p3), .val (.int p4), .val (.int v1), .unset, .unset, .unset, .unset, .unset, .unset, .unset, .unset, .unset, .unset, .unset, .unset]) (stJ := []) (fun v => v = 1 ∨ v = 2 ∨ v = 18 ∨ v = 20) (fun J => ?_) (fun sz hsz => ?_)
  · refine Go.if_ne 14 10 at_7 (by decide) rfl rfl (fun (b2 : ¬ v1 = 0) => ?_) (fun (b2 : v1 = 0) => ?_)
    · refine Go.iload 16 rfl at_14 rfl ?_
      refine Go.iconst 17 rfl (1 : Int32) at_16 rfl ?_
      refine Go.icmp_ne 24 20 at_17 (by decide) rfl rfl (fun (b3 : ¬ v1 = (1 : Int32)) => ?_) (fun (b3 : v1 = (1 : Int32)) => ?_)
      · refine Go.iload 26 rfl at_24 rfl ?_
        refine Go.iconst 27 rfl (2 : Int32) at_26 rfl ?_
        refine Go.icmp_ne 35 30 at_27 (by decide) rfl rfl (fun (b4 : ¬ v1 = (2 : Int32)) => ?_) (fun (b4 : v1 = (2 : Int32)) => ?_)
        · refine Go.bipush 37 rfl (20 : Int32) at_35 rfl ?_
          exact J _ (Or.inr (Or.inr (Or.inr rfl)))
        · refine Go.bipush 32 rfl (18 : Int32) at_30 rfl ?_
          refine Go.goto 37 at_32 (by decide) (by decide) ?_
          exact J _ (Or.inr (Or.inr (Or.inl rfl)))
      · refine Go.iconst 21 rfl (2 : Int32) at_20 rfl ?_
        refine Go.goto 37 at_21 (by decide) (by decide) ?_
        exact J _ (Or.inr (Or.inl rfl))
    · refine Go.iconst 11 rfl (1 : Int32) at_10 rfl ?_
      refine Go.goto 37 at_11 (by decide) (by decide) ?_
      exact J _ (Or.inl rfl)
  · refine Go.istore 39 rfl at_37 (Ls' := #[.val (.int p1), .val (.int p2), .val (.int p3), .val (.int p4), .val (.int v1), .val (.int sz), .unset, .unset, .unset, .unset, .unset, .unset, .unset, .unset, .unset, .unset, .unset]) rfl ?_
    refine Go.iloadN 40 rfl at_39 rfl ?_
    refine Go.iconst 41 rfl (4 : Int32) at_40 rfl ?_
    refine Go.iand 42 rfl at_41 ?_
    refine Go.joinI (pcJ := 50) (LsJ := #[.val (.int p1), .val (.int p2), .val (.int p3), .val (.int p4), .val (.int v1), .val (.int sz), .unset, .unset, .unset, .unset, .unset, .unset, .unset, .unset, .unset, .unset, .unset]) (stJ := []) (fun v => v = 0 ∨ v = 1) (fun J => ?_) (fun tor htor => ?_)
    · refine Go.if_eq 49 45 at_42 (by decide) rfl rfl (fun (b5 : (p1 &&& (4 : Int32)) = 0) => ?_) (fun (b5 : ¬ (p1 &&& (4 : Int32)) = 0) => ?_)
      · refine Go.iconst 50 rfl (0 : Int32) at_49 rfl ?_
        exact J _ (Or.inl rfl)
      · refine Go.iconst 46 rfl (1 : Int32) at_45 rfl ?_
        refine Go.goto 50 at_46 (by decide) (by decide) ?_
        exact J _ (Or.inr rfl)
    · refine Go.istore 52 rfl at_50 (Ls' := #[.val (.int p1), .val (.int p2), .val (.int p3), .val (.int p4), .val (.int v1), .val (.int sz), .val (.int tor), .unset, .unset, .unset, .unset, .unset, .unset, .unset, .unset, .unset, .unset]) rfl ?_
      refine Go.iloadN 53 rfl at_52 rfl ?_
      refine Go.iconst 54 rfl (1 : Int32) at_53 rfl ?_
      refine Go.iand 55 rfl at_54 ?_
      refine Go.joinI (pcJ := 63) (LsJ := #[.val (.int p1), .val (.int p2), .val (.int p3), .val (.int p4), .val (.int v1), .val (.int sz), .val (.int tor), .unset, .unset, .unset, .unset, .unset, .unset, .unset, .unset, .unset, .unset]) (stJ := []) (fun v => v = 0 ∨ v = 1) (fun J => ?_) (fun o0 ho0 => ?_)
      · refine Go.if_eq 62 58 at_55 (by decide) rfl rfl (fun (b6 : (p2 &&& (1 : Int32)) = 0) => ?_) (fun (b6 : ¬ (p2 &&& (1 : Int32)) = 0) => ?_)
        · refine Go.iconst 63 rfl (0 : Int32) at_62 rfl ?_
          exact J _ (Or.inl rfl)
        · refine Go.iconst 59 rfl (1 : Int32) at_58 rfl ?_
          refine Go.goto 63 at_59 (by decide) (by decide) ?_
          exact J _ (Or.inr rfl)
      · refine Go.istore 65 rfl at_63 (Ls' := #[.val (.int p1), .val (.int p2), .val (.int p3), .val (.int p4), .val (.int v1), .val (.int sz), .val (.int tor), .val (.int o0), .unset, .unset, .unset, .unset, .unset, .unset, .unset, .unset, .unset]) rfl ?_
        refine Go.iloadN 66 rfl at_65 rfl ?_
        refine Go.iconst 67 rfl (2 : Int32) at_66 rfl ?_
        refine Go.iand 68 rfl at_67 ?_
        refine Go.joinI (pcJ := 76) (LsJ := #[.val (.int p1), .val (.int p2), .val (.int p3), .val (.int p4), .val (.int v1), .val (.int sz), .val (.int tor), .val (.int o0), .unset, .unset, .unset, .unset, .unset, .unset, .unset, .unset, .unset]) (stJ := []) (fun v => v = 0 ∨ v = 1) (fun J => ?_) (fun o1 ho1 => ?_)
        · refine Go.if_eq 75 71 at_68 (by decide) rfl rfl (fun (b7 : (p2 &&& (2 : Int32)) = 0) => ?_) (fun (b7 : ¬ (p2 &&& (2 : Int32)) = 0) => ?_)
          · refine Go.iconst 76 rfl (0 : Int32) at_75 rfl ?_
            exact J _ (Or.inl rfl)
          · refine Go.iconst 72 rfl (1 : Int32) at_71 rfl ?_
            refine Go.goto 76 at_72 (by decide) (by decide) ?_
            exact J _ (Or.inr rfl)
        · refine Go.istore 78 rfl at_76 (Ls' := #[.val (.int p1), .val (.int p2), .val (.int p3), .val (.int p4), .val (.int v1), .val (.int sz), .val (.int tor), .val (.int o0), .val (.int o1), .unset, .unset, .unset, .unset, .unset, .unset, .unset, .unset]) rfl ?_
          refine Go.iloadN 79 rfl at_78 rfl ?_
          refine Go.iconst 80 rfl (4 : Int32) at_79 rfl ?_
          refine Go.iand 81 rfl at_80 ?_
          refine Go.joinI (pcJ := 89) (LsJ := #[.val (.int p1), .val (.int p2), .val (.int p3), .val (.int p4), .val (.int v1), .val (.int sz), .val (.int tor), .val (.int o0), .val (.int o1), .unset, .unset, .unset, .unset, .unset, .unset, .unset, .unset]) (stJ := []) (fun v => v = 0 ∨ v = 1) (fun J => ?_) (fun o2 ho2 => ?_)
          · refine Go.if_eq 88 84 at_81 (by decide) rfl rfl (fun (b8 : (p2 &&& (4 : Int32)) = 0) => ?_) (fun (b8 : ¬ (p2 &&& (4 : Int32)) = 0) => ?_)
            · refine Go.iconst 89 rfl (0 : Int32) at_88 rfl ?_
              exact J _ (Or.inl rfl)
            · refine Go.iconst 85 rfl (1 : Int32) at_84 rfl ?_
              refine Go.goto 89 at_85 (by decide) (by decide) ?_
              exact J _ (Or.inr rfl)
          · refine Go.istore 91 rfl at_89 (Ls' := #[.val (.int p1), .val (.int p2), .val (.int p3), .val (.int p4), .val (.int v1), .val (.int sz), .val (.int tor), .val (.int o0), .val (.int o1), .val (.int o2), .unset, .unset, .unset, .unset, .unset, .unset, .unset]) rfl ?_
            refine Go.iloadN 92 rfl at_91 rfl ?_
            refine Go.bipush 94 rfl (8 : Int32) at_92 rfl ?_
            refine Go.iand 95 rfl at_94 ?_
            refine Go.joinI (pcJ := 103) (LsJ := #[.val (.int p1), .val (.int p2), .val (.int p3), .val (.int p4), .val (.int v1), .val (.int sz), .val (.int tor), .val (.int o0), .val (.int o1), .val (.int o2), .unset, .unset, .unset, .unset, .unset, .unset, .unset]) (stJ := []) (fun v => v = 0 ∨ v = 1) (fun J => ?_) (fun o3 ho3 => ?_)
            · refine Go.if_eq 102 98 at_95 (by decide) rfl rfl (fun (b9 : (p2 &&& (8 : Int32)) = 0) => ?_) (fun (b9 : ¬ (p2 &&& (8 : Int32)) = 0) => ?_)
              · refine Go.iconst 103 rfl (0 : Int32) at_102 rfl ?_
                exact J _ (Or.inl rfl)
              · refine Go.iconst 99 rfl (1 : Int32) at_98 rfl ?_
                refine Go.goto 103 at_99 (by decide) (by decide) ?_
                exact J _ (Or.inr rfl)
            · refine Go.istore 105 rfl at_103 (Ls' := #[.val (.int p1), .val (.int p2), .val (.int p3), .val (.int p4), .val (.int v1), .val (.int sz), .val (.int tor), .val (.int o0), .val (.int o1), .val (.int o2), .val (.int o3), .unset, .unset, .unset, .unset, .unset, .unset]) rfl ?_
              refine Go.iconst 106 rfl (1 : Int32) at_105 rfl ?_
              refine Go.iloadN 107 rfl at_106 rfl ?_
              refine Go.iconst 108 rfl (4 : Int32) at_107 rfl ?_
              refine Go.iushr 109 rfl at_108 ?_
              refine Go.iconst 110 rfl (1 : Int32) at_109 rfl ?_
              refine Go.iand 111 rfl at_110 ?_
              refine Go.iadd 112 rfl at_111 ?_
              refine Go.nameI fun v10 hv10 => ?_
              refine Go.istore 114 rfl at_112 (Ls' := #[.val (.int p1), .val (.int p2), .val (.int p3), .val (.int p4), .val (.int v1), .val (.int sz), .val (.int tor), .val (.int o0), .val (.int o1), .val (.int o2), .val (.int o3), .val (.int v10), .unset, .unset, .unset, .unset, .unset]) rfl ?_
              refine Go.iconst 115 rfl (1 : Int32) at_114 rfl ?_
              refine Go.iloadN 116 rfl at_115 rfl ?_
              refine Go.iconst 117 rfl (5 : Int32) at_116 rfl ?_
              refine Go.iushr 118 rfl at_117 ?_
              refine Go.iconst 119 rfl (1 : Int32) at_118 rfl ?_
              refine Go.iand 120 rfl at_119 ?_
              refine Go.iadd 121 rfl at_120 ?_
              refine Go.nameI fun v11 hv11 => ?_
              refine Go.istore 123 rfl at_121 (Ls' := #[.val (.int p1), .val (.int p2), .val (.int p3), .val (.int p4), .val (.int v1), .val (.int sz), .val (.int tor), .val (.int o0), .val (.int o1), .val (.int o2), .val (.int o3), .val (.int v10), .val (.int v11), .unset, .unset, .unset, .unset]) rfl ?_
              refine Go.iconst 124 rfl (1 : Int32) at_123 rfl ?_
              refine Go.iloadN 125 rfl at_124 rfl ?_
              refine Go.bipush 127 rfl (6 : Int32) at_125 rfl ?_
              refine Go.iushr 128 rfl at_127 ?_
              refine Go.iconst 129 rfl (1 : Int32) at_128 rfl ?_
              refine Go.iand 130 rfl at_129 ?_
              refine Go.iadd 131 rfl at_130 ?_
              refine Go.nameI fun v12 hv12 => ?_
              refine Go.istore 133 rfl at_131 (Ls' := #[.val (.int p1), .val (.int p2), .val (.int p3), .val (.int p4), .val (.int v1), .val (.int sz), .val (.int tor), .val (.int o0), .val (.int o1), .val (.int o2), .val (.int o3), .val (.int v10), .val (.int v11), .val (.int v12), .unset, .unset, .unset]) rfl ?_
              refine Go.iconst 134 rfl (1 : Int32) at_133 rfl ?_
              refine Go.iloadN 135 rfl at_134 rfl ?_
              refine Go.bipush 137 rfl (7 : Int32) at_135 rfl ?_
              refine Go.iushr 138 rfl at_137 ?_
              refine Go.iconst 139 rfl (1 : Int32) at_138 rfl ?_
              refine Go.iand 140 rfl at_139 ?_
              refine Go.iadd 141 rfl at_140 ?_
              refine Go.nameI fun v13 hv13 => ?_
              refine Go.istore 143 rfl at_141 (Ls' := #[.val (.int p1), .val (.int p2), .val (.int p3), .val (.int p4), .val (.int v1), .val (.int sz), .val (.int tor), .val (.int o0), .val (.int o1), .val (.int o2), .val (.int o3), .val (.int v10), .val (.int v11), .val (.int v12), .val (.int v13), .unset, .unset]) rfl ?_
              have nv10 := own_pl hv10
              have nv11 := own_pl hv11
              have nv12 := own_pl hv12
              have nv13 := own_pl hv13
              obtain ⟨N, hN, hN20, hN0⟩ := own_N hsz
              refine Go.newO 146 rfl 0 1 2 at_143 rfl rfl rfl (by decide) (by decide) fun h15 a14 g16 z17 K18 E19 D20 => ?_
              refine Go.dup 147 rfl at_146 rfl ?_
              refine Go.iload 149 rfl at_147 rfl ?_
              refine Go.iload 151 rfl at_149 rfl ?_
              refine Go.callI 154 rfl (C := B1) a14 [.int sz, .int tor] (rest := [.ref a14]) 3 4 2 5 (c1 Z hw h15 a14 sz tor N hN hN20 z17 E19 (D20 10 (Or.inr rfl) (ty := .int) (by decide) : Fld Z h15 a14 "com/example/befehlswerk/befehlswerk/connect6/Board" "size" "I" (.int (0 : Int32))) (D20 12 (Or.inr rfl) (ty := .boolean) (by decide) : Fld Z h15 a14 "com/example/befehlswerk/befehlswerk/connect6/Board" "torus" "Z" (.int (0 : Int32))) (D20 17 (Or.inr rfl) (ty := (.array (.array .int))) (by decide) : Fld Z h15 a14 "com/example/befehlswerk/befehlswerk/connect6/Board" "stones" "[[I" (.null))) at_151 rfl rfl rfl rfl rfl rfl (by decide) pd1 rfl rfl rfl (W := 1) (Nat.le_of_ble_eq_true rfl) (by decide) (by decide) (by decide) (by decide) fun v21 h22 q23 => ?_
              obtain ⟨rfl, t, g24, K25, F26, B27⟩ := q23
              have hgt : Z.heap.size ≤ t := Nat.le_trans (Nat.le_trans hle K18.1) g24
              have hat : a14 < t := Nat.lt_of_lt_of_le E19.lt g24
              refine Go.astore 156 rfl at_154 rfl (Ls' := #[.val (.int p1), .val (.int p2), .val (.int p3), .val (.int p4), .val (.int v1), .val (.int sz), .val (.int tor), .val (.int o0), .val (.int o1), .val (.int o2), .val (.int o3), .val (.int v10), .val (.int v11), .val (.int v12), .val (.int v13), .val (.ref a14), .unset]) rfl ?_
              have F28 : Exa Z h22 a14 "com/example/befehlswerk/befehlswerk/connect6/Board" := (E19.keep K25)
              refine Go.iload 158 rfl at_156 rfl ?_
              refine Go.iconst 159 rfl (1 : Int32) at_158 rfl ?_
              refine Go.icmp_ne 180 162 at_159 (by decide) rfl rfl (fun (b29 : ¬ sz = (1 : Int32)) => ?_) (fun (b29 : sz = (1 : Int32)) => ?_)
              · refine Go.iload 182 rfl at_180 rfl ?_
                refine Go.iconst 183 rfl (2 : Int32) at_182 rfl ?_
                refine Go.icmp_ne 260 186 at_183 (by decide) rfl rfl (fun (b41 : ¬ sz = (2 : Int32)) => ?_) (fun (b41 : sz = (2 : Int32)) => ?_)
                · have hN18 : 18 ≤ N := own_big hsz hN b29 b41
                  have hsz0 : sz ≠ 0 := by intro q; rw [q] at hN; have o : (0 : Int32).toInt = 0 := rfl; omega
                  refine Go.aload 262 rfl at_260 rfl rfl ?_
                  refine Go.iload 264 rfl at_262 rfl ?_
                  refine Go.iloadN 265 rfl at_264 rfl ?_
                  refine Go.iconst 266 rfl (3 : Int32) at_265 rfl ?_
                  refine Go.iand 267 rfl at_266 ?_
                  refine Go.iloadN 268 rfl at_267 rfl ?_
                  refine Go.iconst 269 rfl (0 : Int32) at_268 rfl ?_
                  refine Go.iload 271 rfl at_269 rfl ?_
                  refine Go.callS 274 rfl (C := B9) [.int p4, .int (0 : Int32), .int sz] (rest := [.int (p3 &&& (3 : Int32)), .int o0, .ref a14]) 53 54 20 55 (c9 Z hw h22 p4 (0 : Int32) sz hsz0) at_271 rfl rfl rfl rfl (by decide) pd9 rfl rfl rfl (W := 3) (Nat.le_of_ble_eq_true rfl) (by decide) (by decide) (by decide) (by decide) fun v78 h79 q80 => ?_
                  obtain ⟨rfl, rfl⟩ := q80
                  obtain ⟨cn0, hcn0, hcn0'⟩ := own_cn (XT.ushr p4 (0 : Int32)) hN hN0
                  obtain ⟨rn0, hrn0, hrn0'⟩ := own_rn0 p3
                  refine Go.iload 276 rfl at_274 rfl ?_
                  refine Go.callS 279 rfl (C := B3) [.ref a14, .int o0, .int (p3 &&& (3 : Int32)), .int (((XT.ushr p4 (0 : Int32)) &&& (255 : Int32)) % sz), .int v10] (rest := []) 18 19 20 21 (c3 Z hw h22 a14 o0 (p3 &&& (3 : Int32)) (((XT.ushr p4 (0 : Int32)) &&& (255 : Int32)) % sz) v10 t N (fun _ _ => (0 : Int32)) rn0 cn0 hgt hat F28 F26 B27 hrn0 hcn0 (by omega) hcn0') at_276 rfl rfl rfl rfl (by decide) pd3 rfl rfl rfl (W := 0) (Nat.le_of_ble_eq_true rfl) (by decide) (by decide) (by decide) (by decide) fun v81 h82 q83 => ?_
                  obtain ⟨rfl, K84, F85, B86⟩ := q83
                  refine Go.aload 281 rfl at_279 rfl rfl ?_
                  refine Go.iload 283 rfl at_281 rfl ?_
                  refine Go.iconst 284 rfl (4 : Int32) at_283 rfl ?_
                  refine Go.iloadN 285 rfl at_284 rfl ?_
                  refine Go.bipush 287 rfl (8 : Int32) at_285 rfl ?_
                  refine Go.iushr 288 rfl at_287 ?_
                  refine Go.iconst 289 rfl (3 : Int32) at_288 rfl ?_
                  refine Go.iand 290 rfl at_289 ?_
                  refine Go.iadd 291 rfl at_290 ?_
                  refine Go.iloadN 292 rfl at_291 rfl ?_
                  refine Go.bipush 294 rfl (8 : Int32) at_292 rfl ?_
                  refine Go.iload 296 rfl at_294 rfl ?_
                  refine Go.callS 299 rfl (C := B9) [.int p4, .int (8 : Int32), .int sz] (rest := [.int ((4 : Int32) + ((XT.ushr p3 (8 : Int32)) &&& (3 : Int32))), .int o1, .ref a14]) 53 54 20 55 (c9 Z hw h82 p4 (8 : Int32) sz hsz0) at_296 rfl rfl rfl rfl (by decide) pd9 rfl rfl rfl (W := 3) (Nat.le_of_ble_eq_true rfl) (by decide) (by decide) (by decide) (by decide) fun v87 h88 q89 => ?_
                  obtain ⟨rfl, rfl⟩ := q89
                  obtain ⟨cn1, hcn1, hcn1'⟩ := own_cn (XT.ushr p4 (8 : Int32)) hN hN0
                  obtain ⟨rn1, hrn1, hrn1'⟩ := own_rn1 p3
                  refine Go.iload 301 rfl at_299 rfl ?_
                  have F90 : Exa Z h82 a14 "com/example/befehlswerk/befehlswerk/connect6/Board" := (F28.keep K84)
                  refine Go.callS 304 rfl (C := B3) [.ref a14, .int o1, .int ((4 : Int32) + ((XT.ushr p3 (8 : Int32)) &&& (3 : Int32))), .int (((XT.ushr p4 (8 : Int32)) &&& (255 : Int32)) % sz), .int v11] (rest := []) 18 19 20 21 (c3 Z hw h82 a14 o1 ((4 : Int32) + ((XT.ushr p3 (8 : Int32)) &&& (3 : Int32))) (((XT.ushr p4 (8 : Int32)) &&& (255 : Int32)) % sz) v11 t N (if o0 = 0 then fun _ _ => (0 : Int32) else updG (fun _ _ => (0 : Int32)) rn0 cn0 v10) rn1 cn1 hgt hat F90 F85 B86 hrn1 hcn1 (by omega) hcn1') at_301 rfl rfl rfl rfl (by decide) pd3 rfl rfl rfl (W := 0) (Nat.le_of_ble_eq_true rfl) (by decide) (by decide) (by decide) (by decide) fun v91 h92 q93 => ?_
                  obtain ⟨rfl, K94, F95, B96⟩ := q93
                  refine Go.aload 306 rfl at_304 rfl rfl ?_
                  refine Go.iload 308 rfl at_306 rfl ?_
                  refine Go.bipush 310 rfl (8 : Int32) at_308 rfl ?_
                  refine Go.iloadN 311 rfl at_310 rfl ?_
                  refine Go.bipush 313 rfl (16 : Int32) at_311 rfl ?_
                  refine Go.iushr 314 rfl at_313 ?_
                  refine Go.iconst 315 rfl (3 : Int32) at_314 rfl ?_
                  refine Go.iand 316 rfl at_315 ?_
                  refine Go.iadd 317 rfl at_316 ?_
                  refine Go.iloadN 318 rfl at_317 rfl ?_
                  refine Go.bipush 320 rfl (16 : Int32) at_318 rfl ?_
                  refine Go.iload 322 rfl at_320 rfl ?_
                  refine Go.callS 325 rfl (C := B9) [.int p4, .int (16 : Int32), .int sz] (rest := [.int ((8 : Int32) + ((XT.ushr p3 (16 : Int32)) &&& (3 : Int32))), .int o2, .ref a14]) 53 54 20 55 (c9 Z hw h92 p4 (16 : Int32) sz hsz0) at_322 rfl rfl rfl rfl (by decide) pd9 rfl rfl rfl (W := 3) (Nat.le_of_ble_eq_true rfl) (by decide) (by decide) (by decide) (by decide) fun v97 h98 q99 => ?_
                  obtain ⟨rfl, rfl⟩ := q99
                  obtain ⟨cn2, hcn2, hcn2'⟩ := own_cn (XT.ushr p4 (16 : Int32)) hN hN0
                  obtain ⟨rn2, hrn2, hrn2'⟩ := own_rn2 p3
                  refine Go.iload 327 rfl at_325 rfl ?_
                  have F100 : Exa Z h92 a14 "com/example/befehlswerk/befehlswerk/connect6/Board" := (F90.keep K94)
                  refine Go.callS 330 rfl (C := B3) [.ref a14, .int o2, .int ((8 : Int32) + ((XT.ushr p3 (16 : Int32)) &&& (3 : Int32))), .int (((XT.ushr p4 (16 : Int32)) &&& (255 : Int32)) % sz), .int v12] (rest := []) 18 19 20 21 (c3 Z hw h92 a14 o2 ((8 : Int32) + ((XT.ushr p3 (16 : Int32)) &&& (3 : Int32))) (((XT.ushr p4 (16 : Int32)) &&& (255 : Int32)) % sz) v12 t N (if o1 = 0 then if o0 = 0 then fun _ _ => (0 : Int32) else updG (fun _ _ => (0 : Int32)) rn0 cn0 v10 else updG (if o0 = 0 then fun _ _ => (0 : Int32) else updG (fun _ _ => (0 : Int32)) rn0 cn0 v10) rn1 cn1 v11) rn2 cn2 hgt hat F100 F95 B96 hrn2 hcn2 (by omega) hcn2') at_327 rfl rfl rfl rfl (by decide) pd3 rfl rfl rfl (W := 0) (Nat.le_of_ble_eq_true rfl) (by decide) (by decide) (by decide) (by decide) fun v101 h102 q103 => ?_
                  obtain ⟨rfl, K104, F105, B106⟩ := q103
                  refine Go.aload 332 rfl at_330 rfl rfl ?_
                  refine Go.iload 334 rfl at_332 rfl ?_
                  refine Go.bipush 336 rfl (12 : Int32) at_334 rfl ?_
                  refine Go.iloadN 337 rfl at_336 rfl ?_
                  refine Go.bipush 339 rfl (24 : Int32) at_337 rfl ?_
                  refine Go.iushr 340 rfl at_339 ?_
                  refine Go.iconst 341 rfl (3 : Int32) at_340 rfl ?_
                  refine Go.iand 342 rfl at_341 ?_
                  refine Go.iadd 343 rfl at_342 ?_
                  refine Go.iloadN 344 rfl at_343 rfl ?_
                  refine Go.bipush 346 rfl (24 : Int32) at_344 rfl ?_
                  refine Go.iload 348 rfl at_346 rfl ?_
                  refine Go.callS 351 rfl (C := B9) [.int p4, .int (24 : Int32), .int sz] (rest := [.int ((12 : Int32) + ((XT.ushr p3 (24 : Int32)) &&& (3 : Int32))), .int o3, .ref a14]) 53 54 20 55 (c9 Z hw h102 p4 (24 : Int32) sz hsz0) at_348 rfl rfl rfl rfl (by decide) pd9 rfl rfl rfl (W := 3) (Nat.le_of_ble_eq_true rfl) (by decide) (by decide) (by decide) (by decide) fun v107 h108 q109 => ?_
                  obtain ⟨rfl, rfl⟩ := q109
                  obtain ⟨cn3, hcn3, hcn3'⟩ := own_cn (XT.ushr p4 (24 : Int32)) hN hN0
                  obtain ⟨rn3, hrn3, hrn3'⟩ := own_rn3 p3
                  refine Go.iload 353 rfl at_351 rfl ?_
                  have F110 : Exa Z h102 a14 "com/example/befehlswerk/befehlswerk/connect6/Board" := (F100.keep K104)
                  refine Go.callS 356 rfl (C := B3) [.ref a14, .int o3, .int ((12 : Int32) + ((XT.ushr p3 (24 : Int32)) &&& (3 : Int32))), .int (((XT.ushr p4 (24 : Int32)) &&& (255 : Int32)) % sz), .int v13] (rest := []) 18 19 20 21 (c3 Z hw h102 a14 o3 ((12 : Int32) + ((XT.ushr p3 (24 : Int32)) &&& (3 : Int32))) (((XT.ushr p4 (24 : Int32)) &&& (255 : Int32)) % sz) v13 t N (if o2 = 0 then if o1 = 0 then if o0 = 0 then fun _ _ => (0 : Int32) else updG (fun _ _ => (0 : Int32)) rn0 cn0 v10 else updG (if o0 = 0 then fun _ _ => (0 : Int32) else updG (fun _ _ => (0 : Int32)) rn0 cn0 v10) rn1 cn1 v11 else updG (if o1 = 0 then if o0 = 0 then fun _ _ => (0 : Int32) else updG (fun _ _ => (0 : Int32)) rn0 cn0 v10 else updG (if o0 = 0 then fun _ _ => (0 : Int32) else updG (fun _ _ => (0 : Int32)) rn0 cn0 v10) rn1 cn1 v11) rn2 cn2 v12) rn3 cn3 hgt hat F110 F105 B106 hrn3 hcn3 (by omega) hcn3') at_353 rfl rfl rfl rfl (by decide) pd3 rfl rfl rfl (W := 0) (Nat.le_of_ble_eq_true rfl) (by decide) (by decide) (by decide) (by decide) fun v111 h112 q113 => ?_
                  obtain ⟨rfl, K114, F115, B116⟩ := q113
                  refine Go.iconst 357 rfl (0 : Int32) at_356 rfl ?_
                  refine Go.istore 359 rfl at_357 (Ls' := #[.val (.int p1), .val (.int p2), .val (.int p3), .val (.int p4), .val (.int v1), .val (.int sz), .val (.int tor), .val (.int o0), .val (.int o1), .val (.int o2), .val (.int o3), .val (.int v10), .val (.int v11), .val (.int v12), .val (.int v13), .val (.ref a14), .val (.int (0 : Int32))]) rfl ?_
                  refine Go.aload 361 rfl at_359 rfl rfl ?_
                  have F120 : Exa Z h112 a14 "com/example/befehlswerk/befehlswerk/connect6/Board" := (F110.keep K114)
                  refine Go.callV 364 rfl (C := B8) a14 [] (rest := []) 48 49 51 50 2 52 (c8 Z hw h112 a14 t N (if o3 = 0 then if o2 = 0 then if o1 = 0 then if o0 = 0 then fun _ _ => (0 : Int32) else updG (fun _ _ => (0 : Int32)) rn0 cn0 v10 else updG (if o0 = 0 then fun _ _ => (0 : Int32) else updG (fun _ _ => (0 : Int32)) rn0 cn0 v10) rn1 cn1 v11 else updG (if o1 = 0 then if o0 = 0 then fun _ _ => (0 : Int32) else updG (fun _ _ => (0 : Int32)) rn0 cn0 v10 else updG (if o0 = 0 then fun _ _ => (0 : Int32) else updG (fun _ _ => (0 : Int32)) rn0 cn0 v10) rn1 cn1 v11) rn2 cn2 v12 else updG (if o2 = 0 then if o1 = 0 then if o0 = 0 then fun _ _ => (0 : Int32) else updG (fun _ _ => (0 : Int32)) rn0 cn0 v10 else updG (if o0 = 0 then fun _ _ => (0 : Int32) else updG (fun _ _ => (0 : Int32)) rn0 cn0 v10) rn1 cn1 v11 else updG (if o1 = 0 then if o0 = 0 then fun _ _ => (0 : Int32) else updG (fun _ _ => (0 : Int32)) rn0 cn0 v10 else updG (if o0 = 0 then fun _ _ => (0 : Int32) else updG (fun _ _ => (0 : Int32)) rn0 cn0 v10) rn1 cn1 v11) rn2 cn2 v12) rn3 cn3 v13) sz hN hN20 F115 B116) F120 at_361 rfl rfl rfl rfl rfl rfl (by decide) pd8 rfl rfl rfl (W := 0) (Nat.le_of_ble_eq_true rfl) (by decide) (by decide) (by decide) (by decide) fun v117 h118 q119 => ?_
                  obtain ⟨q, rfl, hq, rfl⟩ := q119
                  refine Go.iload 366 rfl at_364 rfl ?_
                  refine Go.icmp_ne 373 369 at_366 (by decide) rfl rfl (fun (b121 : ¬ q = (0 : Int32)) => ?_) (fun (b121 : q = (0 : Int32)) => ?_)
                  · exact absurd (own_f3 hN18 (by omega) (by omega) (by omega) (by omega) hq) b121
                  · refine Go.iconst 370 rfl (1 : Int32) at_369 rfl ?_
                    refine Go.goto 374 at_370 (by decide) (by decide) ?_
                    exact Go.retN (t := .boolean) (z' := (1 : Int32)) at_374 rfl (by decide) rfl (by decide) (by decide) rfl
                · have hN2 : N = 2 := by have e := hN; rw [b41] at e; have o : (2 : Int32).toInt = 2 := rfl; omega
                  refine Go.aload 188 rfl at_186 rfl rfl ?_
                  refine Go.iload 190 rfl at_188 rfl ?_
                  refine Go.iconst 191 rfl (0 : Int32) at_190 rfl ?_
                  refine Go.iconst 192 rfl (0 : Int32) at_191 rfl ?_
                  refine Go.iload 194 rfl at_192 rfl ?_
                  refine Go.callS 197 rfl (C := B3) [.ref a14, .int o0, .int (0 : Int32), .int (0 : Int32), .int v10] (rest := []) 18 19 20 21 (c3 Z hw h22 a14 o0 (0 : Int32) (0 : Int32) v10 t N (fun _ _ => (0 : Int32)) 0 0 hgt hat F28 F26 B27 rfl rfl (by omega) (by omega)) at_194 rfl rfl rfl rfl (by decide) pd3 rfl rfl rfl (W := 0) (Nat.le_of_ble_eq_true rfl) (by decide) (by decide) (by decide) (by decide) fun v42 h43 q44 => ?_
                  obtain ⟨rfl, K45, F46, B47⟩ := q44
                  refine Go.aload 199 rfl at_197 rfl rfl ?_
                  refine Go.iload 201 rfl at_199 rfl ?_
                  refine Go.iconst 202 rfl (0 : Int32) at_201 rfl ?_
                  refine Go.iconst 203 rfl (1 : Int32) at_202 rfl ?_
                  refine Go.iload 205 rfl at_203 rfl ?_
                  have F48 : Exa Z h43 a14 "com/example/befehlswerk/befehlswerk/connect6/Board" := (F28.keep K45)
                  refine Go.callS 208 rfl (C := B3) [.ref a14, .int o1, .int (0 : Int32), .int (1 : Int32), .int v11] (rest := []) 18 19 20 21 (c3 Z hw h43 a14 o1 (0 : Int32) (1 : Int32) v11 t N (if o0 = 0 then fun _ _ => (0 : Int32) else updG (fun _ _ => (0 : Int32)) 0 0 v10) 0 1 hgt hat F48 F46 B47 rfl rfl (by omega) (by omega)) at_205 rfl rfl rfl rfl (by decide) pd3 rfl rfl rfl (W := 0) (Nat.le_of_ble_eq_true rfl) (by decide) (by decide) (by decide) (by decide) fun v49 h50 q51 => ?_
                  obtain ⟨rfl, K52, F53, B54⟩ := q51
                  refine Go.aload 210 rfl at_208 rfl rfl ?_
                  refine Go.iload 212 rfl at_210 rfl ?_
                  refine Go.iconst 213 rfl (1 : Int32) at_212 rfl ?_
                  refine Go.iconst 214 rfl (0 : Int32) at_213 rfl ?_
                  refine Go.iload 216 rfl at_214 rfl ?_
                  have F55 : Exa Z h50 a14 "com/example/befehlswerk/befehlswerk/connect6/Board" := (F48.keep K52)
                  refine Go.callS 219 rfl (C := B3) [.ref a14, .int o2, .int (1 : Int32), .int (0 : Int32), .int v12] (rest := []) 18 19 20 21 (c3 Z hw h50 a14 o2 (1 : Int32) (0 : Int32) v12 t N (if o1 = 0 then if o0 = 0 then fun _ _ => (0 : Int32) else updG (fun _ _ => (0 : Int32)) 0 0 v10 else updG (if o0 = 0 then fun _ _ => (0 : Int32) else updG (fun _ _ => (0 : Int32)) 0 0 v10) 0 1 v11) 1 0 hgt hat F55 F53 B54 rfl rfl (by omega) (by omega)) at_216 rfl rfl rfl rfl (by decide) pd3 rfl rfl rfl (W := 0) (Nat.le_of_ble_eq_true rfl) (by decide) (by decide) (by decide) (by decide) fun v56 h57 q58 => ?_
                  obtain ⟨rfl, K59, F60, B61⟩ := q58
                  refine Go.aload 221 rfl at_219 rfl rfl ?_
                  refine Go.iload 223 rfl at_221 rfl ?_
                  refine Go.iconst 224 rfl (1 : Int32) at_223 rfl ?_
                  refine Go.iconst 225 rfl (1 : Int32) at_224 rfl ?_
                  refine Go.iload 227 rfl at_225 rfl ?_
                  have F62 : Exa Z h57 a14 "com/example/befehlswerk/befehlswerk/connect6/Board" := (F55.keep K59)
                  refine Go.callS 230 rfl (C := B3) [.ref a14, .int o3, .int (1 : Int32), .int (1 : Int32), .int v13] (rest := []) 18 19 20 21 (c3 Z hw h57 a14 o3 (1 : Int32) (1 : Int32) v13 t N (if o2 = 0 then if o1 = 0 then if o0 = 0 then fun _ _ => (0 : Int32) else updG (fun _ _ => (0 : Int32)) 0 0 v10 else updG (if o0 = 0 then fun _ _ => (0 : Int32) else updG (fun _ _ => (0 : Int32)) 0 0 v10) 0 1 v11 else updG (if o1 = 0 then if o0 = 0 then fun _ _ => (0 : Int32) else updG (fun _ _ => (0 : Int32)) 0 0 v10 else updG (if o0 = 0 then fun _ _ => (0 : Int32) else updG (fun _ _ => (0 : Int32)) 0 0 v10) 0 1 v11) 1 0 v12) 1 1 hgt hat F62 F60 B61 rfl rfl (by omega) (by omega)) at_227 rfl rfl rfl rfl (by decide) pd3 rfl rfl rfl (W := 0) (Nat.le_of_ble_eq_true rfl) (by decide) (by decide) (by decide) (by decide) fun v63 h64 q65 => ?_
                  obtain ⟨rfl, K66, F67, B68⟩ := q65
                  refine Go.iload 232 rfl at_230 rfl ?_
                  refine Go.joinI (pcJ := 255) (LsJ := #[.val (.int p1), .val (.int p2), .val (.int p3), .val (.int p4), .val (.int v1), .val (.int sz), .val (.int tor), .val (.int o0), .val (.int o1), .val (.int o2), .val (.int o3), .val (.int v10), .val (.int v11), .val (.int v12), .val (.int v13), .val (.ref a14), .unset]) (stJ := []) (fun v => v = if o0 = 0 ∨ o1 = 0 ∨ o2 = 0 ∨ o3 = 0 then 0 else 1) (fun J => ?_) (fun ex hex => ?_)
                  · refine Go.if_eq 254 235 at_232 (by decide) rfl rfl (fun (b69 : o0 = 0) => ?_) (fun (b69 : ¬ o0 = 0) => ?_)
                    · refine Go.iconst 255 rfl (0 : Int32) at_254 rfl ?_
                      exact J _ (by simp [b69])
                    · refine Go.iload 237 rfl at_235 rfl ?_
                      refine Go.if_eq 254 240 at_237 (by decide) rfl rfl (fun (b70 : o1 = 0) => ?_) (fun (b70 : ¬ o1 = 0) => ?_)
                      · refine Go.iconst 255 rfl (0 : Int32) at_254 rfl ?_
                        exact J _ (by simp [b69, b70])
                      · refine Go.iload 242 rfl at_240 rfl ?_
                        refine Go.if_eq 254 245 at_242 (by decide) rfl rfl (fun (b71 : o2 = 0) => ?_) (fun (b71 : ¬ o2 = 0) => ?_)
                        · refine Go.iconst 255 rfl (0 : Int32) at_254 rfl ?_
                          exact J _ (by simp [b69, b70, b71])
                        · refine Go.iload 247 rfl at_245 rfl ?_
                          refine Go.if_eq 254 250 at_247 (by decide) rfl rfl (fun (b72 : o3 = 0) => ?_) (fun (b72 : ¬ o3 = 0) => ?_)
                          · refine Go.iconst 255 rfl (0 : Int32) at_254 rfl ?_
                            exact J _ (by simp [b69, b70, b71, b72])
                          · refine Go.iconst 251 rfl (1 : Int32) at_250 rfl ?_
                            refine Go.goto 255 at_251 (by decide) (by decide) ?_
                            exact J _ (by simp [b69, b70, b71, b72])
                  · refine Go.istore 257 rfl at_255 (Ls' := #[.val (.int p1), .val (.int p2), .val (.int p3), .val (.int p4), .val (.int v1), .val (.int sz), .val (.int tor), .val (.int o0), .val (.int o1), .val (.int o2), .val (.int o3), .val (.int v10), .val (.int v11), .val (.int v12), .val (.int v13), .val (.ref a14), .val (.int ex)]) rfl ?_
                    refine Go.goto 359 at_257 (by decide) (by decide) ?_
                    refine Go.aload 361 rfl at_359 rfl rfl ?_
                    have F76 : Exa Z h64 a14 "com/example/befehlswerk/befehlswerk/connect6/Board" := (F62.keep K66)
                    refine Go.callV 364 rfl (C := B8) a14 [] (rest := []) 48 49 51 50 2 52 (c8 Z hw h64 a14 t N (if o3 = 0 then if o2 = 0 then if o1 = 0 then if o0 = 0 then fun _ _ => (0 : Int32) else updG (fun _ _ => (0 : Int32)) 0 0 v10 else updG (if o0 = 0 then fun _ _ => (0 : Int32) else updG (fun _ _ => (0 : Int32)) 0 0 v10) 0 1 v11 else updG (if o1 = 0 then if o0 = 0 then fun _ _ => (0 : Int32) else updG (fun _ _ => (0 : Int32)) 0 0 v10 else updG (if o0 = 0 then fun _ _ => (0 : Int32) else updG (fun _ _ => (0 : Int32)) 0 0 v10) 0 1 v11) 1 0 v12 else updG (if o2 = 0 then if o1 = 0 then if o0 = 0 then fun _ _ => (0 : Int32) else updG (fun _ _ => (0 : Int32)) 0 0 v10 else updG (if o0 = 0 then fun _ _ => (0 : Int32) else updG (fun _ _ => (0 : Int32)) 0 0 v10) 0 1 v11 else updG (if o1 = 0 then if o0 = 0 then fun _ _ => (0 : Int32) else updG (fun _ _ => (0 : Int32)) 0 0 v10 else updG (if o0 = 0 then fun _ _ => (0 : Int32) else updG (fun _ _ => (0 : Int32)) 0 0 v10) 0 1 v11) 1 0 v12) 1 1 v13) sz hN hN20 F67 B68) F76 at_361 rfl rfl rfl rfl rfl rfl (by decide) pd8 rfl rfl rfl (W := 0) (Nat.le_of_ble_eq_true rfl) (by decide) (by decide) (by decide) (by decide) fun v73 h74 q75 => ?_
                    obtain ⟨q, rfl, hq, rfl⟩ := q75
                    refine Go.iload 366 rfl at_364 rfl ?_
                    refine Go.icmp_ne 373 369 at_366 (by decide) rfl rfl (fun (b77 : ¬ q = ex) => ?_) (fun (b77 : q = ex) => ?_)
                    · exact absurd (own_f2 hN2 nv10 nv11 nv12 nv13 hex hq) b77
                    · refine Go.iconst 370 rfl (1 : Int32) at_369 rfl ?_
                      refine Go.goto 374 at_370 (by decide) (by decide) ?_
                      exact Go.retN (t := .boolean) (z' := (1 : Int32)) at_374 rfl (by decide) rfl (by decide) (by decide) rfl
              · refine Go.aload 164 rfl at_162 rfl rfl ?_
                refine Go.iload 166 rfl at_164 rfl ?_
                refine Go.iconst 167 rfl (0 : Int32) at_166 rfl ?_
                refine Go.iconst 168 rfl (0 : Int32) at_167 rfl ?_
                refine Go.iload 170 rfl at_168 rfl ?_
                have hN1 : N = 1 := by have e := hN; rw [b29] at e; have o : (1 : Int32).toInt = 1 := rfl; omega
                refine Go.callS 173 rfl (C := B3) [.ref a14, .int o0, .int (0 : Int32), .int (0 : Int32), .int v10] (rest := []) 18 19 20 21 (c3 Z hw h22 a14 o0 (0 : Int32) (0 : Int32) v10 t N (fun _ _ => (0 : Int32)) 0 0 hgt hat F28 F26 B27 rfl rfl (by omega) (by omega)) at_170 rfl rfl rfl rfl (by decide) pd3 rfl rfl rfl (W := 0) (Nat.le_of_ble_eq_true rfl) (by decide) (by decide) (by decide) (by decide) fun v30 h31 q32 => ?_
                obtain ⟨rfl, K33, F34, B35⟩ := q32
                refine Go.iload 175 rfl at_173 rfl ?_
                refine Go.istore 177 rfl at_175 (Ls' := #[.val (.int p1), .val (.int p2), .val (.int p3), .val (.int p4), .val (.int v1), .val (.int sz), .val (.int tor), .val (.int o0), .val (.int o1), .val (.int o2), .val (.int o3), .val (.int v10), .val (.int v11), .val (.int v12), .val (.int v13), .val (.ref a14), .val (.int o0)]) rfl ?_
                refine Go.goto 359 at_177 (by decide) (by decide) ?_
                refine Go.aload 361 rfl at_359 rfl rfl ?_
                have F39 : Exa Z h31 a14 "com/example/befehlswerk/befehlswerk/connect6/Board" := (F28.keep K33)
                refine Go.callV 364 rfl (C := B8) a14 [] (rest := []) 48 49 51 50 2 52 (c8 Z hw h31 a14 t N (if o0 = 0 then fun _ _ => (0 : Int32) else updG (fun _ _ => (0 : Int32)) 0 0 v10) sz hN hN20 F34 B35) F39 at_361 rfl rfl rfl rfl rfl rfl (by decide) pd8 rfl rfl rfl (W := 0) (Nat.le_of_ble_eq_true rfl) (by decide) (by decide) (by decide) (by decide) fun v36 h37 q38 => ?_
                obtain ⟨q, rfl, hq, rfl⟩ := q38
                refine Go.iload 366 rfl at_364 rfl ?_
                refine Go.icmp_ne 373 369 at_366 (by decide) rfl rfl (fun (b40 : ¬ q = o0) => ?_) (fun (b40 : q = o0) => ?_)
                · exact absurd (own_f1 hN1 ho0 nv10 hq) b40
                · refine Go.iconst 370 rfl (1 : Int32) at_369 rfl ?_
                  refine Go.goto 374 at_370 (by decide) (by decide) ?_
                  exact Go.retN (t := .boolean) (z' := (1 : Int32)) at_374 rfl (by decide) rfl (by decide) (by decide) rfl
set_option maxRecDepth 65536 in
set_option maxHeartbeats 40000000 in
theorem comes_1 {Post : Tables → Env → Array Value → State → Outcome → State → Prop} (hpost : ∀ tb e args s v u, (limb_1_1.after args s (.returned v) u = true ∧ limb_1_2.after args s (.returned v) u = true ∧ True) → FrameEnd s (.returned v) u (Jvm.fieldLocs frame_1_writes args s ++ Jvm.arrayLocs frame_1_arrays args s ++ Jvm.staticLocs frame_1_statics s) 64 960 → Post tb e args s (.returned v) u) :
    ArmFor flags0 classFile x code maxLocals ret World_1 tables_1 room_1 Calls_1 rest_1 Pre_1 Post := by
  intro l hfl _ _ p e ha hc hk s m args below hf hA hF happ hP
  obtain ⟨hcalls, hrest, hpre⟩ := hP
  obtain ⟨-, -, -, hnamed, -, -, -, hat⟩ := (Spec.applies_iff hf).mp happ
  obtain ⟨hg, hn⟩ := and_e (Cond.before_iff.mp (show (Jvm.Cond.and given_1 narrow_1).before args s = true from hpre))
  obtain ⟨hg1, hg2⟩ := and_e hg
  obtain ⟨w0, w1, w2, w3, rfl⟩ : ∃ w0 w1 w2 w3 : Value, args = #[w0, w1, w2, w3] := by
    have hs : args.size = 4 := by simpa [Cond.value, given_1] using hg1
    obtain ⟨L⟩ := args
    match L, hs with
    | [w0, w1, w2, w3], _ => exact ⟨w0, w1, w2, w3, rfl⟩
  obtain ⟨ga0, gb0⟩ := and_e hg2
  obtain ⟨i0, e0⟩ := is_v ga0
  obtain rfl : w0 = (.int i0) := Option.some.inj e0
  obtain ⟨ga1, gb1⟩ := and_e gb0
  obtain ⟨i1, e1⟩ := is_v ga1
  obtain rfl : w1 = (.int i1) := Option.some.inj e1
  obtain ⟨ga2, gb2⟩ := and_e gb1
  obtain ⟨i2, e2⟩ := is_v ga2
  obtain rfl : w2 = (.int i2) := Option.some.inj e2
  obtain ⟨i3, e3⟩ := is_v gb2
  obtain rfl : w3 = (.int i3) := Option.some.inj e3
  have hw : Wd s tables_1 := ⟨_, fun d (hd : d ∈ tables_1) => atoms_spec (ws := Jvm.Cond.code x code maxLocals ret :: tables_1) hat d (List.mem_cons_of_mem _ hd)⟩
  have hfit : Fit s := fun {y c} hc i hi => by
    obtain ⟨ha, rfl⟩ := Array.getElem?_eq_some_iff.mp hc
    have q := List.all_eq_true.mp ((Array.all_eq_true_iff_forall_mem.mp hF) _ (Array.getElem_mem ha)) i (List.mem_range.mpr hi)
    simpa [Array.getElem?_eq_getElem hi] using q
  obtain ⟨n, o, h1, h2, h3, _, L, rfl, ⟨hv, -, N⟩, hq⟩ := c0 s hw s.heap i0 i1 i2 i3 ⟨Nat.le_refl _, fun _ _ q => q⟩ l tables_1 p e ha hc hk s m _ below hf ((Spec.applies_iff_loose hf).mp happ).1 ⟨rfl, State.Warmed39.refl s, rfl⟩ trivial
  cases (show _ = some (Value.int 1) from hv)
  refine ⟨n, _, h1, h2, h3, hpost _ _ _ _ _ _ ⟨Cond.after_iff.mpr rfl, Cond.after_iff.mpr (eq_i res_at (Term.int_eval (1)) rfl), trivial⟩ ⟨hq.1, hq.2.1, (hq.2.2.sift fun y hy => Or.inr (N y hy)).mono (by decide) (by decide)⟩⟩
theorem main_1_1 : Claimed_1_1 := comes_1 fun _ _ _ _ _ _ h hF => ⟨h.1, hF⟩
theorem main_1_2 : Claimed_1_2 := comes_1 fun _ _ _ _ _ _ h hF => ⟨h.2.1, hF⟩
end Jvm.Pilot.@@N@@
namespace Jvm.Pilot.@@N@@
open Jvm Jvm.ClassFile Sem Op Lib Jvm.Free Jvm.Stand Jvm.Pilot.@@N@@.Jvm.D
/-! MADE BY PROGRAM (witnessworld.py) out of the Statement's table words and the real class files: 10 classes; the members and pool entries that the words name. The judged class is class 1, her method 1. -/
namespace start1
open Jvm.ClassFile
def u (s : String) : CpInfo := .utf8 (stringToUtf16 s)
/-- a pool by its gaps: so many unusable entries, then the entry; so many at the end -/
def gap : Nat → List CpInfo → List CpInfo
  | 0, r => r
  | n + 1, r => .unusable :: gap n r
def poolList (es : List (Nat × CpInfo)) (last : Nat) : List CpInfo := es.foldr (fun e r => gap e.1 (e.2 :: r)) (gap last [])
def pool (es : List (Nat × CpInfo)) (last : Nat) : Array CpInfo := ⟨poolList es last⟩
def fileOf (pool : Array CpInfo) (this : Nat) (attrs : Array Attribute := #[]) (ms : Array MethodInfo := #[]) (fl : Nat := 33) (sup : Nat := 0) (ifs : Array Nat := #[]) (fds : Array FieldInfo := #[]) : ClassFile where
  minorVersion := 0
  majorVersion := 65
  constantPool := pool
  accessFlags := fl
  thisClass := this
  superClass := sup
  interfaces := ifs
  fields := fds
  methods := ms
  attributes := attrs
def plain (name : String) (sup : Option ClassId) : Class where
  name := name
  kind := .ordinary
  loader := none
  accessFlags := 33
  super := sup
  interfaces := #[]
  cf := none
  fields := #[]
  methods := #[]
  instanceTypes := #[]
  staticTypes := #[]
  resolved := #[]
  callSites := []
  init := .initialized
  statics := none
  mirror := none

def pool0 : Array CpInfo := pool [(5, u "<init>"), (0, u "()V"), (1, .class_ 10), (1, u "java/lang/Object")] 113

def k0c0 : Code := { maxStack := 0, maxLocals := 1, code := object_method_1_code, exceptionTable := #[], attributes := #[] }
def k0m0 : Method := { name := "<init>", desc := "()V", sig := { parameters := [], returnType := none }, accessFlags := 1, code := some k0c0 }
/-- java/lang/Object -/
def k0 : Class := { plain "java/lang/Object" none with
  accessFlags := 33
  interfaces := #[]
  cf := some (fileOf pool0 8 #[] #[{ accessFlags := 1, nameIndex := 5, descriptorIndex := 6, attributes := #[] }] 33 0 #[] #[])
  fields := #[]
  methods := #[k0m0]
  instanceTypes := #[]
  staticTypes := #[]
  resolved := Array.replicate 124 none
  statics := none }

def pool1 : Array CpInfo := pool [(2, .class_ 4), (1, u "java/lang/Object"), (0, u "<init>"), (0, u "()V"), (0, .class_ 8), (0, u "com/example/befehlswerk/befehlswerk/connect6/Board"), (0, .methodref 7 10), (0, .nameAndType 5 11), (0, u "(IZ)V"), (0, .methodref 13 14), (0, .class_ 15), (0, .nameAndType 16 17), (0, u "com/example/befehlswerk/befehlswerk/connect6/BoardIsFullPinLaw"), (0, u "place"), (0, u "(Lcom/example/befehlswerk/befehlswerk/connect6/Board;ZIII)V"), (0, .methodref 13 19), (0, .nameAndType 20 21), (0, u "col"), (0, u "(III)I"), (0, .methodref 7 23), (0, .nameAndType 24 25), (0, u "isFull"), (0, u "()Z"), (0, .class_ 27), (0, u "com/example/befehlswerk/befehlswerk/kernel/Position"), (0, .methodref 26 29), (0, .nameAndType 5 30), (0, u "(II)V"), (0, .methodref 7 32), (0, .nameAndType 33 34), (0, u "put"), (0, u "(Lcom/example/befehlswerk/befehlswerk/kernel/Position;I)V"), (2, u "law"), (0, u "(IIII)Z")] 3

def k1m0 : Method := { name := "<init>", desc := "()V", sig := { parameters := [], returnType := none }, accessFlags := 1, code := none }
def k1c1 : Code := { maxStack := 6, maxLocals := 17, code := code, exceptionTable := #[], attributes := #[] }
def k1m1 : Method := { name := "law", desc := "(IIII)Z", sig := { parameters := [.int, .int, .int, .int], returnType := some .boolean }, accessFlags := 9, code := some k1c1 }
def k1c2 : Code := { maxStack := 2, maxLocals := 3, code := method_3_code, exceptionTable := #[], attributes := #[] }
def k1m2 : Method := { name := "col", desc := "(III)I", sig := { parameters := [.int, .int, .int], returnType := some .int }, accessFlags := 10, code := some k1c2 }
def k1c3 : Code := { maxStack := 5, maxLocals := 5, code := method_4_code, exceptionTable := #[], attributes := #[] }
def k1m3 : Method := { name := "place", desc := "(Lcom/example/befehlswerk/befehlswerk/connect6/Board;ZIII)V", sig := { parameters := [(.object "com/example/befehlswerk/befehlswerk/connect6/Board"), .boolean, .int, .int, .int], returnType := none }, accessFlags := 10, code := some k1c3 }
/-- com/example/befehlswerk/befehlswerk/connect6/BoardIsFullPinLaw -/
def k1 : Class := { plain "com/example/befehlswerk/befehlswerk/connect6/BoardIsFullPinLaw" (some 0) with
  accessFlags := 49
  interfaces := #[]
  cf := some (fileOf pool1 13 #[] #[{ accessFlags := 1, nameIndex := 5, descriptorIndex := 6, attributes := #[] }, { accessFlags := 9, nameIndex := 37, descriptorIndex := 38, attributes := #[] }, { accessFlags := 10, nameIndex := 20, descriptorIndex := 21, attributes := #[] }, { accessFlags := 10, nameIndex := 16, descriptorIndex := 17, attributes := #[] }] 49 2 #[] #[])
  fields := #[]
  methods := #[k1m0, k1m1, k1m2, k1m3]
  instanceTypes := #[]
  staticTypes := #[]
  resolved := Array.replicate 42 none
  statics := none }

def pool2 : Array CpInfo := pool [(1, .methodref 2 3), (0, .class_ 4), (0, .nameAndType 5 6), (0, u "java/lang/Object"), (0, u "<init>"), (0, u "()V"), (0, .fieldref 8 9), (0, .class_ 10), (0, .nameAndType 11 12), (0, u "com/example/befehlswerk/befehlswerk/connect6/Board"), (0, u "size"), (0, u "I"), (0, .fieldref 8 14), (0, .nameAndType 15 16), (0, u "torus"), (0, u "Z"), (0, .class_ 18), (0, u "[[I"), (0, .fieldref 8 20), (0, .nameAndType 21 18), (0, u "stones"), (14, .methodref 37 38), (0, .class_ 39), (0, .nameAndType 40 41), (0, u "com/example/befehlswerk/befehlswerk/kernel/Position"), (0, u "row"), (0, u "()I"), (0, .methodref 37 43), (0, .nameAndType 44 41), (0, u "column"), (12, u "DIRECTIONS"), (15, u "WINNING_LINE"), (2, u "(IZ)V"), (9, u "put"), (0, u "(Lcom/example/befehlswerk/befehlswerk/kernel/Position;I)V"), (0, u "isFull"), (0, u "()Z")] 23

def k2c0 : Code := { maxStack := 3, maxLocals := 3, code := prog_2_method_1_code, exceptionTable := #[], attributes := #[] }
def k2m0 : Method := { name := "<init>", desc := "(IZ)V", sig := { parameters := [.int, .boolean], returnType := none }, accessFlags := 0, code := some k2c0 }
def k2c1 : Code := { maxStack := 3, maxLocals := 3, code := prog_2_method_7_code, exceptionTable := #[], attributes := #[] }
def k2m1 : Method := { name := "put", desc := "(Lcom/example/befehlswerk/befehlswerk/kernel/Position;I)V", sig := { parameters := [(.object "com/example/befehlswerk/befehlswerk/kernel/Position"), .int], returnType := none }, accessFlags := 0, code := some k2c1 }
def k2c2 : Code := { maxStack := 2, maxLocals := 9, code := prog_2_method_8_code, exceptionTable := #[], attributes := #[] }
def k2m2 : Method := { name := "isFull", desc := "()Z", sig := { parameters := [], returnType := some .boolean }, accessFlags := 0, code := some k2c2 }
/-- com/example/befehlswerk/befehlswerk/connect6/Board -/
def k2 : Class := { plain "com/example/befehlswerk/befehlswerk/connect6/Board" (some 0) with
  accessFlags := 32
  interfaces := #[]
  cf := some (fileOf pool2 8 #[] #[{ accessFlags := 0, nameIndex := 5, descriptorIndex := 76, attributes := #[] }, { accessFlags := 0, nameIndex := 86, descriptorIndex := 87, attributes := #[] }, { accessFlags := 0, nameIndex := 88, descriptorIndex := 89, attributes := #[] }] 32 2 #[] #[{ accessFlags := 26, nameIndex := 73, descriptorIndex := 12, attributes := #[] }, { accessFlags := 26, nameIndex := 57, descriptorIndex := 18, attributes := #[] }, { accessFlags := 18, nameIndex := 11, descriptorIndex := 12, attributes := #[] }, { accessFlags := 18, nameIndex := 15, descriptorIndex := 16, attributes := #[] }, { accessFlags := 18, nameIndex := 21, descriptorIndex := 18, attributes := #[] }])
  fields := #[{ name := "WINNING_LINE", type := .int, accessFlags := 26, slot := 0, constantValue := 0 }, { name := "DIRECTIONS", type := (.array (.array .int)), accessFlags := 26, slot := 1, constantValue := 0 }, { name := "size", type := .int, accessFlags := 18, slot := 0, constantValue := 0 }, { name := "torus", type := .boolean, accessFlags := 18, slot := 1, constantValue := 0 }, { name := "stones", type := (.array (.array .int)), accessFlags := 18, slot := 2, constantValue := 0 }]
  methods := #[k2m0, k2m1, k2m2]
  instanceTypes := #[.int, .boolean, (.array (.array .int))]
  staticTypes := #[.int, (.array (.array .int))]
  resolved := Array.replicate 113 none
  statics := none }

def pool3 : Array CpInfo := pool [(1, .methodref 2 3), (0, .class_ 4), (0, .nameAndType 5 6), (0, u "java/lang/Object"), (0, u "<init>"), (0, u "()V"), (0, .fieldref 8 9), (0, .class_ 10), (0, .nameAndType 11 12), (0, u "com/example/befehlswerk/befehlswerk/kernel/Position"), (0, u "row"), (0, u "I"), (0, .fieldref 8 14), (0, .nameAndType 15 12), (0, u "column"), (2, u "(II)V"), (15, u "SIDES"), (0, u "[[I"), (6, u "AROUND"), (13, u "()I")] 9

def k3c0 : Code := { maxStack := 2, maxLocals := 3, code := prog_39_method_1_code, exceptionTable := #[], attributes := #[] }
def k3m0 : Method := { name := "<init>", desc := "(II)V", sig := { parameters := [.int, .int], returnType := none }, accessFlags := 1, code := some k3c0 }
def k3c1 : Code := { maxStack := 1, maxLocals := 1, code := prog_39_method_4_code, exceptionTable := #[], attributes := #[] }
def k3m1 : Method := { name := "row", desc := "()I", sig := { parameters := [], returnType := some .int }, accessFlags := 1, code := some k3c1 }
def k3c2 : Code := { maxStack := 1, maxLocals := 1, code := prog_39_method_5_code, exceptionTable := #[], attributes := #[] }
def k3m2 : Method := { name := "column", desc := "()I", sig := { parameters := [], returnType := some .int }, accessFlags := 1, code := some k3c2 }
/-- com/example/befehlswerk/befehlswerk/kernel/Position -/
def k3 : Class := { plain "com/example/befehlswerk/befehlswerk/kernel/Position" (some 0) with
  accessFlags := 33
  interfaces := #[]
  cf := some (fileOf pool3 8 #[] #[{ accessFlags := 1, nameIndex := 5, descriptorIndex := 18, attributes := #[] }, { accessFlags := 1, nameIndex := 11, descriptorIndex := 56, attributes := #[] }, { accessFlags := 1, nameIndex := 15, descriptorIndex := 56, attributes := #[] }] 33 2 #[] #[{ accessFlags := 26, nameIndex := 34, descriptorIndex := 35, attributes := #[] }, { accessFlags := 26, nameIndex := 42, descriptorIndex := 35, attributes := #[] }, { accessFlags := 18, nameIndex := 11, descriptorIndex := 12, attributes := #[] }, { accessFlags := 18, nameIndex := 15, descriptorIndex := 12, attributes := #[] }])
  fields := #[{ name := "SIDES", type := (.array (.array .int)), accessFlags := 26, slot := 0, constantValue := 0 }, { name := "AROUND", type := (.array (.array .int)), accessFlags := 26, slot := 1, constantValue := 0 }, { name := "row", type := .int, accessFlags := 18, slot := 0, constantValue := 0 }, { name := "column", type := .int, accessFlags := 18, slot := 1, constantValue := 0 }]
  methods := #[k3m0, k3m1, k3m2]
  instanceTypes := #[.int, .int]
  staticTypes := #[(.array (.array .int)), (.array (.array .int))]
  resolved := Array.replicate 66 none
  statics := none }

def pool4 : Array CpInfo := pool [(1, u "java/lang/Cloneable"), (0, .class_ 1), (0, u "java/lang/Object"), (0, .class_ 3)] 3

/-- java/lang/Cloneable -/
def k4 : Class := { plain "java/lang/Cloneable" (some 0) with
  accessFlags := 1537
  interfaces := #[]
  cf := some (fileOf pool4 2 #[] #[] 1537 4 #[] #[])
  fields := #[]
  methods := #[]
  instanceTypes := #[]
  staticTypes := #[]
  resolved := Array.replicate 8 none
  statics := none }

def pool5 : Array CpInfo := pool [(1, u "java/io/Serializable"), (0, .class_ 1), (0, u "java/lang/Object"), (0, .class_ 3)] 3

/-- java/io/Serializable -/
def k5 : Class := { plain "java/io/Serializable" (some 0) with
  accessFlags := 1537
  interfaces := #[]
  cf := some (fileOf pool5 2 #[] #[] 1537 4 #[] #[])
  fields := #[]
  methods := #[]
  instanceTypes := #[]
  staticTypes := #[]
  resolved := Array.replicate 8 none
  statics := none }

/-- the primitive byte -/
def k6 : Class := { plain "byte" none with kind := .primitive 'B', accessFlags := 0x411 }
/-- [B -/
def k7 : Class := { plain "[B" (some 0) with kind := .array 6 .byte, interfaces := #[4, 5], accessFlags := 1041 }

/-- the primitive int -/
def k8 : Class := { plain "int" none with kind := .primitive 'I', accessFlags := 0x411 }
/-- [I -/
def k9 : Class := { plain "[I" (some 0) with kind := .array 8 .int, interfaces := #[4, 5], accessFlags := 1041 }

/-- [[I -/
def k10 : Class := { plain "[[I" (some 0) with kind := .array 9 (.array .int), interfaces := #[4, 5], accessFlags := 1041 }
def heap : Heap := #[]
def classes : Array Class := #[k0, k1, k2, k3, k4, k5, k6, k7, k8, k9, k10]
def interned : List (Array UInt16 × Addr) := []
def slotsUsed : Nat := 0
def theMethod : MethodId := ⟨1, 1⟩
def args0 : Array Value := #[.int 5, .int 3, .int 7, .int 4]
def aboutOver (below : List Frame) : State where
  vm := { classes := classes, interned := interned.toArray }
  heap := heap
  slotsUsed := slotsUsed
  threads := #[{ frames := .invoking theMethod args0 :: below }]
def below0 : List Frame := [.native { method := ⟨0, 0⟩, args := #[] }]
def about1 : State := aboutOver below0
def p0 : Program := .bare "" "" ""
def e0 : Env := launch0.env 0 0 0
theorem w_frames : about1.frames = Frame.invoking theMethod args0 :: below0 := rfl
set_option maxRecDepth 65536 in
theorem w_args : argsFit about1.vm theMethod args0 = true := by decide +kernel
set_option maxRecDepth 65536 in
theorem w_heap : heapFits about1 = true := by decide +kernel
set_option maxRecDepth 65536 in
theorem w_runnable : about1.curStatus? = some .runnable := by decide +kernel
set_option maxRecDepth 65536 in
theorem w_alone : about1.alone = true := by decide +kernel
set_option maxRecDepth 65536 in
theorem w_named : about1.methodNamed? x = some theMethod := by decide +kernel
set_option maxRecDepth 65536 in
theorem w_hears : about1.hears theMethod below0 = true := by decide +kernel
set_option maxRecDepth 65536 in
theorem w_ripe : about1.ripe theMethod args0 below0 = true := by decide +kernel
theorem w_running : about1.status = .running := rfl
set_option maxRecDepth 65536 in
theorem w_room : about1.hasRoom e0.platform room_1 = true :=
  launch0.hasRoom_least _ room_1 (by decide +kernel) (by decide +kernel) (by decide +kernel) (by decide +kernel) (by decide +kernel) (by decide +kernel)
theorem allAtoms_all (ts : List Jvm.Cond) (a : Array Jvm.Value) (st : Jvm.State) : (allAtoms ts).before a st = ts.all (fun c => c.before a st) := by
  induction ts with
  | nil => rfl
  | cons c t ih =>
    show (Jvm.Cond.and c (allAtoms t)).before a st = _
    rw [Jvm.Cond.before_and, ih, List.all_cons]
def words1 : List Jvm.Cond := Jvm.Cond.code x code maxLocals ret :: tables_1
/-- a 'code' word, met by the world's own term for the bytes: nothing is compared byte by byte -/
theorem code_word {y : MethodName} {bytes : ByteArray} {mx : Nat} {rt : Option FieldType} {a : Array Value} {s : State} {m : MethodId} {meth : Method} {c : Code} (h1 : s.methodNamed? y = some m) (h2 : s.vm.method? m = some meth) (h3 : meth.code = some c) (h4 : c.code = bytes)
    (h5 : (c.maxLocals == mx && c.exceptionTable.isEmpty && decide (c.maxStack ≤ mostOperands) && decide (meth.sig.returnType = rt) && !meth.locks && decide (parseMethodDescriptor y.desc = some meth.sig)) = true) : (Jvm.Cond.code y bytes mx rt).before a s = true := by
  simp only [Bool.and_eq_true, beq_iff_eq, Bool.not_eq_true', decide_eq_true_eq] at h5
  obtain ⟨⟨⟨⟨⟨g1, g2⟩, g3⟩, g4⟩, g5⟩, g6⟩ := h5
  simp [Cond.before, Cond.holds, Cond.value, h1, h2, h3, h4, g1, g2, g3, g4, g5, g6]
def isCode : Jvm.Cond → Bool
  | .code _ _ _ _ => true
  | _ => false
theorem all_split {L : List Jvm.Cond} {P : Jvm.Cond → Bool} (h1 : L.all (fun c => isCode c || P c) = true) (h2 : ∀ c ∈ L.filter isCode, P c = true) : L.all P = true := by
  refine List.all_eq_true.mpr fun c hc => ?_
  have h := List.all_eq_true.mp h1 c hc
  rcases Bool.eq_false_or_eq_true (isCode c) with hi | hi
  · exact h2 c (List.mem_filter.mpr ⟨hc, hi⟩)
  · simpa [hi] using h
set_option maxRecDepth 65536 in
theorem w_c0 : (Jvm.Cond.code x code maxLocals ret).before args0 about1 = true := code_word (m := ⟨1, 1⟩) (meth := k1m1) (c := k1c1) (by decide +kernel) rfl rfl rfl (by decide +kernel)
set_option maxRecDepth 65536 in
theorem w_c1 : (Jvm.Cond.code ({ cls := "com/example/befehlswerk/befehlswerk/connect6/Board", name := "<init>", desc := "(IZ)V" } : Jvm.MethodName) prog_2_method_1_code (3 : Nat) (Option.none : Option Jvm.ClassFile.FieldType)).before args0 about1 = true := code_word (m := ⟨2, 0⟩) (meth := k2m0) (c := k2c0) (by decide +kernel) rfl rfl rfl (by decide +kernel)
set_option maxRecDepth 65536 in
theorem w_c2 : (Jvm.Cond.code ({ cls := "java/lang/Object", name := "<init>", desc := "()V" } : Jvm.MethodName) object_method_1_code (1 : Nat) (Option.none : Option Jvm.ClassFile.FieldType)).before args0 about1 = true := code_word (m := ⟨0, 0⟩) (meth := k0m0) (c := k0c0) (by decide +kernel) rfl rfl rfl (by decide +kernel)
set_option maxRecDepth 65536 in
theorem w_c3 : (Jvm.Cond.code ({ cls := "com/example/befehlswerk/befehlswerk/connect6/BoardIsFullPinLaw", name := "place", desc := "(Lcom/example/befehlswerk/befehlswerk/connect6/Board;ZIII)V" } : Jvm.MethodName) method_4_code (5 : Nat) (Option.none : Option Jvm.ClassFile.FieldType)).before args0 about1 = true := code_word (m := ⟨1, 3⟩) (meth := k1m3) (c := k1c3) (by decide +kernel) rfl rfl rfl (by decide +kernel)
set_option maxRecDepth 65536 in
theorem w_c4 : (Jvm.Cond.code ({ cls := "com/example/befehlswerk/befehlswerk/kernel/Position", name := "<init>", desc := "(II)V" } : Jvm.MethodName) prog_39_method_1_code (3 : Nat) (Option.none : Option Jvm.ClassFile.FieldType)).before args0 about1 = true := code_word (m := ⟨3, 0⟩) (meth := k3m0) (c := k3c0) (by decide +kernel) rfl rfl rfl (by decide +kernel)
set_option maxRecDepth 65536 in
theorem w_c5 : (Jvm.Cond.code ({ cls := "com/example/befehlswerk/befehlswerk/connect6/Board", name := "put", desc := "(Lcom/example/befehlswerk/befehlswerk/kernel/Position;I)V" } : Jvm.MethodName) prog_2_method_7_code (3 : Nat) (Option.none : Option Jvm.ClassFile.FieldType)).before args0 about1 = true := code_word (m := ⟨2, 1⟩) (meth := k2m1) (c := k2c1) (by decide +kernel) rfl rfl rfl (by decide +kernel)
set_option maxRecDepth 65536 in
theorem w_c6 : (Jvm.Cond.code ({ cls := "com/example/befehlswerk/befehlswerk/kernel/Position", name := "row", desc := "()I" } : Jvm.MethodName) prog_39_method_4_code (1 : Nat) (Option.some Jvm.ClassFile.FieldType.int)).before args0 about1 = true := code_word (m := ⟨3, 1⟩) (meth := k3m1) (c := k3c1) (by decide +kernel) rfl rfl rfl (by decide +kernel)
set_option maxRecDepth 65536 in
theorem w_c7 : (Jvm.Cond.code ({ cls := "com/example/befehlswerk/befehlswerk/kernel/Position", name := "column", desc := "()I" } : Jvm.MethodName) prog_39_method_5_code (1 : Nat) (Option.some Jvm.ClassFile.FieldType.int)).before args0 about1 = true := code_word (m := ⟨3, 2⟩) (meth := k3m2) (c := k3c2) (by decide +kernel) rfl rfl rfl (by decide +kernel)
set_option maxRecDepth 65536 in
theorem w_c8 : (Jvm.Cond.code ({ cls := "com/example/befehlswerk/befehlswerk/connect6/Board", name := "isFull", desc := "()Z" } : Jvm.MethodName) prog_2_method_8_code (9 : Nat) (Option.some Jvm.ClassFile.FieldType.boolean)).before args0 about1 = true := code_word (m := ⟨2, 2⟩) (meth := k2m2) (c := k2c2) (by decide +kernel) rfl rfl rfl (by decide +kernel)
set_option maxRecDepth 65536 in
theorem w_c9 : (Jvm.Cond.code ({ cls := "com/example/befehlswerk/befehlswerk/connect6/BoardIsFullPinLaw", name := "col", desc := "(III)I" } : Jvm.MethodName) method_3_code (3 : Nat) (Option.some Jvm.ClassFile.FieldType.int)).before args0 about1 = true := code_word (m := ⟨1, 2⟩) (meth := k1m2) (c := k1c2) (by decide +kernel) rfl rfl rfl (by decide +kernel)
def codes1 : List Jvm.Cond := [Jvm.Cond.code x code maxLocals ret, Jvm.Cond.code ({ cls := "com/example/befehlswerk/befehlswerk/connect6/Board", name := "<init>", desc := "(IZ)V" } : Jvm.MethodName) prog_2_method_1_code (3 : Nat) (Option.none : Option Jvm.ClassFile.FieldType), Jvm.Cond.code ({ cls := "java/lang/Object", name := "<init>", desc := "()V" } : Jvm.MethodName) object_method_1_code (1 : Nat) (Option.none : Option Jvm.ClassFile.FieldType), Jvm.Cond.code ({ cls := "com/example/befehlswerk/befehlswerk/connect6/BoardIsFullPinLaw", name := "place", desc := "(Lcom/example/befehlswerk/befehlswerk/connect6/Board;ZIII)V" } : Jvm.MethodName) method_4_code (5 : Nat) (Option.none : Option Jvm.ClassFile.FieldType), Jvm.Cond.code ({ cls := "com/example/befehlswerk/befehlswerk/kernel/Position", name := "<init>", desc := "(II)V" } : Jvm.MethodName) prog_39_method_1_code (3 : Nat) (Option.none : Option Jvm.ClassFile.FieldType), Jvm.Cond.code ({ cls := "com/example/befehlswerk/befehlswerk/connect6/Board", name := "put", desc := "(Lcom/example/befehlswerk/befehlswerk/kernel/Position;I)V" } : Jvm.MethodName) prog_2_method_7_code (3 : Nat) (Option.none : Option Jvm.ClassFile.FieldType), Jvm.Cond.code ({ cls := "com/example/befehlswerk/befehlswerk/kernel/Position", name := "row", desc := "()I" } : Jvm.MethodName) prog_39_method_4_code (1 : Nat) (Option.some Jvm.ClassFile.FieldType.int), Jvm.Cond.code ({ cls := "com/example/befehlswerk/befehlswerk/kernel/Position", name := "column", desc := "()I" } : Jvm.MethodName) prog_39_method_5_code (1 : Nat) (Option.some Jvm.ClassFile.FieldType.int), Jvm.Cond.code ({ cls := "com/example/befehlswerk/befehlswerk/connect6/Board", name := "isFull", desc := "()Z" } : Jvm.MethodName) prog_2_method_8_code (9 : Nat) (Option.some Jvm.ClassFile.FieldType.boolean), Jvm.Cond.code ({ cls := "com/example/befehlswerk/befehlswerk/connect6/BoardIsFullPinLaw", name := "col", desc := "(III)I" } : Jvm.MethodName) method_3_code (3 : Nat) (Option.some Jvm.ClassFile.FieldType.int)]
set_option maxRecDepth 65536 in
theorem codes_eq : words1.filter isCode = codes1 := rfl
theorem w_codes : ∀ c ∈ words1.filter isCode, c.before args0 about1 = true := by
  rw [codes_eq]
  intro c hc
  simp only [codes1, List.mem_cons, List.not_mem_nil, or_false] at hc
  rcases hc with rfl | rfl | rfl | rfl | rfl | rfl | rfl | rfl | rfl | rfl
  · exact w_c0
  · exact w_c1
  · exact w_c2
  · exact w_c3
  · exact w_c4
  · exact w_c5
  · exact w_c6
  · exact w_c7
  · exact w_c8
  · exact w_c9
set_option maxRecDepth 65536 in
theorem w_t1 : (words1.take 24).all (fun c => isCode c || c.before args0 about1) = true := by decide +kernel
set_option maxRecDepth 65536 in
theorem w_t2 : ((words1.drop 24).take 24).all (fun c => isCode c || c.before args0 about1) = true := by decide +kernel
set_option maxRecDepth 65536 in
theorem w_t3 : ((words1.drop 24).drop 24).all (fun c => isCode c || c.before args0 about1) = true := by decide +kernel
theorem w_tables : (allAtoms (Jvm.Cond.code x code maxLocals ret :: tables_1)).before args0 about1 = true := by
  rw [allAtoms_all]
  show words1.all (fun c => c.before args0 about1) = true
  refine all_split ?_ w_codes
  rw [← List.take_append_drop 24 words1, List.all_append, w_t1, ← List.take_append_drop 24 (words1.drop 24), List.all_append, w_t2, w_t3]
  rfl
set_option maxRecDepth 65536 in
theorem w_case : (Jvm.Cond.and given_1 narrow_1).before args0 about1 = true := by decide +kernel
theorem w_applies : (headSpec (Jvm.Cond.code x code maxLocals ret :: tables_1) room_1).applies x e0.platform about1 = true :=
  (Spec.applies_iff w_frames).mpr ⟨w_running, w_runnable, w_alone, w_named, w_hears, w_ripe, w_room, w_tables⟩
theorem atStart : AtStart classFile x code maxLocals ret World_1 tables_1 room_1 Calls_1 rest_1 Pre_1 launch0 p0 e0 about1 theMethod args0 below0 :=
  ⟨lists_1, trivial, launch0.admits_env _ _ _, launch0.least_env, fairChoices_fair.cas, fairChoices_fair.clock, w_frames, w_args, w_heap, w_applies, trivial, trivial, w_case⟩
end start1
theorem witness_1 : WitnessClaimed_1 := ⟨start1.p0, start1.e0, start1.about1, start1.theMethod, start1.args0, start1.below0, start1.atStart⟩
end Jvm.Pilot.@@N@@
