import JvmDerived
import JvmDerived.Pilot.@@N@@Statement
import JvmDerived.Pilot.@@N@@Code
set_option linter.unusedVariables false
set_option linter.unusedSimpArgs false
namespace Jvm.Ow
open Sem ClassFile Op Lib Jvm.Stand Jvm.Free Jvm.LawKit Jvm.RoadKit
/-- what one invocation runs over -/
abbrev Cx : Type := Program × Launch × Env × State × MethodId × Array Value × List Frame × Method × Code
def Cx.p (x : Cx) : Program := x.1
def Cx.l (x : Cx) : Launch := x.2.1
def Cx.e (x : Cx) : Env := x.2.2.1
def Cx.s (x : Cx) : State := x.2.2.2.1
def Cx.m (x : Cx) : MethodId := x.2.2.2.2.1
def Cx.args (x : Cx) : Array Value := x.2.2.2.2.2.1
def Cx.below (x : Cx) : List Frame := x.2.2.2.2.2.2.1
def Cx.meth (x : Cx) : Method := x.2.2.2.2.2.2.2.1
def Cx.c (x : Cx) : Code := x.2.2.2.2.2.2.2.2
/-- a body: its name, bytes, max_locals, return type, room, and the table words of the case -/
abbrev Bd : Type := MethodName × ByteArray × Nat × Option FieldType × Room × List Cond
abbrev Bd.y (b : Bd) : MethodName := b.1
abbrev Bd.by (b : Bd) : ByteArray := b.2.1
abbrev Bd.ml (b : Bd) : Nat := b.2.2.1
abbrev Bd.rt (b : Bd) : Option FieldType := b.2.2.2.1
abbrev Bd.R (b : Bd) : Room := b.2.2.2.2.1
abbrev Bd.tb (b : Bd) : List Cond := b.2.2.2.2.2
def Wd (Z : State) (tb : List Cond) : Prop := ∃ a0 : Array Value, ∀ d ∈ tb, d.before a0 Z = true
def En (Z : State) (x : Cx) (B : Bd) : Prop := x.p.tables.exec = Jvm.exec ∧ x.c.code = B.by ∧ x.c.maxLocals = B.ml ∧ x.s.vm.findClass B.y.cls = some x.m.cls ∧ x.meth.name = B.y.name ∧ x.meth.sig.returnType = B.rt ∧ Z.Warmed39 x.s.vm ∧ x.meth.locks = false ∧ Wd Z B.tb
/-- the invocation stands at T, whose heap is h; k cells and n slots were made; nothing of the start's heap was written -/
def Sp (Z : State) (x : Cx) (B : Bd) (T : State) (k n : Nat) (h : Heap) : Prop := En Z x B ∧ Ext Z.heap h ∧ ∃ locs, Stand x.p x.l x.e B.R x.s x.m x.args x.below x.meth x.c T locs k n ∧ T.heap = h ∧ Fr Z.heap.size locs
/-- from T with this frame the invocation ends as Q says -/
def Rn (Q : Option Value → Heap → Prop) (Z : State) (x : Cx) (B : Bd) (T : State) (pc : Nat) (Ls : Array Slot) (st : List Value) : Prop :=
  ∃ t o, Steps x.p.tables x.e x.below (T.setTop (mkF x.m pc Ls st)) t ∧ t.status = .running ∧ Ended t x.below o ∧ ∃ v L, o = .returned v ∧ (Q v t.heap ∧ Ext Z.heap t.heap ∧ Fr Z.heap.size L) ∧ FrameEnd x.s o t L B.R.cells B.R.slots
/-- from every point with this heap and this frame the invocation ends as Q says -/
def Go (Q : Option Value → Heap → Prop) (Z : State) (B : Bd) (k n : Nat) (h : Heap) (pc : Nat) (Ls : Array Slot) (st : List Value) : Prop := ∀ (x : Cx) (T : State), Sp Z x B T k n h → Rn Q Z x B T pc Ls st
/-- a body's contract: from the heap h0, with the arguments as, it returns v at a heap h with Q v h -/
def Con (Z : State) (B : Bd) (as : Array Value) (h0 : Heap) (Q : Option Value → Heap → Prop) : Prop :=
  Ext Z.heap h0 → ∀ (l : Launch) (ws : List Cond), MetFree l B.y (head1 (Cond.code B.y B.by B.ml B.rt :: ws) B.R) (fun a U => a = as ∧ Z.Warmed39 U.vm ∧ U.heap = h0) (fun _ _ _ _ _ => True)
    (fun _ U o U' => ∃ v L, o = .returned v ∧ (Q v U'.heap ∧ Ext Z.heap U'.heap ∧ Fr Z.heap.size L) ∧ FrameEnd U o U' L B.R.cells B.R.slots)
/-- an array: its values -/
def Ary (Z : State) (h : Heap) (a : Addr) (ty : FieldType) (vs : List Value) : Prop := ∃ c : Cell, Arr Z h a c ty ∧ c.slots.toList = vs ∧ vs.length < 2 ^ 31 ∧ ∀ v ∈ vs, fits ty v = true
/-- an array over objects of class C -/
def Aov (Z : State) (h : Heap) (a : Addr) (C : String) : Prop := ∃ c : Cell, h[a]? = some c ∧ Ovr Z c.cls C
section St
variable {Q : Option Value → Heap → Prop} {Z : State} {x : Cx} {B : Bd} {T : State} {k n : Nat} {h h' : Heap} {pc : Nat} {Ls Ls' : Array Slot} {st rest : List Value}
theorem Wd.w {tb : List Cond} (W : Wd Z tb) : ∃ a0 : Array Value, ∀ {i : Nat} {d : Cond}, tb[i]? = some d → d.before a0 Z = true := by
  obtain ⟨a0, hw⟩ := W; exact ⟨a0, fun hi => hw _ (List.mem_of_getElem? hi)⟩
theorem Con.mk {as : Array Value} {h0 : Heap} (hw : Wd Z B.tb) (hpn : plainName B.y.cls = true) (hef : ∀ m, entryFrame m as B.ml = mkF m 0 Ls [])
    (body : Go Q Z B 0 0 h0 0 Ls []) : Con Z B as h0 Q := by
  intro hE l ws
  refine MetFree.of_bodySF (plainFor_of_name hpn) hisR ?_
  intro p e s m args below meth c s₁ Bd hml0 hP hK
  obtain ⟨rfl, hZ, hh⟩ := hP
  have X0 : Stand p l e B.R s m args below meth c s₁ [] 0 0 := Stand.of_body Bd
  have e0 : s₁.heap = h0 := by rw [← hh, Bd.state]; rfl
  obtain ⟨t, o, h1, h2, h3, h4⟩ := body (p, l, e, s, m, args, below, meth, c) s₁ ⟨⟨Bd.exec, Bd.bytes, hml0, findClass_of_methodNamed Bd.named, (name_of_methodNamed Bd.named Bd.method).1, Bd.returns, hZ, Bd.notSynchronized, hw⟩, hE, [], X0, e0, Fr.nil _⟩
  exact ⟨t, o, castTop (hef m) h1, h2, h3, h4⟩
theorem Con.post {as : Array Value} {h0 : Heap} {Q' : Option Value → Heap → Prop} (C : Con Z B as h0 Q) (q : ∀ v h, Q v h → Q' v h) : Con Z B as h0 Q' := fun hE l ws =>
  (C hE l ws).mono (fun _ _ h => h) (fun _ _ _ _ _ h => h) fun _ _ _ _ _ ⟨v, L, h1, h2, h3⟩ => ⟨v, L, h1, ⟨q _ _ h2.1, h2.2⟩, h3⟩
theorem Sp.here (P : Sp Z x B T k n h) : At T x.m x.c x.below := by obtain ⟨_, _, _, X, _⟩ := P; exact X.here
theorem Sp.ex (P : Sp Z x B T k n h) : x.p.tables.exec = Jvm.exec := P.1.1
theorem Sp.d (P : Sp Z x B T k n h) {r : Except DecodeError (Instr × Nat)} (hd : decode B.by pc = r) : decode x.c.code pc = r := by rw [P.1.2.1]; exact hd
theorem Sp.old (P : Sp Z x B T k n h) : Ext Z.heap h := P.2.1
theorem Sp.wd (P : Sp Z x B T k n h) : Wd Z B.tb := P.1.2.2.2.2.2.2.2.2
theorem Sp.le (P : Sp Z x B T k n h) : Z.heap.size ≤ h.size := P.2.1.1
theorem lift {T' : State} {pc' : Nat} {st' : List Value} (f : ∀ t, Steps x.p.tables x.e x.below (T'.setTop (mkF x.m pc' Ls' st')) t → Steps x.p.tables x.e x.below (T.setTop (mkF x.m pc Ls st)) t) (r : Rn Q Z x B T' pc' Ls' st') : Rn Q Z x B T pc Ls st := by
  obtain ⟨t, o, h1, h2⟩ := r; exact ⟨t, o, f t h1, h2⟩
theorem liftS {T' : State} {pc' : Nat} {st' : List Value} (f : Steps x.p.tables x.e x.below (T.setTop (mkF x.m pc Ls st)) (T'.setTop (mkF x.m pc' Ls' st'))) (r : Rn Q Z x B T' pc' Ls' st') : Rn Q Z x B T pc Ls st := by
  obtain ⟨t, o, h1, h2⟩ := r; exact ⟨t, o, f.trans h1, h2⟩
theorem Go.nameI {z : Int32} (r : ∀ v, z = v → Go Q Z B k n h pc Ls (.int v :: st)) : Go Q Z B k n h pc Ls (.int z :: st) := r z rfl
theorem Go.nameJ {z : Int64} (r : ∀ v, z = v → Go Q Z B k n h pc Ls (.long v :: st)) : Go Q Z B k n h pc Ls (.long z :: st) := r z rfl
theorem Go.nameD {z : UInt64} (r : ∀ v, z = v → Go Q Z B k n h pc Ls (.double v :: st)) : Go Q Z B k n h pc Ls (.double z :: st) := r z rfl
theorem Go.eqI {z w : Int32} (e : z = w) (r : Go Q Z B k n h pc Ls (.int w :: st)) : Go Q Z B k n h pc Ls (.int z :: st) := e ▸ r
theorem Go.eqJ {z w : Int64} (e : z = w) (r : Go Q Z B k n h pc Ls (.long w :: st)) : Go Q Z B k n h pc Ls (.long z :: st) := e ▸ r
theorem Go.eqD {z w : UInt64} (e : z = w) (r : Go Q Z B k n h pc Ls (.double w :: st)) : Go Q Z B k n h pc Ls (.double z :: st) := e ▸ r
theorem Go.joinI {pcJ : Nat} {LsJ : Array Slot} {stJ : List Value} (G : Int32 → Prop) (s : (∀ v, G v → Go Q Z B k n h pcJ LsJ (.int v :: stJ)) → Go Q Z B k n h pc Ls st) (r : ∀ v, G v → Go Q Z B k n h pcJ LsJ (.int v :: stJ)) : Go Q Z B k n h pc Ls st := s r
theorem cut {G : Prop} (X : Prop) (s : X → G) (r : X) : G := s r
theorem Go.old (r : Ext Z.heap h → Go Q Z B k n h pc Ls st) : Go Q Z B k n h pc Ls st := fun x T P => r P.old x T P
theorem Go.more {k' n' : Nat} (hk : k ≤ k') (hn : n ≤ n') (r : Go Q Z B k' n' h pc Ls st) : Go Q Z B k n h pc Ls st := fun x T P => r x T (by
  obtain ⟨E, O, locs, X, e, N⟩ := P
  exact ⟨E, O, locs, { X with same := X.same.mono hk hn }, e, N⟩)
theorem Go.iload (pc' : Nat) (hp : pc + 2 = pc') {i : Nat} {v : Int32} (hd : decode B.by pc = .ok (.iload i, 2)) (hl : Ls[i]? = some (.val (.int v))) (r : Go Q Z B k n h pc' Ls (.int v :: st)) : Go Q Z B k n h pc Ls (st) := fun x T P => by
  subst hp; exact lift (fun t q => XS.iload P.here P.ex rfl (P.d hd) hl q) (r x T P)
theorem Go.iloadN (pc' : Nat) (hp : pc + 1 = pc') {i : Fin 4} {v : Int32} (hd : decode B.by pc = .ok (.iload_n i, 1)) (hl : Ls[i.val]? = some (.val (.int v))) (r : Go Q Z B k n h pc' Ls (.int v :: st)) : Go Q Z B k n h pc Ls (st) := fun x T P => by
  subst hp; exact lift (fun t q => XS.iloadN P.here P.ex rfl (P.d hd) hl q) (r x T P)
theorem Go.istore (pc' : Nat) (hp : pc + 2 = pc') {i : Nat} {v : Int32} (hd : decode B.by pc = .ok (.istore i, 2))  (hl : storeLocals Ls i (.int v) = some Ls') (r : Go Q Z B k n h pc' Ls' (st)) : Go Q Z B k n h pc Ls (.int v :: st) := fun x T P => by
  subst hp; exact lift (fun t q => XS.istore P.here P.ex rfl (P.d hd) rfl hl q) (r x T P)
theorem Go.istoreN (pc' : Nat) (hp : pc + 1 = pc') {i : Fin 4} {v : Int32} (hd : decode B.by pc = .ok (.istore_n i, 1))  (hl : storeLocals Ls i.val (.int v) = some Ls') (r : Go Q Z B k n h pc' Ls' (st)) : Go Q Z B k n h pc Ls (.int v :: st) := fun x T P => by
  subst hp; exact lift (fun t q => XS.istoreN P.here P.ex rfl (P.d hd) rfl hl q) (r x T P)
theorem Go.lload (pc' : Nat) (hp : pc + 2 = pc') {i : Nat} {v : Int64} (hd : decode B.by pc = .ok (.lload i, 2)) (hl : Ls[i]? = some (.val (.long v))) (r : Go Q Z B k n h pc' Ls (.long v :: st)) : Go Q Z B k n h pc Ls (st) := fun x T P => by
  subst hp; exact lift (fun t q => XT.lload P.here P.ex rfl (P.d hd) hl q) (r x T P)
theorem Go.lloadN (pc' : Nat) (hp : pc + 1 = pc') {i : Fin 4} {v : Int64} (hd : decode B.by pc = .ok (.lload_n i, 1)) (hl : Ls[i.val]? = some (.val (.long v))) (r : Go Q Z B k n h pc' Ls (.long v :: st)) : Go Q Z B k n h pc Ls (st) := fun x T P => by
  subst hp; exact lift (fun t q => XT.lloadN P.here P.ex rfl (P.d hd) hl q) (r x T P)
theorem Go.lstore (pc' : Nat) (hp : pc + 2 = pc') {i : Nat} {v : Int64} (hd : decode B.by pc = .ok (.lstore i, 2))  (hl : storeLocals Ls i (.long v) = some Ls') (r : Go Q Z B k n h pc' Ls' (st)) : Go Q Z B k n h pc Ls (.long v :: st) := fun x T P => by
  subst hp; exact lift (fun t q => XT.lstore P.here P.ex rfl (P.d hd) rfl hl q) (r x T P)
theorem Go.lstoreN (pc' : Nat) (hp : pc + 1 = pc') {i : Fin 4} {v : Int64} (hd : decode B.by pc = .ok (.lstore_n i, 1))  (hl : storeLocals Ls i.val (.long v) = some Ls') (r : Go Q Z B k n h pc' Ls' (st)) : Go Q Z B k n h pc Ls (.long v :: st) := fun x T P => by
  subst hp; exact lift (fun t q => XT.lstoreN P.here P.ex rfl (P.d hd) rfl hl q) (r x T P)
theorem Go.aload (pc' : Nat) (hp : pc + 2 = pc') {i : Nat} {v : Value} (hd : decode B.by pc = .ok (.aload i, 2)) (hl : Ls[i]? = some (.val (v))) (hv : v.isRef = true) (r : Go Q Z B k n h pc' Ls (v :: st)) : Go Q Z B k n h pc Ls (st) := fun x T P => by
  subst hp; exact lift (fun t q => XS.aload P.here P.ex rfl (P.d hd) hl hv q) (r x T P)
theorem Go.aloadN (pc' : Nat) (hp : pc + 1 = pc') {i : Fin 4} {v : Value} (hd : decode B.by pc = .ok (.aload_n i, 1)) (hl : Ls[i.val]? = some (.val (v))) (hv : v.isRef = true) (r : Go Q Z B k n h pc' Ls (v :: st)) : Go Q Z B k n h pc Ls (st) := fun x T P => by
  subst hp; exact lift (fun t q => XS.aloadN P.here P.ex rfl (P.d hd) hl hv q) (r x T P)
theorem Go.astore (pc' : Nat) (hp : pc + 2 = pc') {i : Nat} {v : Value} (hd : decode B.by pc = .ok (.astore i, 2))  (hv : v.isRef = true) (hl : storeLocals Ls i (v) = some Ls') (r : Go Q Z B k n h pc' Ls' (st)) : Go Q Z B k n h pc Ls (v :: st) := fun x T P => by
  subst hp; exact lift (fun t q => XS.astore P.here P.ex rfl (P.d hd) rfl hv hl q) (r x T P)
theorem Go.astoreN (pc' : Nat) (hp : pc + 1 = pc') {i : Fin 4} {v : Value} (hd : decode B.by pc = .ok (.astore_n i, 1))  (hv : v.isRef = true) (hl : storeLocals Ls i.val (v) = some Ls') (r : Go Q Z B k n h pc' Ls' (st)) : Go Q Z B k n h pc Ls (v :: st) := fun x T P => by
  subst hp; exact lift (fun t q => XS.astoreN P.here P.ex rfl (P.d hd) rfl hv hl q) (r x T P)
theorem Go.dload (pc' : Nat) (hp : pc + 2 = pc') {i : Nat} {v : UInt64} (hd : decode B.by pc = .ok (.dload i, 2)) (hl : Ls[i]? = some (.val (.double v))) (r : Go Q Z B k n h pc' Ls (.double v :: st)) : Go Q Z B k n h pc Ls (st) := fun x T P => by
  subst hp; exact lift (fun t q => XS.dload P.here P.ex rfl (P.d hd) hl q) (r x T P)
theorem Go.dloadN (pc' : Nat) (hp : pc + 1 = pc') {i : Fin 4} {v : UInt64} (hd : decode B.by pc = .ok (.dload_n i, 1)) (hl : Ls[i.val]? = some (.val (.double v))) (r : Go Q Z B k n h pc' Ls (.double v :: st)) : Go Q Z B k n h pc Ls (st) := fun x T P => by
  subst hp; exact lift (fun t q => XS.dloadN P.here P.ex rfl (P.d hd) hl q) (r x T P)
theorem Go.dstore (pc' : Nat) (hp : pc + 2 = pc') {i : Nat} {v : UInt64} (hd : decode B.by pc = .ok (.dstore i, 2))  (hl : storeLocals Ls i (.double v) = some Ls') (r : Go Q Z B k n h pc' Ls' (st)) : Go Q Z B k n h pc Ls (.double v :: st) := fun x T P => by
  subst hp; exact lift (fun t q => XS.dstore P.here P.ex rfl (P.d hd) rfl hl q) (r x T P)
theorem Go.dstoreN (pc' : Nat) (hp : pc + 1 = pc') {i : Fin 4} {v : UInt64} (hd : decode B.by pc = .ok (.dstore_n i, 1))  (hl : storeLocals Ls i.val (.double v) = some Ls') (r : Go Q Z B k n h pc' Ls' (st)) : Go Q Z B k n h pc Ls (.double v :: st) := fun x T P => by
  subst hp; exact lift (fun t q => XS.dstoreN P.here P.ex rfl (P.d hd) rfl hl q) (r x T P)
theorem Go.iconst (pc' : Nat) (hp : pc + 1 = pc') {i : Int} (v : Int32) (hd : decode B.by pc = .ok (.iconst i, 1)) (hv : Int32.ofInt i = v) (r : Go Q Z B k n h pc' Ls (.int v :: st)) : Go Q Z B k n h pc Ls (st) := fun x T P => by
  subst hp; exact lift (fun t q => XT.iconstV P.here P.ex rfl v (P.d hd) hv q) (r x T P)
theorem Go.bipush (pc' : Nat) (hp : pc + 2 = pc') {i : Int} (v : Int32) (hd : decode B.by pc = .ok (.bipush i, 2)) (hv : (Int8.ofInt i).toInt32 = v) (r : Go Q Z B k n h pc' Ls (.int v :: st)) : Go Q Z B k n h pc Ls (st) := fun x T P => by
  subst hp; exact lift (fun t q => XT.bipushV P.here P.ex rfl v (P.d hd) hv q) (r x T P)
theorem Go.sipush (pc' : Nat) (hp : pc + 3 = pc') {i : Int} (v : Int32) (hd : decode B.by pc = .ok (.sipush i, 3)) (hv : (Int16.ofInt i).toInt32 = v) (r : Go Q Z B k n h pc' Ls (.int v :: st)) : Go Q Z B k n h pc Ls (st) := fun x T P => by
  subst hp; exact lift (fun t q => XT.sipushV P.here P.ex rfl v (P.d hd) hv q) (r x T P)
theorem Go.lconst (pc' : Nat) (hp : pc + 1 = pc') {i : Fin 2} (v : Int64) (hd : decode B.by pc = .ok (.lconst i, 1)) (hv : Int64.ofNat i = v) (r : Go Q Z B k n h pc' Ls (.long v :: st)) : Go Q Z B k n h pc Ls (st) := fun x T P => by
  subst hp; exact lift (fun t q => XT.lconstV P.here P.ex rfl v (P.d hd) hv q) (r x T P)
theorem Go.aconstNull (pc' : Nat) (hp : pc + 1 = pc')  (hd : decode B.by pc = .ok (.aconst_null, 1))  (r : Go Q Z B k n h pc' Ls (.null :: st)) : Go Q Z B k n h pc Ls (st) := fun x T P => by
  subst hp; exact lift (fun t q => XS.aconstNull P.here P.ex rfl (P.d hd) q) (r x T P)
theorem Go.iadd (pc' : Nat) (hp : pc + 1 = pc') {x1 y1 : Int32} (hd : decode B.by pc = .ok (.iadd, 1))  (r : Go Q Z B k n h pc' Ls (.int (x1 + y1) :: st)) : Go Q Z B k n h pc Ls (.int y1 :: .int x1 :: st) := fun x T P => by
  subst hp; exact lift (fun t q => XS.iadd P.here P.ex rfl (P.d hd) rfl q) (r x T P)
theorem Go.isub (pc' : Nat) (hp : pc + 1 = pc') {x1 y1 : Int32} (hd : decode B.by pc = .ok (.isub, 1))  (r : Go Q Z B k n h pc' Ls (.int (x1 - y1) :: st)) : Go Q Z B k n h pc Ls (.int y1 :: .int x1 :: st) := fun x T P => by
  subst hp; exact lift (fun t q => XS.isub P.here P.ex rfl (P.d hd) rfl q) (r x T P)
theorem Go.iand (pc' : Nat) (hp : pc + 1 = pc') {x1 y1 : Int32} (hd : decode B.by pc = .ok (.iand, 1))  (r : Go Q Z B k n h pc' Ls (.int (x1 &&& y1) :: st)) : Go Q Z B k n h pc Ls (.int y1 :: .int x1 :: st) := fun x T P => by
  subst hp; exact lift (fun t q => XS.iand P.here P.ex rfl (P.d hd) rfl q) (r x T P)
theorem Go.imul (pc' : Nat) (hp : pc + 1 = pc') {x1 y1 : Int32} (hd : decode B.by pc = .ok (.imul, 1))  (r : Go Q Z B k n h pc' Ls (.int (x1 * y1) :: st)) : Go Q Z B k n h pc Ls (.int y1 :: .int x1 :: st) := fun x T P => by
  subst hp; exact lift (fun t q => XS.imul P.here P.ex rfl (P.d hd) rfl q) (r x T P)
theorem Go.ixor (pc' : Nat) (hp : pc + 1 = pc') {x1 y1 : Int32} (hd : decode B.by pc = .ok (.ixor, 1))  (r : Go Q Z B k n h pc' Ls (.int (x1 ^^^ y1) :: st)) : Go Q Z B k n h pc Ls (.int y1 :: .int x1 :: st) := fun x T P => by
  subst hp; exact lift (fun t q => XT.ixor P.here P.ex rfl (P.d hd) rfl q) (r x T P)
theorem Go.ior (pc' : Nat) (hp : pc + 1 = pc') {x1 y1 : Int32} (hd : decode B.by pc = .ok (.ior, 1))  (r : Go Q Z B k n h pc' Ls (.int (x1 ||| y1) :: st)) : Go Q Z B k n h pc Ls (.int y1 :: .int x1 :: st) := fun x T P => by
  subst hp; exact lift (fun t q => XT.ior P.here P.ex rfl (P.d hd) rfl q) (r x T P)
theorem Go.ishl (pc' : Nat) (hp : pc + 1 = pc') {x1 y1 : Int32} (hd : decode B.by pc = .ok (.ishl, 1))  (r : Go Q Z B k n h pc' Ls (.int (x1 <<< (y1 &&& 31)) :: st)) : Go Q Z B k n h pc Ls (.int y1 :: .int x1 :: st) := fun x T P => by
  subst hp; exact lift (fun t q => XT.ishl P.here P.ex rfl (P.d hd) rfl q) (r x T P)
theorem Go.ishr (pc' : Nat) (hp : pc + 1 = pc') {x1 y1 : Int32} (hd : decode B.by pc = .ok (.ishr, 1))  (r : Go Q Z B k n h pc' Ls (.int (x1 >>> (y1 &&& 31)) :: st)) : Go Q Z B k n h pc Ls (.int y1 :: .int x1 :: st) := fun x T P => by
  subst hp; exact lift (fun t q => XT.ishr P.here P.ex rfl (P.d hd) rfl q) (r x T P)
theorem Go.iushr (pc' : Nat) (hp : pc + 1 = pc') {x1 y1 : Int32} (hd : decode B.by pc = .ok (.iushr, 1))  (r : Go Q Z B k n h pc' Ls (.int (XT.ushr x1 y1) :: st)) : Go Q Z B k n h pc Ls (.int y1 :: .int x1 :: st) := fun x T P => by
  subst hp; exact lift (fun t q => XT.iushr P.here P.ex rfl (P.d hd) rfl q) (r x T P)
theorem Go.idiv (pc' : Nat) (hp : pc + 1 = pc') {x1 y1 : Int32} (hd : decode B.by pc = .ok (.idiv, 1)) (hy : y1 ≠ 0) (r : Go Q Z B k n h pc' Ls (.int (x1 / y1) :: st)) : Go Q Z B k n h pc Ls (.int y1 :: .int x1 :: st) := fun x T P => by
  subst hp; exact lift (fun t q => XS.idiv P.here P.ex rfl (P.d hd) rfl hy q) (r x T P)
theorem Go.ladd (pc' : Nat) (hp : pc + 1 = pc') {x1 y1 : Int64} (hd : decode B.by pc = .ok (.ladd, 1))  (r : Go Q Z B k n h pc' Ls (.long (x1 + y1) :: st)) : Go Q Z B k n h pc Ls (.long y1 :: .long x1 :: st) := fun x T P => by
  subst hp; exact lift (fun t q => XT.ladd P.here P.ex rfl (P.d hd) rfl q) (r x T P)
theorem Go.lsub (pc' : Nat) (hp : pc + 1 = pc') {x1 y1 : Int64} (hd : decode B.by pc = .ok (.lsub, 1))  (r : Go Q Z B k n h pc' Ls (.long (x1 - y1) :: st)) : Go Q Z B k n h pc Ls (.long y1 :: .long x1 :: st) := fun x T P => by
  subst hp; exact lift (fun t q => XT.lsub P.here P.ex rfl (P.d hd) rfl q) (r x T P)
theorem Go.land (pc' : Nat) (hp : pc + 1 = pc') {x1 y1 : Int64} (hd : decode B.by pc = .ok (.land, 1))  (r : Go Q Z B k n h pc' Ls (.long (x1 &&& y1) :: st)) : Go Q Z B k n h pc Ls (.long y1 :: .long x1 :: st) := fun x T P => by
  subst hp; exact lift (fun t q => XT.land P.here P.ex rfl (P.d hd) rfl q) (r x T P)
theorem Go.lmul (pc' : Nat) (hp : pc + 1 = pc') {x1 y1 : Int64} (hd : decode B.by pc = .ok (.lmul, 1))  (r : Go Q Z B k n h pc' Ls (.long (x1 * y1) :: st)) : Go Q Z B k n h pc Ls (.long y1 :: .long x1 :: st) := fun x T P => by
  subst hp; exact lift (fun t q => XT.lmul P.here P.ex rfl (P.d hd) rfl q) (r x T P)
theorem Go.lxor (pc' : Nat) (hp : pc + 1 = pc') {x1 y1 : Int64} (hd : decode B.by pc = .ok (.lxor, 1))  (r : Go Q Z B k n h pc' Ls (.long (x1 ^^^ y1) :: st)) : Go Q Z B k n h pc Ls (.long y1 :: .long x1 :: st) := fun x T P => by
  subst hp; exact lift (fun t q => XT.lxor P.here P.ex rfl (P.d hd) rfl q) (r x T P)
theorem Go.lor (pc' : Nat) (hp : pc + 1 = pc') {x1 y1 : Int64} (hd : decode B.by pc = .ok (.lor, 1))  (r : Go Q Z B k n h pc' Ls (.long (x1 ||| y1) :: st)) : Go Q Z B k n h pc Ls (.long y1 :: .long x1 :: st) := fun x T P => by
  subst hp; exact lift (fun t q => XT.lor P.here P.ex rfl (P.d hd) rfl q) (r x T P)
theorem Go.lshl (pc' : Nat) (hp : pc + 1 = pc') {x1 : Int64} {y1 : Int32} (hd : decode B.by pc = .ok (.lshl, 1))  (r : Go Q Z B k n h pc' Ls (.long (x1 <<< (y1.toInt64 &&& 63)) :: st)) : Go Q Z B k n h pc Ls (.int y1 :: .long x1 :: st) := fun x T P => by
  subst hp; exact lift (fun t q => XT.lshl P.here P.ex rfl (P.d hd) rfl q) (r x T P)
theorem Go.lshr (pc' : Nat) (hp : pc + 1 = pc') {x1 : Int64} {y1 : Int32} (hd : decode B.by pc = .ok (.lshr, 1))  (r : Go Q Z B k n h pc' Ls (.long (x1 >>> (y1.toInt64 &&& 63)) :: st)) : Go Q Z B k n h pc Ls (.int y1 :: .long x1 :: st) := fun x T P => by
  subst hp; exact lift (fun t q => XT.lshr P.here P.ex rfl (P.d hd) rfl q) (r x T P)
theorem Go.lushr (pc' : Nat) (hp : pc + 1 = pc') {x1 : Int64} {y1 : Int32} (hd : decode B.by pc = .ok (.lushr, 1))  (r : Go Q Z B k n h pc' Ls (.long (XT.ushrL x1 y1) :: st)) : Go Q Z B k n h pc Ls (.int y1 :: .long x1 :: st) := fun x T P => by
  subst hp; exact lift (fun t q => XT.lushr P.here P.ex rfl (P.d hd) rfl q) (r x T P)
theorem Go.ldiv (pc' : Nat) (hp : pc + 1 = pc') {x1 y1 : Int64} (hd : decode B.by pc = .ok (.ldiv, 1)) (hy : y1 ≠ 0) (r : Go Q Z B k n h pc' Ls (.long (x1 / y1) :: st)) : Go Q Z B k n h pc Ls (.long y1 :: .long x1 :: st) := fun x T P => by
  subst hp; exact lift (fun t q => XT.ldiv P.here P.ex rfl (P.d hd) rfl hy q) (r x T P)
theorem Go.lrem (pc' : Nat) (hp : pc + 1 = pc') {x1 y1 : Int64} (hd : decode B.by pc = .ok (.lrem, 1)) (hy : y1 ≠ 0) (r : Go Q Z B k n h pc' Ls (.long (x1 % y1) :: st)) : Go Q Z B k n h pc Ls (.long y1 :: .long x1 :: st) := fun x T P => by
  subst hp; exact lift (fun t q => XT.lrem P.here P.ex rfl (P.d hd) rfl hy (by rw [lrem_mod]; exact q)) (r x T P)
theorem Go.lneg (pc' : Nat) (hp : pc + 1 = pc') {x1 : Int64} (hd : decode B.by pc = .ok (.lneg, 1))  (r : Go Q Z B k n h pc' Ls (.long (-x1) :: st)) : Go Q Z B k n h pc Ls (.long x1 :: st) := fun x T P => by
  subst hp; exact lift (fun t q => XT.lneg P.here P.ex rfl (P.d hd) rfl q) (r x T P)
theorem Go.ineg (pc' : Nat) (hp : pc + 1 = pc') {x1 : Int32} (hd : decode B.by pc = .ok (.ineg, 1))  (r : Go Q Z B k n h pc' Ls (.int (-x1) :: st)) : Go Q Z B k n h pc Ls (.int x1 :: st) := fun x T P => by
  subst hp; exact lift (fun t q => XS.ineg P.here P.ex rfl (P.d hd) rfl q) (r x T P)
theorem Go.i2l (pc' : Nat) (hp : pc + 1 = pc') {x1 : Int32} (hd : decode B.by pc = .ok (.i2l, 1))  (r : Go Q Z B k n h pc' Ls (.long x1.toInt64 :: st)) : Go Q Z B k n h pc Ls (.int x1 :: st) := fun x T P => by
  subst hp; exact lift (fun t q => XT.i2l P.here P.ex rfl (P.d hd) rfl q) (r x T P)
theorem Go.l2i (pc' : Nat) (hp : pc + 1 = pc') {x1 : Int64} (hd : decode B.by pc = .ok (.l2i, 1))  (r : Go Q Z B k n h pc' Ls (.int x1.toInt32 :: st)) : Go Q Z B k n h pc Ls (.long x1 :: st) := fun x T P => by
  subst hp; exact lift (fun t q => XT.l2i P.here P.ex rfl (P.d hd) rfl q) (r x T P)
theorem Go.i2b (pc' : Nat) (hp : pc + 1 = pc') {x1 : Int32} (hd : decode B.by pc = .ok (.i2b, 1))  (r : Go Q Z B k n h pc' Ls (.int x1.toInt8.toInt32 :: st)) : Go Q Z B k n h pc Ls (.int x1 :: st) := fun x T P => by
  subst hp; exact lift (fun t q => XT.i2b P.here P.ex rfl (P.d hd) rfl q) (r x T P)
theorem Go.i2c (pc' : Nat) (hp : pc + 1 = pc') {x1 : Int32} (hd : decode B.by pc = .ok (.i2c, 1))  (r : Go Q Z B k n h pc' Ls (.int x1.toUInt32.toUInt16.toUInt32.toInt32 :: st)) : Go Q Z B k n h pc Ls (.int x1 :: st) := fun x T P => by
  subst hp; exact lift (fun t q => XT.i2c P.here P.ex rfl (P.d hd) rfl q) (r x T P)
theorem Go.i2s (pc' : Nat) (hp : pc + 1 = pc') {x1 : Int32} (hd : decode B.by pc = .ok (.i2s, 1))  (r : Go Q Z B k n h pc' Ls (.int x1.toInt16.toInt32 :: st)) : Go Q Z B k n h pc Ls (.int x1 :: st) := fun x T P => by
  subst hp; exact lift (fun t q => XT.i2s P.here P.ex rfl (P.d hd) rfl q) (r x T P)
theorem Go.lcmp (pc' : Nat) (hp : pc + 1 = pc') {x1 y1 : Int64} (hd : decode B.by pc = .ok (.lcmp, 1))  (r : Go Q Z B k n h pc' Ls (.int (XT.cmpL x1 y1) :: st)) : Go Q Z B k n h pc Ls (.long y1 :: .long x1 :: st) := fun x T P => by
  subst hp; exact lift (fun t q => XT.lcmp P.here P.ex rfl (P.d hd) rfl q) (r x T P)
theorem Go.i2d (pc' : Nat) (hp : pc + 1 = pc') {x1 : Int32} (hd : decode B.by pc = .ok (.i2d, 1))  (r : Go Q Z B k n h pc' Ls (.double (FP.i2d x1) :: st)) : Go Q Z B k n h pc Ls (.int x1 :: st) := fun x T P => by
  subst hp; exact lift (fun t q => XS.i2dS P.here P.ex rfl (P.d hd) rfl rfl q) (r x T P)
theorem Go.l2d (pc' : Nat) (hp : pc + 1 = pc') {x1 : Int64} (hd : decode B.by pc = .ok (.l2d, 1))  (r : Go Q Z B k n h pc' Ls (.double (FP.l2d x1) :: st)) : Go Q Z B k n h pc Ls (.long x1 :: st) := fun x T P => by
  subst hp; exact lift (fun t q => XS.l2dS P.here P.ex rfl (P.d hd) rfl rfl q) (r x T P)
theorem Go.dcmp (pc' : Nat) (hp : pc + 1 = pc') {o : CmpOp} {x1 y1 : UInt64} (v : Int32) (hd : decode B.by pc = .ok (.dcmp o, 1)) (hv : cmpValue (FP.dcmp x1 y1) o = v) (r : Go Q Z B k n h pc' Ls (.int v :: st)) : Go Q Z B k n h pc Ls (.double y1 :: .double x1 :: st) := fun x T P => by
  subst hp; exact lift (fun t q => XS.dcmpS P.here P.ex rfl (P.d hd) rfl hv q) (r x T P)
theorem Go.ddiv (pc' : Nat) (hp : pc + 1 = pc') {x1 y1 : UInt64} (hd : decode B.by pc = .ok (.ddiv, 1)) (hn : Jvm.Free.Fl.NoNaN64 (FP.ddiv x1 y1)) (r : Go Q Z B k n h pc' Ls (.double (FP.ddiv x1 y1) :: st)) : Go Q Z B k n h pc Ls (.double y1 :: .double x1 :: st) := fun x T P => by
  subst hp; exact lift (fun t q => XS.ddivS P.here P.ex rfl (P.d hd) rfl hn rfl q) (r x T P)
theorem Go.dup (pc' : Nat) (hp : pc + 1 = pc') {v : Value} (hd : decode B.by pc = .ok (.dup, 1)) (hc : v.category = 1) (r : Go Q Z B k n h pc' Ls (v :: v :: st)) : Go Q Z B k n h pc Ls (v :: st) := fun x T P => by
  subst hp; exact lift (fun t q => XS.dup P.here P.ex rfl (P.d hd) rfl hc q) (r x T P)
theorem Go.pop (pc' : Nat) (hp : pc + 1 = pc') {v : Value} (hd : decode B.by pc = .ok (.pop, 1)) (hc : v.category = 1) (r : Go Q Z B k n h pc' Ls (st)) : Go Q Z B k n h pc Ls (v :: st) := fun x T P => by
  subst hp; exact lift (fun t q => XT.pop P.here P.ex rfl (P.d hd) rfl hc q) (r x T P)
theorem Go.dupX1 (pc' : Nat) (hp : pc + 1 = pc') {v w : Value} (hd : decode B.by pc = .ok (.dup_x1, 1)) (hc : v.category = 1) (hc' : w.category = 1) (r : Go Q Z B k n h pc' Ls (v :: w :: v :: st)) : Go Q Z B k n h pc Ls (v :: w :: st) := fun x T P => by
  subst hp; exact lift (fun t q => XT.dupX1 P.here P.ex rfl (P.d hd) rfl hc hc' q) (r x T P)
theorem Go.dup2 (pc' : Nat) (hp : pc + 1 = pc') {v w : Value} (hd : decode B.by pc = .ok (.dup2, 1)) (hc : v.category = 1) (hc' : w.category = 1) (r : Go Q Z B k n h pc' Ls (v :: w :: v :: w :: st)) : Go Q Z B k n h pc Ls (v :: w :: st) := fun x T P => by
  subst hp; exact lift (fun t q => XT.dup2 P.here P.ex rfl (P.d hd) rfl hc hc' q) (r x T P)
theorem Go.dup2L (pc' : Nat) (hp : pc + 1 = pc') {v : Int64} (hd : decode B.by pc = .ok (.dup2, 1))  (r : Go Q Z B k n h pc' Ls (.long v :: .long v :: st)) : Go Q Z B k n h pc Ls (.long v :: st) := fun x T P => by
  subst hp; exact lift (fun t q => XT.dup2L P.here P.ex rfl (P.d hd) rfl q) (r x T P)
theorem Go.iinc (pc' : Nat) (hp : pc + 3 = pc') {i : Nat} {cst : Int} {x1 : Int32} (v : Int32) (hd : decode B.by pc = .ok (.iinc i cst, 3)) (hv : Int32.ofInt cst = v) (hl : Ls[i]? = some (.val (.int x1))) (hl' : storeLocals Ls i (.int (x1 + v)) = some Ls') (r : Go Q Z B k n h pc' Ls' (st)) : Go Q Z B k n h pc Ls (st) := fun x T P => by
  subst hp; exact lift (fun t q => XT.iincV P.here P.ex rfl v (P.d hd) hv hl hl' q) (r x T P)
theorem Go.irem (pc' : Nat) (hp : pc + 1 = pc') {x1 y1 : Int32} (hd : decode B.by pc = .ok (.irem, 1)) (hy : y1 ≠ 0) (r : Go Q Z B k n h pc' Ls (.int (x1 % y1) :: st)) : Go Q Z B k n h pc Ls (.int y1 :: .int x1 :: st) := fun x T P => by
  subst hp; obtain ⟨_, _, _, X, _⟩ := id P; exact lift (fun t q => iremM X P.ex rfl (P.d hd) rfl hy q) (r x T P)
theorem Go.goto (pc' : Nat) {o : Int} (hd : decode B.by pc = .ok (.goto o, 3)) (h0 : 0 ≤ (pc : Int) + o) (hp : ((pc : Int) + o).toNat = pc') (r : Go Q Z B k n h pc' Ls st) : Go Q Z B k n h pc Ls st := fun x T P =>
  lift (fun t q => XS.goto P.here P.ex rfl (pc0 := pc) rfl (P.d hd) h0 hp q) (r x T P)
theorem Go.icmp_lt (pT pF : Nat) {x1 y1 : Int32} {o : Int} (hd : decode B.by pc = .ok (.if_icmp .lt o, 3)) (h0 : 0 ≤ (pc : Int) + o) (hT : ((pc : Int) + o).toNat = pT) (hF : pc + 3 = pF) (rT : x1 < y1 → Go Q Z B k n h pT Ls st) (rF : ¬ x1 < y1 → Go Q Z B k n h pF Ls st) : Go Q Z B k n h pc Ls (.int y1 :: .int x1 :: st) := fun x T P => by
  subst hF
  by_cases c : x1 < y1
  · exact lift (fun t q => XS.icmpYes P.here P.ex rfl (pc0 := pc) rfl (P.d hd) rfl (tlt c).1 h0 hT q) (rT c x T P)
  · exact lift (fun t q => XS.icmpNo P.here P.ex rfl (P.d hd) rfl (flt c).1 q) (rF c x T P)
theorem Go.if_lt (pT pF : Nat) {x1 : Int32} {o : Int} (hd : decode B.by pc = .ok (.ifCond .lt o, 3)) (h0 : 0 ≤ (pc : Int) + o) (hT : ((pc : Int) + o).toNat = pT) (hF : pc + 3 = pF) (rT : x1 < 0 → Go Q Z B k n h pT Ls st) (rF : ¬ x1 < 0 → Go Q Z B k n h pF Ls st) : Go Q Z B k n h pc Ls (.int x1 :: st) := fun x T P => by
  subst hF
  by_cases c : x1 < 0
  · exact lift (fun t q => XS.ifYes P.here P.ex rfl (pc0 := pc) rfl (P.d hd) rfl ((if0 _ _).trans (tlt c).1) h0 hT q) (rT c x T P)
  · exact lift (fun t q => XS.ifNo P.here P.ex rfl (P.d hd) rfl ((if0 _ _).trans (flt c).1) q) (rF c x T P)
theorem Go.icmp_ge (pT pF : Nat) {x1 y1 : Int32} {o : Int} (hd : decode B.by pc = .ok (.if_icmp .ge o, 3)) (h0 : 0 ≤ (pc : Int) + o) (hT : ((pc : Int) + o).toNat = pT) (hF : pc + 3 = pF) (rT : ¬ x1 < y1 → Go Q Z B k n h pT Ls st) (rF : x1 < y1 → Go Q Z B k n h pF Ls st) : Go Q Z B k n h pc Ls (.int y1 :: .int x1 :: st) := fun x T P => by
  subst hF
  by_cases c : ¬ x1 < y1
  · exact lift (fun t q => XS.icmpYes P.here P.ex rfl (pc0 := pc) rfl (P.d hd) rfl (flt c).2.1 h0 hT q) (rT c x T P)
  · replace c := Decidable.not_not.mp c
    exact lift (fun t q => XS.icmpNo P.here P.ex rfl (P.d hd) rfl (tlt c).2.1 q) (rF c x T P)
theorem Go.if_ge (pT pF : Nat) {x1 : Int32} {o : Int} (hd : decode B.by pc = .ok (.ifCond .ge o, 3)) (h0 : 0 ≤ (pc : Int) + o) (hT : ((pc : Int) + o).toNat = pT) (hF : pc + 3 = pF) (rT : ¬ x1 < 0 → Go Q Z B k n h pT Ls st) (rF : x1 < 0 → Go Q Z B k n h pF Ls st) : Go Q Z B k n h pc Ls (.int x1 :: st) := fun x T P => by
  subst hF
  by_cases c : ¬ x1 < 0
  · exact lift (fun t q => XS.ifYes P.here P.ex rfl (pc0 := pc) rfl (P.d hd) rfl ((if0 _ _).trans (flt c).2.1) h0 hT q) (rT c x T P)
  · replace c := Decidable.not_not.mp c
    exact lift (fun t q => XS.ifNo P.here P.ex rfl (P.d hd) rfl ((if0 _ _).trans (tlt c).2.1) q) (rF c x T P)
theorem Go.icmp_gt (pT pF : Nat) {x1 y1 : Int32} {o : Int} (hd : decode B.by pc = .ok (.if_icmp .gt o, 3)) (h0 : 0 ≤ (pc : Int) + o) (hT : ((pc : Int) + o).toNat = pT) (hF : pc + 3 = pF) (rT : y1 < x1 → Go Q Z B k n h pT Ls st) (rF : ¬ y1 < x1 → Go Q Z B k n h pF Ls st) : Go Q Z B k n h pc Ls (.int y1 :: .int x1 :: st) := fun x T P => by
  subst hF
  by_cases c : y1 < x1
  · exact lift (fun t q => XS.icmpYes P.here P.ex rfl (pc0 := pc) rfl (P.d hd) rfl (tlt c).2.2.1 h0 hT q) (rT c x T P)
  · exact lift (fun t q => XS.icmpNo P.here P.ex rfl (P.d hd) rfl (flt c).2.2.1 q) (rF c x T P)
theorem Go.if_gt (pT pF : Nat) {x1 : Int32} {o : Int} (hd : decode B.by pc = .ok (.ifCond .gt o, 3)) (h0 : 0 ≤ (pc : Int) + o) (hT : ((pc : Int) + o).toNat = pT) (hF : pc + 3 = pF) (rT : 0 < x1 → Go Q Z B k n h pT Ls st) (rF : ¬ 0 < x1 → Go Q Z B k n h pF Ls st) : Go Q Z B k n h pc Ls (.int x1 :: st) := fun x T P => by
  subst hF
  by_cases c : 0 < x1
  · exact lift (fun t q => XS.ifYes P.here P.ex rfl (pc0 := pc) rfl (P.d hd) rfl ((if0 _ _).trans (tlt c).2.2.1) h0 hT q) (rT c x T P)
  · exact lift (fun t q => XS.ifNo P.here P.ex rfl (P.d hd) rfl ((if0 _ _).trans (flt c).2.2.1) q) (rF c x T P)
theorem Go.icmp_le (pT pF : Nat) {x1 y1 : Int32} {o : Int} (hd : decode B.by pc = .ok (.if_icmp .le o, 3)) (h0 : 0 ≤ (pc : Int) + o) (hT : ((pc : Int) + o).toNat = pT) (hF : pc + 3 = pF) (rT : ¬ y1 < x1 → Go Q Z B k n h pT Ls st) (rF : y1 < x1 → Go Q Z B k n h pF Ls st) : Go Q Z B k n h pc Ls (.int y1 :: .int x1 :: st) := fun x T P => by
  subst hF
  by_cases c : ¬ y1 < x1
  · exact lift (fun t q => XS.icmpYes P.here P.ex rfl (pc0 := pc) rfl (P.d hd) rfl (flt c).2.2.2 h0 hT q) (rT c x T P)
  · replace c := Decidable.not_not.mp c
    exact lift (fun t q => XS.icmpNo P.here P.ex rfl (P.d hd) rfl (tlt c).2.2.2 q) (rF c x T P)
theorem Go.if_le (pT pF : Nat) {x1 : Int32} {o : Int} (hd : decode B.by pc = .ok (.ifCond .le o, 3)) (h0 : 0 ≤ (pc : Int) + o) (hT : ((pc : Int) + o).toNat = pT) (hF : pc + 3 = pF) (rT : ¬ 0 < x1 → Go Q Z B k n h pT Ls st) (rF : 0 < x1 → Go Q Z B k n h pF Ls st) : Go Q Z B k n h pc Ls (.int x1 :: st) := fun x T P => by
  subst hF
  by_cases c : ¬ 0 < x1
  · exact lift (fun t q => XS.ifYes P.here P.ex rfl (pc0 := pc) rfl (P.d hd) rfl ((if0 _ _).trans (flt c).2.2.2) h0 hT q) (rT c x T P)
  · replace c := Decidable.not_not.mp c
    exact lift (fun t q => XS.ifNo P.here P.ex rfl (P.d hd) rfl ((if0 _ _).trans (tlt c).2.2.2) q) (rF c x T P)
theorem Go.icmp_eq (pT pF : Nat) {x1 y1 : Int32} {o : Int} (hd : decode B.by pc = .ok (.if_icmp .eq o, 3)) (h0 : 0 ≤ (pc : Int) + o) (hT : ((pc : Int) + o).toNat = pT) (hF : pc + 3 = pF) (rT : x1 = y1 → Go Q Z B k n h pT Ls st) (rF : ¬ x1 = y1 → Go Q Z B k n h pF Ls st) : Go Q Z B k n h pc Ls (.int y1 :: .int x1 :: st) := fun x T P => by
  subst hF
  by_cases c : x1 = y1
  · exact lift (fun t q => XS.icmpYes P.here P.ex rfl (pc0 := pc) rfl (P.d hd) rfl (teq c).1 h0 hT q) (rT c x T P)
  · exact lift (fun t q => XS.icmpNo P.here P.ex rfl (P.d hd) rfl (feq c).1 q) (rF c x T P)
theorem Go.if_eq (pT pF : Nat) {x1 : Int32} {o : Int} (hd : decode B.by pc = .ok (.ifCond .eq o, 3)) (h0 : 0 ≤ (pc : Int) + o) (hT : ((pc : Int) + o).toNat = pT) (hF : pc + 3 = pF) (rT : x1 = 0 → Go Q Z B k n h pT Ls st) (rF : ¬ x1 = 0 → Go Q Z B k n h pF Ls st) : Go Q Z B k n h pc Ls (.int x1 :: st) := fun x T P => by
  subst hF
  by_cases c : x1 = 0
  · exact lift (fun t q => XS.ifYes P.here P.ex rfl (pc0 := pc) rfl (P.d hd) rfl ((if0 _ _).trans (teq c).1) h0 hT q) (rT c x T P)
  · exact lift (fun t q => XS.ifNo P.here P.ex rfl (P.d hd) rfl ((if0 _ _).trans (feq c).1) q) (rF c x T P)
theorem Go.icmp_ne (pT pF : Nat) {x1 y1 : Int32} {o : Int} (hd : decode B.by pc = .ok (.if_icmp .ne o, 3)) (h0 : 0 ≤ (pc : Int) + o) (hT : ((pc : Int) + o).toNat = pT) (hF : pc + 3 = pF) (rT : ¬ x1 = y1 → Go Q Z B k n h pT Ls st) (rF : x1 = y1 → Go Q Z B k n h pF Ls st) : Go Q Z B k n h pc Ls (.int y1 :: .int x1 :: st) := fun x T P => by
  subst hF
  by_cases c : ¬ x1 = y1
  · exact lift (fun t q => XS.icmpYes P.here P.ex rfl (pc0 := pc) rfl (P.d hd) rfl (feq c).2 h0 hT q) (rT c x T P)
  · replace c := Decidable.not_not.mp c
    exact lift (fun t q => XS.icmpNo P.here P.ex rfl (P.d hd) rfl (teq c).2 q) (rF c x T P)
theorem Go.if_ne (pT pF : Nat) {x1 : Int32} {o : Int} (hd : decode B.by pc = .ok (.ifCond .ne o, 3)) (h0 : 0 ≤ (pc : Int) + o) (hT : ((pc : Int) + o).toNat = pT) (hF : pc + 3 = pF) (rT : ¬ x1 = 0 → Go Q Z B k n h pT Ls st) (rF : x1 = 0 → Go Q Z B k n h pF Ls st) : Go Q Z B k n h pc Ls (.int x1 :: st) := fun x T P => by
  subst hF
  by_cases c : ¬ x1 = 0
  · exact lift (fun t q => XS.ifYes P.here P.ex rfl (pc0 := pc) rfl (P.d hd) rfl ((if0 _ _).trans (feq c).2) h0 hT q) (rT c x T P)
  · replace c := Decidable.not_not.mp c
    exact lift (fun t q => XS.ifNo P.here P.ex rfl (P.d hd) rfl ((if0 _ _).trans (teq c).2) q) (rF c x T P)
theorem Go.ifnull_r (pF : Nat) {o : Int} {b : Addr} (hd : decode B.by pc = .ok (.ifnull o, 3)) (hF : pc + 3 = pF) (r : Go Q Z B k n h pF Ls st) : Go Q Z B k n h pc Ls (.ref b :: st) := fun x T P => by
  subst hF; exact lift (fun t q => XS.ifnullNo P.here P.ex rfl (P.d hd) rfl q) (r x T P)
theorem Go.ifnull_n (pT : Nat) {o : Int} (hd : decode B.by pc = .ok (.ifnull o, 3)) (h0 : 0 ≤ (pc : Int) + o) (hT : ((pc : Int) + o).toNat = pT) (r : Go Q Z B k n h pT Ls st) : Go Q Z B k n h pc Ls (.null :: st) := fun x T P =>
  lift (fun t q => XS.ifnullYes P.here P.ex rfl (pc0 := pc) rfl (P.d hd) rfl h0 hT q) (r x T P)
theorem Go.ifnonnull_r (pT : Nat) {o : Int} {b : Addr} (hd : decode B.by pc = .ok (.ifnonnull o, 3)) (h0 : 0 ≤ (pc : Int) + o) (hT : ((pc : Int) + o).toNat = pT) (r : Go Q Z B k n h pT Ls st) : Go Q Z B k n h pc Ls (.ref b :: st) := fun x T P =>
  lift (fun t q => XT.ifnonnullYes P.here P.ex rfl (pc0 := pc) rfl (P.d hd) rfl h0 hT q) (r x T P)
theorem Go.ifnonnull_n (pF : Nat) {o : Int} (hd : decode B.by pc = .ok (.ifnonnull o, 3)) (hF : pc + 3 = pF) (r : Go Q Z B k n h pF Ls st) : Go Q Z B k n h pc Ls (.null :: st) := fun x T P => by
  subst hF; exact lift (fun t q => XT.ifnonnullNo P.here P.ex rfl (P.d hd) rfl q) (r x T P)
theorem Go.acmp_eq (pT pF : Nat) {v w : Value} {o : Int} (hd : decode B.by pc = .ok (.if_acmp .eq o, 3)) (h0 : 0 ≤ (pc : Int) + o) (hT : ((pc : Int) + o).toNat = pT) (hF : pc + 3 = pF) (hv : v.isRef = true) (hw : w.isRef = true) (rT : v = w → Go Q Z B k n h pT Ls st) (rF : ¬ v = w → Go Q Z B k n h pF Ls st) : Go Q Z B k n h pc Ls (w :: v :: st) := fun x T P => by
  subst hF
  by_cases c : v = w
  · exact lift (fun t q => XT.acmpYes P.here P.ex rfl (pc0 := pc) rfl (P.d hd) rfl hv hw (XT.aa_eq_t c) h0 hT q) (rT c x T P)
  · exact lift (fun t q => XT.acmpNo P.here P.ex rfl (P.d hd) rfl hv hw (XT.aa_eq_f c) q) (rF c x T P)
theorem Go.acmp_ne (pT pF : Nat) {v w : Value} {o : Int} (hd : decode B.by pc = .ok (.if_acmp .ne o, 3)) (h0 : 0 ≤ (pc : Int) + o) (hT : ((pc : Int) + o).toNat = pT) (hF : pc + 3 = pF) (hv : v.isRef = true) (hw : w.isRef = true) (rT : ¬ v = w → Go Q Z B k n h pT Ls st) (rF : v = w → Go Q Z B k n h pF Ls st) : Go Q Z B k n h pc Ls (w :: v :: st) := fun x T P => by
  subst hF
  by_cases c : ¬ v = w
  · exact lift (fun t q => XT.acmpYes P.here P.ex rfl (pc0 := pc) rfl (P.d hd) rfl hv hw (XT.aa_ne_t c) h0 hT q) (rT c x T P)
  · replace c := Decidable.not_not.mp c
    exact lift (fun t q => XT.acmpNo P.here P.ex rfl (P.d hd) rfl hv hw (XT.aa_ne_f c) q) (rF c x T P)
theorem En.zz (E : En Z x B) : Z.Warmed39 x.s.vm := E.2.2.2.2.2.2.1
theorem En.own (E : En Z x B) : x.s.vm.findClass B.y.cls = some x.m.cls := E.2.2.2.1
theorem En.ml (E : En Z x B) : x.c.maxLocals = B.ml := E.2.2.1
theorem En.rt (E : En Z x B) : x.meth.sig.returnType = B.rt := E.2.2.2.2.2.1
theorem En.nl (E : En Z x B) : x.meth.locks = false := E.2.2.2.2.2.2.2.1
/-! ## constants of the pool -/
theorem Go.ldcI (pc' : Nat) (hp : pc + 2 = pc') {ix : Nat} {v : Int32} (i : Nat) (hd : decode B.by pc = .ok (.ldc ix, 2)) (w : B.tb[i]? = some (.constant B.y.cls ix v)) (r : Go Q Z B k n h pc' Ls (.int v :: st)) : Go Q Z B k n h pc Ls st := fun x T P => by
  subst hp
  obtain ⟨a0, hw⟩ := P.wd.w
  obtain ⟨E, _, _, X, _⟩ := id P
  exact lift (fun t q => X.ldcI P.ex E.own (mv E.zz (hw w)) rfl (P.d hd) q) (r x T P)
theorem Go.ldcWI (pc' : Nat) (hp : pc + 3 = pc') {ix : Nat} {v : Int32} (i : Nat) (hd : decode B.by pc = .ok (.ldc_w ix, 3)) (w : B.tb[i]? = some (.constant B.y.cls ix v)) (r : Go Q Z B k n h pc' Ls (.int v :: st)) : Go Q Z B k n h pc Ls st := fun x T P => by
  subst hp
  obtain ⟨a0, hw⟩ := P.wd.w
  obtain ⟨E, _, _, X, _⟩ := id P
  exact lift (fun t q => X.ldcWI P.ex E.own (mv E.zz (hw w)) rfl (P.d hd) q) (r x T P)
theorem Go.ldc2J (pc' : Nat) (hp : pc + 3 = pc') {ix : Nat} {v : Int64} (i : Nat) (hd : decode B.by pc = .ok (.ldc2_w ix, 3)) (w : B.tb[i]? = some (.constantLong B.y.cls ix v)) (r : Go Q Z B k n h pc' Ls (.long v :: st)) : Go Q Z B k n h pc Ls st := fun x T P => by
  subst hp
  obtain ⟨a0, hw⟩ := P.wd.w
  obtain ⟨E, _, _, X, _⟩ := id P
  exact lift (fun t q => X.ldc2J P.ex E.own (mv E.zz (hw w)) rfl (P.d hd) q) (r x T P)
theorem Go.ldc2D (pc' : Nat) (hp : pc + 3 = pc') {ix : Nat} {v : UInt64} (i : Nat) (hd : decode B.by pc = .ok (.ldc2_w ix, 3)) (w : B.tb[i]? = some (.constantDouble B.y.cls ix v)) (r : Go Q Z B k n h pc' Ls (.double v :: st)) : Go Q Z B k n h pc Ls st := fun x T P => by
  subst hp
  obtain ⟨a0, hw⟩ := P.wd.w
  obtain ⟨E, _, _, X, _⟩ := id P
  exact lift (fun t q => X.ldc2DoubleC P.ex E.own (mv E.zz (hw w)) (g := mkF x.m pc Ls st) rfl (P.d hd) t q) (r x T P)
/-! ## objects -/
theorem ltN {a : Addr} {m : Nat} (q : @LT.lt Nat instLTNat a m) : @LT.lt Nat instLTNat a m := q
theorem keep_ext (E : Ext h h') : Keep h h' [] := (Keep.refl h []).ext E
theorem keep_wr {a : Addr} {sl : Nat} {v : Value} (W : Wr h h' a sl v) : Keep h h' [a] := Keep.of_wr W
theorem ext_keep {H : Heap} {ws : List Addr} (E : Ext H h) (K : Keep h h' ws) (q : ∀ y ∈ ws, H.size ≤ y) : Ext H h' :=
  ⟨Nat.le_trans E.1 K.1, fun y c r => K.2.1 y c (E.2 y c r) fun z => absurd (Array.getElem?_eq_some_iff.mp r).1 (Nat.not_lt.mpr (q y z))⟩
theorem ge1 {H : Nat} {a : Addr} (q : H ≤ a) : ∀ y ∈ [a], H ≤ y := allS q all0
theorem fr_snoc {K : Nat} {locs : List Loc} {a : Addr} {sl : Nat} (N : Fr K locs) (q : K ≤ a) : Fr K (locs ++ [⟨a, sl⟩]) := N.app fun y hy => by cases List.mem_singleton.mp hy; exact q
theorem Go.newO (pc' : Nat) (hp : pc + 3 = pc') {C : String} {ix sz : Nat} (i1 i2 i3 : Nat) (hd : decode B.by pc = .ok (.new ix, 3)) (w1 : B.tb[i1]? = some (.classLink B.y.cls ix C)) (w2 : B.tb[i2]? = some (.instantiable C sz)) (w3 : B.tb[i3]? = some (.initialized C)) (hc : k + 1 ≤ B.R.cells) (hl : n + sz ≤ B.R.slots)
    (r : ∀ (h' : Heap) (a : Addr), @Eq Nat a h.size → Z.heap.size ≤ a → Keep h h' [] → Exa Z h' a C → (∀ (i : Nat) {O nm d : String} {ty : FieldType}, B.tb[i]? = some (.lays C O nm d) ∨ B.tb[i]? = some (.laysFinal C O nm d) → parseFieldDescriptor d = some ty → Fld Z h' a O nm d (defaultValue ty)) → Go Q Z B (k + 1) (n + sz) h' pc' Ls (.ref a :: st)) : Go Q Z B k n h pc Ls st := fun x T P => by
  subst hp
  obtain ⟨a0, hw⟩ := P.wd.w
  obtain ⟨E, O', locs, X, e, N⟩ := id P
  obtain ⟨T', h', X', e', Ex, A, D, -, s'⟩ := RoadKit.newO X P.ex E.zz E.own (hw w1) (hw w2) (hw w3) e (g := mkF x.m pc Ls st) rfl (P.d hd) hc hl
  exact lift s' (r h' h.size rfl P.le (keep_ext Ex) A (fun i {O nm d ty} q ht => D (q.imp (fun z => hw z) (fun z => hw z)) ht) x T' ⟨E, ⟨Nat.le_trans O'.1 Ex.1, fun y c q => Ex.2 y c (O'.2 y c q)⟩, locs, X', e', N⟩)
theorem Go.getF (pc' : Nat) (hp : pc + 3 = pc') {O nm d : String} {ix : Nat} {a : Addr} {v : Value} (i : Nat) (hd : decode B.by pc = .ok (.getfield ix, 3)) (w : B.tb[i]? = some (.fieldLink B.y.cls ix O nm d)) (F : Fld Z h a O nm d v) (r : Go Q Z B k n h pc' Ls (v :: st)) : Go Q Z B k n h pc Ls (.ref a :: st) := fun x T P => by
  subst hp
  obtain ⟨a0, hw⟩ := P.wd.w
  obtain ⟨E, O', locs, X, e, N⟩ := id P
  obtain ⟨T', X', e', s'⟩ := RoadKit.getF X P.ex E.zz E.own (host := "") (Or.inl (hw w)) Via.refl e F (g := mkF x.m pc Ls (.ref a :: st)) rfl rfl (P.d hd)
  exact lift s' (r x T' ⟨E, O', locs, X', e', N⟩)
theorem Go.getFN (pc' : Nat) (hp : pc + 3 = pc') {O nm d host : String} {ix : Nat} {a : Addr} {v : Value} (i : Nat) (hd : decode B.by pc = .ok (.getfield ix, 3)) (w : B.tb[i]? = some (.fieldLinkNest B.y.cls ix O nm d host)) (F : Fld Z h a O nm d v) (r : Go Q Z B k n h pc' Ls (v :: st)) : Go Q Z B k n h pc Ls (.ref a :: st) := fun x T P => by
  subst hp
  obtain ⟨a0, hw⟩ := P.wd.w
  obtain ⟨E, O', locs, X, e, N⟩ := id P
  obtain ⟨T', X', e', s'⟩ := RoadKit.getF X P.ex E.zz E.own (host := host) (Or.inr (hw w)) Via.refl e F (g := mkF x.m pc Ls (.ref a :: st)) rfl rfl (P.d hd)
  exact lift s' (r x T' ⟨E, O', locs, X', e', N⟩)
theorem Go.getFV (pc' : Nat) (hp : pc + 3 = pc') {R0 O nm d : String} {ix : Nat} {a : Addr} {v : Value} (i j : Nat) (hd : decode B.by pc = .ok (.getfield ix, 3)) (w : B.tb[i]? = some (.fieldLink B.y.cls ix R0 nm d)) (w2 : B.tb[j]? = some (.sameField R0 O nm d)) (F : Fld Z h a O nm d v) (r : Go Q Z B k n h pc' Ls (v :: st)) : Go Q Z B k n h pc Ls (.ref a :: st) := fun x T P => by
  subst hp
  obtain ⟨a0, hw⟩ := P.wd.w
  obtain ⟨E, O', locs, X, e, N⟩ := id P
  obtain ⟨T', X', e', s'⟩ := RoadKit.getF X P.ex E.zz E.own (host := "") (Or.inl (hw w)) (Via.of (hw w2)) e F (g := mkF x.m pc Ls (.ref a :: st)) rfl rfl (P.d hd)
  exact lift s' (r x T' ⟨E, O', locs, X', e', N⟩)
theorem Go.putF (pc' : Nat) (hp : pc + 3 = pc') {C O nm d : String} {ix sz : Nat} {ty : FieldType} {a : Addr} {v v' old : Value} (i1 i2 i3 : Nat) (hd : decode B.by pc = .ok (.putfield ix, 3)) (w1 : B.tb[i1]? = some (.fieldLink B.y.cls ix O nm d)) (F : Fld Z h a O nm d old) (Ea : Exa Z h a C)
    (L : B.tb[i2]? = some (.lays C O nm d) ∨ (B.tb[i2]? = some (.laysFinal C O nm d) ∧ B.y.cls = O ∧ B.y.name = "<init>")) (w3 : B.tb[i3]? = some (.instantiable C sz)) (hty : parseFieldDescriptor d = some ty) (hn : narrow ty v = v') (hf : fits ty v' = true) (ge : Z.heap.size ≤ a)
    (r : ∀ h' : Heap, Keep h h' [a] → Wr h h' a (RoadKit.slotOf Z O nm d) v' → Fld Z h' a O nm d v' → Go Q Z B k n h' pc' Ls st) : Go Q Z B k n h pc Ls (v :: .ref a :: st) := fun x T P => by
  subst hp
  obtain ⟨a0, hw⟩ := P.wd.w
  obtain ⟨E, O', locs, X, e, N⟩ := id P
  obtain ⟨T', h', X', e', W, s'⟩ := putFN X P.ex E.zz E.own (hw w1) Via.refl e F Ea (L.imp (fun z => hw z) (fun z => ⟨hw z.1, z.2.1, E.2.2.2.2.1.trans z.2.2⟩)) (hw w3) hty hn hf (g := mkF x.m pc Ls (v :: .ref a :: st)) rfl rfl (P.d hd)
  exact lift s' (r h' (keep_wr W) W (F.same W) x T' ⟨E, ext_keep O' (keep_wr W) (ge1 ge), _, X', e', fr_snoc N ge⟩)
theorem Go.putFV (pc' : Nat) (hp : pc + 3 = pc') {R0 C O nm d : String} {ix sz : Nat} {ty : FieldType} {a : Addr} {v v' old : Value} (i1 i2 i3 i4 : Nat) (hd : decode B.by pc = .ok (.putfield ix, 3)) (w1 : B.tb[i1]? = some (.fieldLink B.y.cls ix R0 nm d)) (w4 : B.tb[i4]? = some (.sameField R0 O nm d)) (F : Fld Z h a O nm d old) (Ea : Exa Z h a C)
    (L : B.tb[i2]? = some (.lays C O nm d) ∨ (B.tb[i2]? = some (.laysFinal C O nm d) ∧ B.y.cls = O ∧ B.y.name = "<init>")) (w3 : B.tb[i3]? = some (.instantiable C sz)) (hty : parseFieldDescriptor d = some ty) (hn : narrow ty v = v') (hf : fits ty v' = true) (ge : Z.heap.size ≤ a)
    (r : ∀ h' : Heap, Keep h h' [a] → Wr h h' a (RoadKit.slotOf Z O nm d) v' → Fld Z h' a O nm d v' → Go Q Z B k n h' pc' Ls st) : Go Q Z B k n h pc Ls (v :: .ref a :: st) := fun x T P => by
  subst hp
  obtain ⟨a0, hw⟩ := P.wd.w
  obtain ⟨E, O', locs, X, e, N⟩ := id P
  obtain ⟨T', h', X', e', W, s'⟩ := putFN X P.ex E.zz E.own (hw w1) (Via.of (hw w4)) e F Ea (L.imp (fun z => hw z) (fun z => ⟨hw z.1, z.2.1, E.2.2.2.2.1.trans z.2.2⟩)) (hw w3) hty hn hf (g := mkF x.m pc Ls (v :: .ref a :: st)) rfl rfl (P.d hd)
  exact lift s' (r h' (keep_wr W) W (F.same W) x T' ⟨E, ext_keep O' (keep_wr W) (ge1 ge), _, X', e', fr_snoc N ge⟩)
/-- another field of the object that was written -/
theorem Fld.oth {C O nm d O2 nm2 d2 : String} {tb : List Cond} {a b : Addr} {v w : Value} {t t' : FieldType} (hw : Wd Z tb) (F : Fld Z h b O nm d w) (W : Wr h h' a (RoadKit.slotOf Z O2 nm2 d2) v) (i j : Nat) (L1 : tb[i]? = some (.lays C O nm d) ∨ tb[i]? = some (.laysFinal C O nm d)) (L2 : tb[j]? = some (.lays C O2 nm2 d2) ∨ tb[j]? = some (.laysFinal C O2 nm2 d2))
    (hn : nm ≠ nm2) (ht : parseFieldDescriptor d = some t) (ht' : parseFieldDescriptor d2 = some t') : Fld Z h' b O nm d w := by
  obtain ⟨a0, hw⟩ := hw.w
  exact F.other W (Or.inr (RoadKit.slot_ne (a0 := a0) (L1.imp (fun z => hw z) (fun z => hw z)) (L2.imp (fun z => hw z) (fun z => hw z)) hn ht ht'))
theorem Go.getS (pc' : Nat) (hp : pc + 3 = pc') {O nm d : String} {ix : Nat} {v : Value} (i : Nat) (hd : decode B.by pc = .ok (.getstatic ix, 3)) (w : B.tb[i]? = some (.fieldLink B.y.cls ix O nm d)) (F : Sta Z Z.heap O nm d v) (r : Go Q Z B k n h pc' Ls (v :: st)) : Go Q Z B k n h pc Ls st := fun x T P => by
  subst hp
  obtain ⟨a0, hw⟩ := P.wd.w
  obtain ⟨E, O', locs, X, e, N⟩ := id P
  obtain ⟨T', X', e', s'⟩ := RoadKit.getS X P.ex E.zz (host := "") E.own (hw w) Via.refl e (F.ext O') (g := mkF x.m pc Ls st) rfl (P.d hd)
  exact lift s' (r x T' ⟨E, O', locs, X', e', N⟩)
theorem Go.getSN (pc' : Nat) (hp : pc + 3 = pc') {O nm d host : String} {ix : Nat} {v : Value} (i : Nat) (hd : decode B.by pc = .ok (.getstatic ix, 3)) (w : B.tb[i]? = some (.fieldLinkNest B.y.cls ix O nm d host)) (F : Sta Z Z.heap O nm d v) (r : Go Q Z B k n h pc' Ls (v :: st)) : Go Q Z B k n h pc Ls st := fun x T P => by
  subst hp
  obtain ⟨a0, hw⟩ := P.wd.w
  obtain ⟨E, O', locs, X, e, N⟩ := id P
  obtain ⟨T', X', e', s'⟩ := getS2 X P.ex E.zz (host := host) E.own (Or.inr (hw w)) Via.refl e (F.ext O') (g := mkF x.m pc Ls st) rfl (P.d hd)
  exact lift s' (r x T' ⟨E, O', locs, X', e', N⟩)
theorem Go.castY (pc' : Nat) (hp : pc + 3 = pc') {K : String} {ix : Nat} {a : Addr} (i : Nat) (hd : decode B.by pc = .ok (.checkcast ix, 3)) (w : B.tb[i]? = some (.classLink B.y.cls ix K)) (F : Ins Z h a K true) (r : Go Q Z B k n h pc' Ls (.ref a :: st)) : Go Q Z B k n h pc Ls (.ref a :: st) := fun x T P => by
  subst hp
  obtain ⟨a0, hw⟩ := P.wd.w
  obtain ⟨E, O', locs, X, e, N⟩ := id P
  obtain ⟨T', X', e', s'⟩ := RoadKit.castY X P.ex E.zz E.own (hw w) e F (g := mkF x.m pc Ls (.ref a :: st)) rfl rfl (P.d hd)
  exact lift s' (r x T' ⟨E, O', locs, X', e', N⟩)
theorem Go.instY (pc' : Nat) (hp : pc + 3 = pc') {K : String} {ix : Nat} {a : Addr} (i : Nat) (hd : decode B.by pc = .ok (.instanceof ix, 3)) (w : B.tb[i]? = some (.classLink B.y.cls ix K)) (F : Ins Z h a K true) (r : Go Q Z B k n h pc' Ls (.int 1 :: st)) : Go Q Z B k n h pc Ls (.ref a :: st) := fun x T P => by
  subst hp
  obtain ⟨a0, hw⟩ := P.wd.w
  obtain ⟨E, O', locs, X, e, N⟩ := id P
  obtain ⟨T', X', e', s'⟩ := RoadKit.instY X P.ex E.zz E.own (hw w) e F (g := mkF x.m pc Ls (.ref a :: st)) rfl rfl (P.d hd)
  exact lift s' (r x T' ⟨E, O', locs, X', e', N⟩)
theorem Go.instNo (pc' : Nat) (hp : pc + 3 = pc') {C K : String} {ix : Nat} {a : Addr} (i : Nat) (hd : decode B.by pc = .ok (.instanceof ix, 3)) (w : B.tb[i]? = some (.classLink B.y.cls ix K)) (Ea : Exa Z h a C) (F : ∃ c t, Z.vm.findClass C = some c ∧ Z.vm.findClass K = some t ∧ Z.vm.assignable c t = false) (r : Go Q Z B k n h pc' Ls (.int 0 :: st)) : Go Q Z B k n h pc Ls (.ref a :: st) := fun x T P => by
  subst hp
  obtain ⟨a0, hw⟩ := P.wd.w
  obtain ⟨E, O', locs, X, e, N⟩ := id P
  obtain ⟨T', X', e', s'⟩ := RoadKit.instNo X P.ex E.zz E.own (hw w) e Ea F (g := mkF x.m pc Ls (.ref a :: st)) rfl rfl (P.d hd)
  exact lift s' (r x T' ⟨E, O', locs, X', e', N⟩)
theorem Go.initO (pc' : Nat) (hp : pc + 3 = pc') {ix : Nat} {a : Addr} (i1 i2 i3 : Nat) (hd : decode B.by pc = .ok (.invokespecial ix, 3)) (w1 : B.tb[i1]? = some (.methodLink B.y.cls ix Lib.objectInit)) (w2 : B.tb[i2]? = some (.instanceMethod Lib.objectInit)) (w3 : B.tb[i3]? = some (.code Lib.objectInit ⟨#[0xb1]⟩ 1 none)) (hs : Ls.size = B.ml) (hf : 1 ≤ B.R.frames) {W : Nat} (hW : (st.map fun v => v.category).sum ≤ W) (hl : W + 12 ≤ B.R.locals)
    (r : Go Q Z B k n h pc' Ls st) : Go Q Z B k n h pc Ls (.ref a :: st) := fun x T P => by
  subst hp
  obtain ⟨a0, hw⟩ := P.wd.w
  obtain ⟨E, O', locs, X, e, N⟩ := id P
  obtain ⟨T', X', e', s'⟩ := RoadKit.initO X P.ex E.zz E.own (hw w1) (hw w2) (hw w3) e (g := mkF x.m pc Ls (.ref a :: st)) rfl (by rw [E.ml]; exact hs) rfl (P.d hd) hf (W := W) (by show 2 * 0 + _ ≤ _; omega) hl
  exact lift s' (r x T' ⟨E, O', locs, X', e', N⟩)
/-! ## arrays -/
theorem Ary.lt {a : Addr} {ty : FieldType} {vs : List Value} (A : Ary Z h a ty vs) : a < h.size := by obtain ⟨c, A, -⟩ := A; exact A.lt
theorem Ary.len {a : Addr} {ty : FieldType} {vs : List Value} (A : Ary Z h a ty vs) : vs.length < 2 ^ 31 := by obtain ⟨c, -, -, r, -⟩ := A; exact r
theorem len_ofNat {m : Nat} (hm : m < 2 ^ 31) : (Int32.ofNat m).toInt = m := Int32.toInt_ofNat_of_lt hm
theorem ofNat_zero {m : Nat} (hm : m < 2 ^ 31) : Int32.ofNat m = 0 ↔ m = 0 := by
  constructor
  · intro q; have := len_ofNat hm; rw [q] at this; have z : (0 : Int32).toInt = 0 := rfl; omega
  · intro q; subst q; rfl
theorem Ary.keep {a : Addr} {ty : FieldType} {vs : List Value} {ws : List Addr} (A : Ary Z h a ty vs) (K : Keep h h' ws) (q : a ∉ ws) : Ary Z h' a ty vs := by
  obtain ⟨c, A, r⟩ := A; exact ⟨c, ⟨K.2.1 a c A.1 q, A.2⟩, r⟩
theorem Ary.ext {a : Addr} {ty : FieldType} {vs : List Value} (E : Ext h h') (A : Ary Z h a ty vs) : Ary Z h' a ty vs := by
  obtain ⟨c, A, r⟩ := A; exact ⟨c, A.ext E, r⟩
theorem Aov.keep {a : Addr} {C : String} {ws : List Addr} (A : Aov Z h a C) (K : Keep h h' ws) : Aov Z h' a C := by
  obtain ⟨c, A, r⟩ := A; obtain ⟨c', q1, q2, -⟩ := K.2.2 a c A; exact ⟨c', q1, q2 ▸ r⟩
theorem Ins.keep {a : Addr} {C : String} {b : Bool} {ws : List Addr} (A : Ins Z h a C b) (K : Keep h h' ws) : Ins Z h' a C b := by
  obtain ⟨c, cT, A, r1, r2⟩ := A; obtain ⟨c', q1, q2, q3, -⟩ := K.2.2 a c A; exact ⟨c', cT, q1, r1, by rw [q2, q3]; exact r2⟩
theorem Sta.keepO {C nm d : String} {w : Value} (E : Ext Z.heap h) (F : Sta Z Z.heap C nm d w) : Sta Z h C nm d w := F.ext E
theorem ix_in {m : Nat} {j : Int32} (h0 : 0 ≤ j.toInt) (h1 : j.toInt < m) : ¬ (j < 0 ∨ m ≤ j.toNatClampNeg) := by
  intro q
  rcases q with q | q
  · rw [Int32.lt_iff_toInt_lt] at q; have : (0 : Int32).toInt = 0 := rfl; omega
  · have := nat_of (j := j) (by rw [Int32.lt_iff_toInt_lt]; have : (0 : Int32).toInt = 0 := rfl; omega); omega
theorem ix_nat {m : Nat} {j : Int32} (h0 : j.toInt = m) : j.toNatClampNeg = m := by
  have := nat_of (j := j) (by rw [Int32.lt_iff_toInt_lt]; have : (0 : Int32).toInt = 0 := rfl; omega); omega
theorem len_nat {m : Nat} (h : m < 2 ^ 31) : m.toInt32.toInt = m := len_toInt h
theorem slots_at {c : Cell} {vs : List Value} (e : c.slots.toList = vs) (j : Nat) : c.slots[j]? = vs[j]? := by rw [← e]; simp
theorem Go.newA (pc' : Nat) (hp : pc + 2 = pc') {aty : ArrayType} {m : Int32} (i cap N : Nat) (hd : decode B.by pc = .ok (.newarray aty, 2)) (w : B.tb[i]? = some (.arrayClass (newarray.typeOf aty))) (hN : m.toInt = N) (hcap : N ≤ cap) (hb : cap * 8 ≤ 536870912) (hc : k + 1 ≤ B.R.cells) (hl : n + cap ≤ B.R.slots)
    (r : ∀ (h' : Heap) (a : Addr), @Eq Nat a h.size → Z.heap.size ≤ a → Keep h h' [] → Ary Z h' a (newarray.typeOf aty) (List.replicate N (defaultValue (newarray.typeOf aty))) → Exa Z h' a ("[" ++ (newarray.typeOf aty).toString) → Go Q Z B (k + 1) (n + cap) h' pc' Ls (.ref a :: st)) : Go Q Z B k n h pc Ls (.int m :: st) := fun x T P => by
  subst hp
  obtain ⟨a0, hw⟩ := P.wd.w
  obtain ⟨E, O', locs, X, e, N'⟩ := id P
  have hm : ¬ m < 0 := by rw [Int32.lt_iff_toInt_lt]; have : (0 : Int32).toInt = 0 := rfl; omega
  obtain ⟨T', h', cA, X', e', Ex, A, A', s'⟩ := newPE X P.ex E.zz (hw w) e (g := mkF x.m pc Ls (.int m :: st)) rfl (P.d hd) rfl hm (cap := cap) (by rw [ix_nat hN]; exact hcap) hb hc hl rfl
  have hlen : N < 2 ^ 31 := by have := m.toInt_lt; omega
  refine lift s' (r h' h.size rfl P.le (keep_ext Ex) ⟨_, A, ?_, ?_, ?_⟩ A' x T' ⟨E, ⟨Nat.le_trans O'.1 Ex.1, fun y c q => Ex.2 y c (O'.2 y c q)⟩, locs, X', e', N'⟩)
  · show (Array.replicate _ _).toList = _
    rw [ix_nat hN, Array.toList_replicate]
  · rw [List.length_replicate]; exact hlen
  · intro v hv
    rw [List.eq_of_mem_replicate hv]
    cases aty <;> rfl
theorem Go.newR (pc' : Nat) (hp : pc + 3 = pc') {C : String} {ix : Nat} {m : Int32} (i1 i2 cap N : Nat) (hd : decode B.by pc = .ok (.anewarray ix, 3)) (w1 : B.tb[i1]? = some (.classLink B.y.cls ix C)) (w2 : B.tb[i2]? = some (.arrayOver (.object C))) (hN : m.toInt = N) (hcap : N ≤ cap) (hb : cap * 8 ≤ 536870912) (hc : k + 1 ≤ B.R.cells) (hl : n + cap ≤ B.R.slots)
    (r : ∀ (h' : Heap) (a : Addr), @Eq Nat a h.size → Z.heap.size ≤ a → Keep h h' [] → Ary Z h' a (.object C) (List.replicate N .null) → Exa Z h' a ("[" ++ (FieldType.object C).toString) → Aov Z h' a C → Go Q Z B (k + 1) (n + cap) h' pc' Ls (.ref a :: st)) : Go Q Z B k n h pc Ls (.int m :: st) := fun x T P => by
  subst hp
  obtain ⟨a0, hw⟩ := P.wd.w
  obtain ⟨E, O', locs, X, e, N'⟩ := id P
  have hm : ¬ m < 0 := by rw [Int32.lt_iff_toInt_lt]; have : (0 : Int32).toInt = 0 := rfl; omega
  obtain ⟨T', h', cA, X', e', Ex, A, A', O1, s'⟩ := newRE X P.ex E.zz E.own (hw w1) (hw w2) e (g := mkF x.m pc Ls (.int m :: st)) rfl (P.d hd) rfl hm (cap := cap) (by rw [ix_nat hN]; exact hcap) hb hc hl rfl
  have hlen : N < 2 ^ 31 := by have := m.toInt_lt; omega
  refine lift s' (r h' h.size rfl P.le (keep_ext Ex) ⟨_, A, ?_, ?_, ?_⟩ A' ⟨_, A.1, O1⟩ x T' ⟨E, ⟨Nat.le_trans O'.1 Ex.1, fun y c q => Ex.2 y c (O'.2 y c q)⟩, locs, X', e', N'⟩)
  · show (Array.replicate _ _).toList = _
    rw [ix_nat hN, Array.toList_replicate]; rfl
  · rw [List.length_replicate]; exact hlen
  · intro v hv
    rw [List.eq_of_mem_replicate hv]; rfl
theorem Go.alen (pc' : Nat) (hp : pc + 1 = pc') {ty : FieldType} {a : Addr} {vs : List Value} (v : Int32) (hd : decode B.by pc = .ok (.arraylength, 1)) (A : Ary Z h a ty vs) (hv : v.toInt = vs.length) (r : Go Q Z B k n h pc' Ls (.int v :: st)) : Go Q Z B k n h pc Ls (.ref a :: st) := fun x T P => by
  subst hp
  obtain ⟨E, O', locs, X, e, N'⟩ := id P
  obtain ⟨c, A, e1, e2, e3⟩ := A
  have : c.slots.size.toInt32 = v := by
    have q : c.slots.size = vs.length := by rw [← e1]; simp
    apply Int32.toInt_inj.mp
    rw [q, hv, len_toInt e2]
  exact lift (fun t q => X.arraylength P.ex (by rw [e]; exact A.1) (State.isArrayOf_alike E.zz.alike A.2.1) (g := mkF x.m pc Ls (.ref a :: st)) rfl rfl (P.d hd) t (by rw [this]; exact q)) (r x T P)
theorem Go.iaload (pc' : Nat) (hp : pc + 1 = pc') {a : Addr} {vs : List Value} {j : Int32} (v : Int32) (hd : decode B.by pc = .ok (.iaload, 1)) (A : Ary Z h a .int vs) (jn : Nat) (hj : j.toInt = jn) (hv : vs[jn]? = some (.int v)) (r : Go Q Z B k n h pc' Ls (.int v :: st)) : Go Q Z B k n h pc Ls (.int j :: .ref a :: st) := fun x T P => by
  subst hp
  obtain ⟨E, O', locs, X, e, N'⟩ := id P
  obtain ⟨c, A, e1, e2, e3⟩ := A
  have q : c.slots.size = vs.length := by rw [← e1]; simp
  have hlt := (List.getElem?_eq_some_iff.mp hv).1
  exact lift (fun t q' => X.iaload P.ex (j := j) (v := .int v) (by rw [e]; exact A.1) (State.isArrayOf_alike E.zz.alike A.2.1) A.2.2 (ix_in (by omega) (by omega)) (by rw [ix_nat hj, slots_at e1]; exact hv) (g := mkF x.m pc Ls (.int j :: .ref a :: st)) rfl rfl (P.d hd) t q') (r x T P)
theorem Go.laload (pc' : Nat) (hp : pc + 1 = pc') {a : Addr} {vs : List Value} {j : Int32} (v : Int64) (hd : decode B.by pc = .ok (.laload, 1)) (A : Ary Z h a .long vs) (jn : Nat) (hj : j.toInt = jn) (hv : vs[jn]? = some (.long v)) (r : Go Q Z B k n h pc' Ls (.long v :: st)) : Go Q Z B k n h pc Ls (.int j :: .ref a :: st) := fun x T P => by
  subst hp
  obtain ⟨E, O', locs, X, e, N'⟩ := id P
  obtain ⟨c, A, e1, e2, e3⟩ := A
  have q : c.slots.size = vs.length := by rw [← e1]; simp
  have hlt := (List.getElem?_eq_some_iff.mp hv).1
  exact lift (fun t q' => X.laload P.ex (j := j) (v := .long v) (by rw [e]; exact A.1) (State.isArrayOf_alike E.zz.alike A.2.1) A.2.2 (ix_in (by omega) (by omega)) (by rw [ix_nat hj, slots_at e1]; exact hv) (g := mkF x.m pc Ls (.int j :: .ref a :: st)) rfl rfl (P.d hd) t q') (r x T P)
theorem Go.caload (pc' : Nat) (hp : pc + 1 = pc') {a : Addr} {vs : List Value} {j : Int32} (v : Int32) (hd : decode B.by pc = .ok (.caload, 1)) (A : Ary Z h a .char vs) (jn : Nat) (hj : j.toInt = jn) (hv : vs[jn]? = some (.int v)) (r : Go Q Z B k n h pc' Ls (.int v :: st)) : Go Q Z B k n h pc Ls (.int j :: .ref a :: st) := fun x T P => by
  subst hp
  obtain ⟨E, O', locs, X, e, N'⟩ := id P
  obtain ⟨c, A, e1, e2, e3⟩ := A
  have q : c.slots.size = vs.length := by rw [← e1]; simp
  have hlt := (List.getElem?_eq_some_iff.mp hv).1
  exact lift (fun t q' => X.caload P.ex (j := j) (v := .int v) (by rw [e]; exact A.1) (State.isArrayOf_alike E.zz.alike A.2.1) A.2.2 (ix_in (by omega) (by omega)) (by rw [ix_nat hj, slots_at e1]; exact hv) (g := mkF x.m pc Ls (.int j :: .ref a :: st)) rfl rfl (P.d hd) t q') (r x T P)
theorem Go.saload (pc' : Nat) (hp : pc + 1 = pc') {a : Addr} {vs : List Value} {j : Int32} (v : Int32) (hd : decode B.by pc = .ok (.saload, 1)) (A : Ary Z h a .short vs) (jn : Nat) (hj : j.toInt = jn) (hv : vs[jn]? = some (.int v)) (r : Go Q Z B k n h pc' Ls (.int v :: st)) : Go Q Z B k n h pc Ls (.int j :: .ref a :: st) := fun x T P => by
  subst hp
  obtain ⟨E, O', locs, X, e, N'⟩ := id P
  obtain ⟨c, A, e1, e2, e3⟩ := A
  have q : c.slots.size = vs.length := by rw [← e1]; simp
  have hlt := (List.getElem?_eq_some_iff.mp hv).1
  exact lift (fun t q' => X.saload P.ex (j := j) (v := .int v) (by rw [e]; exact A.1) (State.isArrayOf_alike E.zz.alike A.2.1) A.2.2 (ix_in (by omega) (by omega)) (by rw [ix_nat hj, slots_at e1]; exact hv) (g := mkF x.m pc Ls (.int j :: .ref a :: st)) rfl rfl (P.d hd) t q') (r x T P)
theorem Go.baload (pc' : Nat) (hp : pc + 1 = pc') {a : Addr} {vs : List Value} {j : Int32} (v : Int32) (hd : decode B.by pc = .ok (.baload, 1)) (A : Ary Z h a .byte vs) (jn : Nat) (hj : j.toInt = jn) (hv : vs[jn]? = some (.int v)) (r : Go Q Z B k n h pc' Ls (.int v :: st)) : Go Q Z B k n h pc Ls (.int j :: .ref a :: st) := fun x T P => by
  subst hp
  obtain ⟨E, O', locs, X, e, N'⟩ := id P
  obtain ⟨c, A, e1, e2, e3⟩ := A
  have q : c.slots.size = vs.length := by rw [← e1]; simp
  have hlt := (List.getElem?_eq_some_iff.mp hv).1
  exact lift (fun t q' => X.baloadBytes P.ex (j := j) (v := .int v) (by rw [e]; exact A.1) (State.isArrayOf_alike E.zz.alike A.2.1) A.2.2 (ix_in (by omega) (by omega)) (by rw [ix_nat hj, slots_at e1]; exact hv) (g := mkF x.m pc Ls (.int j :: .ref a :: st)) rfl rfl (P.d hd) t q') (r x T P)
theorem Go.zaload (pc' : Nat) (hp : pc + 1 = pc') {a : Addr} {vs : List Value} {j : Int32} (v : Int32) (hd : decode B.by pc = .ok (.baload, 1)) (A : Ary Z h a .boolean vs) (jn : Nat) (hj : j.toInt = jn) (hv : vs[jn]? = some (.int v)) (r : Go Q Z B k n h pc' Ls (.int v :: st)) : Go Q Z B k n h pc Ls (.int j :: .ref a :: st) := fun x T P => by
  subst hp
  obtain ⟨E, O', locs, X, e, N'⟩ := id P
  obtain ⟨c, A, e1, e2, e3⟩ := A
  have q : c.slots.size = vs.length := by rw [← e1]; simp
  have hlt := (List.getElem?_eq_some_iff.mp hv).1
  exact lift (fun t q' => X.baloadBooleans P.ex (j := j) (v := .int v) (by rw [e]; exact A.1) (State.isArrayOf_alike E.zz.alike A.2.1) A.2.2 (ix_in (by omega) (by omega)) (by rw [ix_nat hj, slots_at e1]; exact hv) (g := mkF x.m pc Ls (.int j :: .ref a :: st)) rfl rfl (P.d hd) t q') (r x T P)
theorem Go.aaload (pc' : Nat) (hp : pc + 1 = pc') {ty : FieldType} {a : Addr} {vs : List Value} {j : Int32} (v : Value) (hd : decode B.by pc = .ok (.aaload, 1)) (hty : ty.isReference = true) (A : Ary Z h a ty vs) (jn : Nat) (hj : j.toInt = jn) (hv : vs[jn]? = some v) (r : Go Q Z B k n h pc' Ls (v :: st)) : Go Q Z B k n h pc Ls (.int j :: .ref a :: st) := fun x T P => by
  subst hp
  obtain ⟨E, O', locs, X, e, N'⟩ := id P
  obtain ⟨c, A, e1, e2, e3⟩ := A
  have q : c.slots.size = vs.length := by rw [← e1]; simp
  have hlt := (List.getElem?_eq_some_iff.mp hv).1
  exact lift (fun t q' => X.aaload P.ex (j := j) (v := v) (by rw [e]; exact A.1) (State.isArrayOf_alike E.zz.alike A.2.1) hty A.2.2 (ix_in (by omega) (by omega)) (by rw [ix_nat hj, slots_at e1]; exact hv) (g := mkF x.m pc Ls (.int j :: .ref a :: st)) rfl rfl (P.d hd) t q') (r x T P)
/-- a store into an array -/
theorem Ary.set {a : Addr} {ty : FieldType} {vs : List Value} {j : Nat} {v : Value} {c : Cell} (A : Arr Z h a c ty) (e1 : c.slots.toList = vs) (e2 : vs.length < 2 ^ 31) (e3 : ∀ v ∈ vs, fits ty v = true) (W : Wr h h' a j v) (hv : fits ty v = true) : Ary Z h' a ty (vs.set j v) := by
  refine ⟨c.setSlot j v, A.same W, ?_, by rw [List.length_set]; exact e2, fun w hw => ?_⟩
  · show (c.slots.setIfInBounds j v).toList = _
    rw [Array.toList_setIfInBounds, e1]
  · rcases List.mem_or_eq_of_mem_set hw with q | rfl
    · exact e3 _ q
    · exact hv
theorem Go.stI (pc' : Nat) (hp : pc + 1 = pc') {a : Addr} {vs : List Value} {j : Int32} {v : Int32} (hd : decode B.by pc = .ok (.iastore, 1)) (A : Ary Z h a .int vs) (jn : Nat) (hj : j.toInt = jn) (hlt : jn < vs.length) (ge : Z.heap.size ≤ a)
    (r : ∀ h' : Heap, Keep h h' [a] → Ary Z h' a .int (vs.set jn (.int v)) → Go Q Z B k n h' pc' Ls st) : Go Q Z B k n h pc Ls (.int v :: .int j :: .ref a :: st) := fun x T P => by
  subst hp
  obtain ⟨E, O', locs, X, e, N⟩ := id P
  obtain ⟨c, A, e1, e2, e3⟩ := A
  have q : c.slots.size = vs.length := by rw [← e1]; simp
  obtain ⟨T', h', X', e', W, s'⟩ := RoadKit.stI X P.ex E.zz e A (j := j) (ix_in (by omega) (by omega)) (g := mkF x.m pc Ls (.int v :: .int j :: .ref a :: st)) rfl rfl (P.d hd)
  rw [ix_nat hj] at W
  exact lift s' (r h' (keep_wr W) (Ary.set A e1 e2 e3 W (rfl)) x T' ⟨E, ext_keep O' (keep_wr W) (ge1 ge), _, X', e', fr_snoc N ge⟩)
theorem Go.stJ (pc' : Nat) (hp : pc + 1 = pc') {a : Addr} {vs : List Value} {j : Int32} {v : Int64} (hd : decode B.by pc = .ok (.lastore, 1)) (A : Ary Z h a .long vs) (jn : Nat) (hj : j.toInt = jn) (hlt : jn < vs.length) (ge : Z.heap.size ≤ a)
    (r : ∀ h' : Heap, Keep h h' [a] → Ary Z h' a .long (vs.set jn (.long v)) → Go Q Z B k n h' pc' Ls st) : Go Q Z B k n h pc Ls (.long v :: .int j :: .ref a :: st) := fun x T P => by
  subst hp
  obtain ⟨E, O', locs, X, e, N⟩ := id P
  obtain ⟨c, A, e1, e2, e3⟩ := A
  have q : c.slots.size = vs.length := by rw [← e1]; simp
  obtain ⟨T', h', X', e', W, s'⟩ := RoadKit.stJ X P.ex E.zz e A (j := j) (ix_in (by omega) (by omega)) (g := mkF x.m pc Ls (.long v :: .int j :: .ref a :: st)) rfl rfl (P.d hd)
  rw [ix_nat hj] at W
  exact lift s' (r h' (keep_wr W) (Ary.set A e1 e2 e3 W (rfl)) x T' ⟨E, ext_keep O' (keep_wr W) (ge1 ge), _, X', e', fr_snoc N ge⟩)
theorem Go.stC (pc' : Nat) (hp : pc + 1 = pc') {a : Addr} {vs : List Value} {j : Int32} {v : Int32} (hd : decode B.by pc = .ok (.castore, 1)) (A : Ary Z h a .char vs) (jn : Nat) (hj : j.toInt = jn) (hlt : jn < vs.length) (ge : Z.heap.size ≤ a)
    (r : ∀ h' : Heap, Keep h h' [a] → Ary Z h' a .char (vs.set jn (.int (nar .char v))) → Go Q Z B k n h' pc' Ls st) : Go Q Z B k n h pc Ls (.int v :: .int j :: .ref a :: st) := fun x T P => by
  subst hp
  obtain ⟨E, O', locs, X, e, N⟩ := id P
  obtain ⟨c, A, e1, e2, e3⟩ := A
  have q : c.slots.size = vs.length := by rw [← e1]; simp
  obtain ⟨T', h', X', e', W, s'⟩ := RoadKit.stC X P.ex E.zz e A (j := j) (ix_in (by omega) (by omega)) (g := mkF x.m pc Ls (.int v :: .int j :: .ref a :: st)) rfl rfl (P.d hd)
  rw [ix_nat hj] at W
  exact lift s' (r h' (keep_wr W) (Ary.set A e1 e2 e3 W (fits_nar_char v)) x T' ⟨E, ext_keep O' (keep_wr W) (ge1 ge), _, X', e', fr_snoc N ge⟩)
theorem Go.stS (pc' : Nat) (hp : pc + 1 = pc') {a : Addr} {vs : List Value} {j : Int32} {v : Int32} (hd : decode B.by pc = .ok (.sastore, 1)) (A : Ary Z h a .short vs) (jn : Nat) (hj : j.toInt = jn) (hlt : jn < vs.length) (ge : Z.heap.size ≤ a)
    (r : ∀ h' : Heap, Keep h h' [a] → Ary Z h' a .short (vs.set jn (.int (nar .short v))) → Go Q Z B k n h' pc' Ls st) : Go Q Z B k n h pc Ls (.int v :: .int j :: .ref a :: st) := fun x T P => by
  subst hp
  obtain ⟨E, O', locs, X, e, N⟩ := id P
  obtain ⟨c, A, e1, e2, e3⟩ := A
  have q : c.slots.size = vs.length := by rw [← e1]; simp
  obtain ⟨T', h', X', e', W, s'⟩ := RoadKit.stS X P.ex E.zz e A (j := j) (ix_in (by omega) (by omega)) (g := mkF x.m pc Ls (.int v :: .int j :: .ref a :: st)) rfl rfl (P.d hd)
  rw [ix_nat hj] at W
  exact lift s' (r h' (keep_wr W) (Ary.set A e1 e2 e3 W (fits_nar_short v)) x T' ⟨E, ext_keep O' (keep_wr W) (ge1 ge), _, X', e', fr_snoc N ge⟩)
theorem Go.stB (pc' : Nat) (hp : pc + 1 = pc') {a : Addr} {vs : List Value} {j : Int32} {v : Int32} (hd : decode B.by pc = .ok (.bastore, 1)) (A : Ary Z h a .byte vs) (jn : Nat) (hj : j.toInt = jn) (hlt : jn < vs.length) (ge : Z.heap.size ≤ a)
    (r : ∀ h' : Heap, Keep h h' [a] → Ary Z h' a .byte (vs.set jn (.int (nar .byte v))) → Go Q Z B k n h' pc' Ls st) : Go Q Z B k n h pc Ls (.int v :: .int j :: .ref a :: st) := fun x T P => by
  subst hp
  obtain ⟨E, O', locs, X, e, N⟩ := id P
  obtain ⟨c, A, e1, e2, e3⟩ := A
  have q : c.slots.size = vs.length := by rw [← e1]; simp
  obtain ⟨T', h', X', e', W, s'⟩ := RoadKit.stB X P.ex E.zz e A (j := j) (ix_in (by omega) (by omega)) (g := mkF x.m pc Ls (.int v :: .int j :: .ref a :: st)) rfl rfl (P.d hd)
  rw [ix_nat hj] at W
  exact lift s' (r h' (keep_wr W) (Ary.set A e1 e2 e3 W (fits_nar_byte v)) x T' ⟨E, ext_keep O' (keep_wr W) (ge1 ge), _, X', e', fr_snoc N ge⟩)
theorem Go.stZ (pc' : Nat) (hp : pc + 1 = pc') {a : Addr} {vs : List Value} {j : Int32} {v : Int32} (hd : decode B.by pc = .ok (.bastore, 1)) (A : Ary Z h a .boolean vs) (jn : Nat) (hj : j.toInt = jn) (hlt : jn < vs.length) (ge : Z.heap.size ≤ a)
    (r : ∀ h' : Heap, Keep h h' [a] → Ary Z h' a .boolean (vs.set jn (.int (nar .boolean v))) → Go Q Z B k n h' pc' Ls st) : Go Q Z B k n h pc Ls (.int v :: .int j :: .ref a :: st) := fun x T P => by
  subst hp
  obtain ⟨E, O', locs, X, e, N⟩ := id P
  obtain ⟨c, A, e1, e2, e3⟩ := A
  have q : c.slots.size = vs.length := by rw [← e1]; simp
  obtain ⟨T', h', X', e', W, s'⟩ := RoadKit.stZ X P.ex E.zz e A (j := j) (ix_in (by omega) (by omega)) (g := mkF x.m pc Ls (.int v :: .int j :: .ref a :: st)) rfl rfl (P.d hd)
  rw [ix_nat hj] at W
  exact lift s' (r h' (keep_wr W) (Ary.set A e1 e2 e3 W (fits_nar_bool v)) x T' ⟨E, ext_keep O' (keep_wr W) (ge1 ge), _, X', e', fr_snoc N ge⟩)
theorem Go.stR (pc' : Nat) (hp : pc + 1 = pc') {C : String} {a b : Addr} {vs : List Value} {j : Int32} (hd : decode B.by pc = .ok (.aastore, 1)) (A : Ary Z h a (.object C) vs) (O : Aov Z h a C) (I : Ins Z h b C true) (jn : Nat) (hj : j.toInt = jn) (hlt : jn < vs.length) (ge : Z.heap.size ≤ a)
    (r : ∀ h' : Heap, Keep h h' [a] → Ary Z h' a (.object C) (vs.set jn (.ref b)) → Go Q Z B k n h' pc' Ls st) : Go Q Z B k n h pc Ls (.ref b :: .int j :: .ref a :: st) := fun x T P => by
  subst hp
  obtain ⟨E, O', locs, X, e, N⟩ := id P
  obtain ⟨c, A, e1, e2, e3⟩ := A
  obtain ⟨c', q1, q2⟩ := O
  cases q1.symm.trans A.1
  have q : c.slots.size = vs.length := by rw [← e1]; simp
  obtain ⟨T', h', X', e', W, s'⟩ := RoadKit.stR X P.ex E.zz e A (j := j) (v := .ref b) (ix_in (by omega) (by omega)) rfl (Sto.of A q2 I) (g := mkF x.m pc Ls (.ref b :: .int j :: .ref a :: st)) rfl rfl (P.d hd)
  rw [ix_nat hj] at W
  exact lift s' (r h' (keep_wr W) (Ary.set A e1 e2 e3 W rfl) x T' ⟨E, ext_keep O' (keep_wr W) (ge1 ge), _, X', e', fr_snoc N ge⟩)
/-! ## returns -/
theorem ret_core {v : Option Value} {T : State} {locs : List Loc} {fs : List Frame} (E : En Z x B) (O' : Ext Z.heap h) (e : T.heap = h) (N : Fr Z.heap.size locs) (hk : k ≤ B.R.cells) (hn : n ≤ B.R.slots) (hQ : Q v h)
    (hs : Steps x.p.tables x.e x.below (T.setTop (mkF x.m pc Ls st)) (T.setFrames fs)) (hrun : (T.setFrames fs).status = .running) (hended : Ended (T.setFrames fs) x.below (.returned v)) (hW : x.s.WarmedH (T.setFrames fs).vm) (hsame : x.s.sameButNew ({ T.setFrames fs with vm := x.s.vm } : State) locs k n) : Rn Q Z x B T pc Ls st := by
  subst e
  exact ⟨T.setFrames fs, _, hs, hrun, hended, _, locs, rfl, ⟨hQ, O', N⟩, ⟨_, rfl⟩, hW, hsame.mono hk hn⟩
theorem Go.retV (hd : decode B.by pc = .ok (.return_, 1)) (ht : B.rt = none) (hk : k ≤ B.R.cells) (hn : n ≤ B.R.slots) (hQ : Q none h) : Go Q Z B k n h pc Ls [] := fun x T P => by
  obtain ⟨E, O', locs, X, e, N⟩ := id P
  obtain ⟨fs, hr, hrun, hended, hW, hsame⟩ := X.leave (v := none) (fun _ => rfl) E.nl
  exact ret_core E O' e N hk hn hQ (X.returnOut P.ex (E.rt.trans ht) (P.d hd) hr) hrun hended hW hsame
theorem Go.retI {z : Int32} (hd : decode B.by pc = .ok (.ireturn, 1)) (ht : B.rt = some .int) (hk : k ≤ B.R.cells) (hn : n ≤ B.R.slots) (hQ : Q (some (.int z)) h) : Go Q Z B k n h pc Ls [.int z] := fun x T P => by
  obtain ⟨E, O', locs, X, e, N⟩ := id P
  obtain ⟨fs, hr, hrun, hended, hW, hsame⟩ := X.leave (v := some (.int z)) (fun q => by rw [E.rt, ht] at q; cases q) E.nl
  exact ret_core E O' e N hk hn hQ (X.ireturnOut P.ex (E.rt.trans ht) rfl (Or.inl rfl) (P.d hd) hr) hrun hended hW hsame
theorem Go.retN {z z' : Int32} {t : FieldType} (hd : decode B.by pc = .ok (.ireturn, 1)) (ht : B.rt = some t) (hz : t = .boolean ∨ t = .byte ∨ t = .char ∨ t = .short) (hq : nar t z = z') (hk : k ≤ B.R.cells) (hn : n ≤ B.R.slots) (hQ : Q (some (.int z')) h) : Go Q Z B k n h pc Ls (.int z :: st) := fun x T P => by
  subst hq
  obtain ⟨E, O', locs, X, e, N⟩ := id P
  obtain ⟨fs, hr, hrun, hended, hW, hsame⟩ := X.leave (v := some (.int (nar t z))) (fun q => by rw [E.rt, ht] at q; cases q) E.nl
  exact ret_core E O' e N hk hn hQ (RoadKit.retN X P.ex (E.rt.trans ht) hz (P.d hd) hr) hrun hended hW hsame
theorem Go.retJ {z : Int64} (hd : decode B.by pc = .ok (.lreturn, 1)) (ht : B.rt = some .long) (hk : k ≤ B.R.cells) (hn : n ≤ B.R.slots) (hQ : Q (some (.long z)) h) : Go Q Z B k n h pc Ls [.long z] := fun x T P => by
  obtain ⟨E, O', locs, X, e, N⟩ := id P
  obtain ⟨fs, hr, hrun, hended, hW, hsame⟩ := X.leave (v := some (.long z)) (fun q => by rw [E.rt, ht] at q; cases q) E.nl
  exact ret_core E O' e N hk hn hQ (X.lreturnOut P.ex (E.rt.trans ht) (P.d hd) hr) hrun hended hW hsame
theorem Go.retD {z : UInt64} (hd : decode B.by pc = .ok (.dreturn, 1)) (ht : B.rt = some .double) (hk : k ≤ B.R.cells) (hn : n ≤ B.R.slots) (hQ : Q (some (.double z)) h) : Go Q Z B k n h pc Ls (.double z :: st) := fun x T P => by
  obtain ⟨E, O', locs, X, e, N⟩ := id P
  obtain ⟨fs, hr, hrun, hended, hW, hsame⟩ := X.leave (v := some (.double z)) (fun q => by rw [E.rt, ht] at q; cases q) E.nl
  exact ret_core E O' e N hk hn hQ (retOut X P.ex (i := .dreturn) (E.rt.trans ht) rfl (Or.inr (Or.inr (Or.inl ⟨rfl, rfl, _, rfl⟩))) (P.d hd) hr) hrun hended hW hsame
theorem Go.retA {z : Value} {t : FieldType} (hd : decode B.by pc = .ok (.areturn, 1)) (ht : B.rt = some t) (hr' : t.isReference = true) (hz : z.isRef = true) (hk : k ≤ B.R.cells) (hn : n ≤ B.R.slots) (hQ : Q (some z) h) : Go Q Z B k n h pc Ls [z] := fun x T P => by
  obtain ⟨E, O', locs, X, e, N⟩ := id P
  obtain ⟨fs, hr, hrun, hended, hW, hsame⟩ := X.leave (v := some z) (fun q => by rw [E.rt, ht] at q; cases q) E.nl
  exact ret_core E O' e N hk hn hQ (X.areturnOut P.ex hz (E.rt.trans ht) hr' (P.d hd) hr) hrun hended hW hsame
/-! ## calls -/
theorem Con.back {C : Bd} {as : Array Value} {Qc : Option Value → Heap → Prop} {len W : Nat} (K : Con Z C as h Qc) (P : Sp Z x B T k n h) (i j : Nat) (wc : B.tb[i]? = some (.code C.y C.by C.ml C.rt)) (wz : B.tb[j]? = some (.initialized C.y.cls)) (hf : C.R.frames + 1 ≤ B.R.frames) (hl : W + (C.ml + 11) + C.R.locals ≤ B.R.locals) :
    Back x.l B.R x.p x.e x.below x.s x.args C.y len W (fun A a => a = as ∧ A.U.heap = h ∧ A.cells + C.R.cells ≤ B.R.cells ∧ A.slots + C.R.slots ≤ B.R.slots)
      (fun A _ v D => ∃ L, (Qc v D.U.heap ∧ Ext Z.heap D.U.heap ∧ Fr Z.heap.size L) ∧ D.locs = A.locs ++ L ∧ D.cells = A.cells + C.R.cells ∧ D.slots = A.slots + C.R.slots) := by
  obtain ⟨a0, hw⟩ := P.wd.w
  exact backOf (a0 := a0) (Q := fun v h' L => Qc v h' ∧ Ext Z.heap h' ∧ Fr Z.heap.size L) (K P.old x.l []) P.1.zz (hw wc) (hw wz) hf hl
theorem Go.callS (pc' : Nat) (hp : pc + 3 = pc') {C : Bd} {Qc : Option Value → Heap → Prop} {ix : Nat} (argsL : List Value) {st : List Value} (i1 i2 i3 i4 : Nat) (K : Con Z C argsL.toArray h Qc) (hd : decode B.by pc = .ok (.invokestatic ix, 3)) (w1 : B.tb[i1]? = some (.methodLink B.y.cls ix C.y)) (w2 : B.tb[i2]? = some (.static C.y)) (w3 : B.tb[i3]? = some (.initialized C.y.cls)) (w4 : B.tb[i4]? = some (.code C.y C.by C.ml C.rt))
    (hy : C.y.cls ≠ "java/lang/invoke/MethodHandle" ∧ C.y.cls ≠ "java/lang/invoke/VarHandle") {ps : List FieldType} {rt : Option FieldType} (hpd : parseMethodDescriptor C.y.desc = some ⟨ps, rt⟩) (hlen : argsL.length = ps.length) (hs : Ls.size = B.ml) (hst : st = argsL.reverse ++ rest) {W : Nat} (hW : (rest.map fun v => v.category).sum ≤ W) (hf : C.R.frames + 1 ≤ B.R.frames) (hl : W + (C.ml + 11) + C.R.locals ≤ B.R.locals) (hc : k + C.R.cells ≤ B.R.cells) (hn : n + C.R.slots ≤ B.R.slots)
    (r : ∀ (v : Option Value) (h' : Heap), Qc v h' → Go Q Z B (k + C.R.cells) (n + C.R.slots) h' pc' Ls (v.toList ++ rest)) : Go Q Z B k n h pc Ls st := fun x T P => by
  subst hp hst
  obtain ⟨a0, hw⟩ := P.wd.w
  obtain ⟨E, O', locs, X, e, N⟩ := id P
  obtain ⟨v, vm₁, ⟨T1, L1, k1, n1⟩, -, X1, ⟨Lc, hQ, l1, y1, z1⟩, st1⟩ := Jvm.LawKit.callS X P.ex (y := C.y) E.own (mvT E.zz (hw w1)) (mvT E.zz (hw w2)) (mvT E.zz (hw w3)) (mvT E.zz (hw w4)) hy (K.back (W := W) P i4 i3 w4 w3 hf hl) (g := mkF x.m pc Ls (argsL.reverse ++ rest)) rfl (by rw [E.ml]; exact hs) (argsL := argsL) (rest := rest) (lenOf hpd hlen) rfl (by show 2 * 0 + _ ≤ _; omega) (P.d hd) (fun _ _ => ⟨rfl, e, hc, hn⟩)
  dsimp only [Pt.U, Pt.locs, Pt.cells, Pt.slots] at X1 l1 y1 z1 st1 hQ
  subst l1 y1 z1
  exact lift st1 (r v T1.heap hQ.1 x T1 ⟨E, hQ.2.1, _, X1, rfl, N.app hQ.2.2⟩)
theorem Go.callI (pc' : Nat) (hp : pc + 3 = pc') {C : Bd} {Qc : Option Value → Heap → Prop} {ix : Nat} (a : Addr) (argsL : List Value) {st : List Value} (i1 i2 i3 i4 : Nat) (K : Con Z C (.ref a :: argsL).toArray h Qc) (hd : decode B.by pc = .ok (.invokespecial ix, 3)) (w1 : B.tb[i1]? = some (.methodLink B.y.cls ix C.y)) (w2 : B.tb[i2]? = some (.instanceMethod C.y)) (w3 : B.tb[i3]? = some (.initialized C.y.cls)) (w4 : B.tb[i4]? = some (.code C.y C.by C.ml none)) (hrt : C.rt = none) (hi : C.y.name = "<init>")
    (hy : C.y.cls ≠ "java/lang/invoke/MethodHandle" ∧ C.y.cls ≠ "java/lang/invoke/VarHandle") {ps : List FieldType} {rt : Option FieldType} (hpd : parseMethodDescriptor C.y.desc = some ⟨ps, rt⟩) (hlen : argsL.length = ps.length) (hs : Ls.size = B.ml) (hst : st = argsL.reverse ++ .ref a :: rest) {W : Nat} (hW : (rest.map fun v => v.category).sum ≤ W) (hf : C.R.frames + 1 ≤ B.R.frames) (hl : W + (C.ml + 11) + C.R.locals ≤ B.R.locals) (hc : k + C.R.cells ≤ B.R.cells) (hn : n + C.R.slots ≤ B.R.slots)
    (r : ∀ (v : Option Value) (h' : Heap), Qc v h' → Go Q Z B (k + C.R.cells) (n + C.R.slots) h' pc' Ls (v.toList ++ rest)) : Go Q Z B k n h pc Ls st := fun x T P => by
  subst hp hst
  obtain ⟨a0, hw⟩ := P.wd.w
  obtain ⟨E, O', locs, X, e, N⟩ := id P
  obtain ⟨v, vm₁, ⟨T1, L1, k1, n1⟩, -, X1, ⟨Lc, hQ, l1, y1, z1⟩, st1⟩ := X.specialBack P.ex (y := C.y) hi E.own (mvT E.zz (hw w1)) (mvT E.zz (hw w2)) (mvT E.zz (hw w4)) hy (K.back (W := W) P i4 i3 (by rw [hrt]; exact w4) w3 hf hl) (g := mkF x.m pc Ls (argsL.reverse ++ .ref a :: rest)) rfl (by rw [E.ml]; exact hs) (Steps.refl _) (a := a) (argsL := argsL) (rest := rest) (lenOf hpd hlen) rfl (by show 2 * 0 + _ ≤ _; omega) (P.d hd) (fun _ _ => ⟨rfl, e, hc, hn⟩)
  dsimp only [Pt.U, Pt.locs, Pt.cells, Pt.slots] at X1 l1 y1 z1 st1 hQ
  subst l1 y1 z1
  exact liftS st1 (r v T1.heap hQ.1 x T1 ⟨E, hQ.2.1, _, X1, rfl, N.app hQ.2.2⟩)
theorem Go.callV (pc' : Nat) (hp : pc + 3 = pc') {C : Bd} {Qc : Option Value → Heap → Prop} {ix : Nat} {D : String} (a : Addr) (argsL : List Value) {st : List Value} (i1 i2 i3 i4 i5 i6 : Nat) (K : Con Z C (.ref a :: argsL).toArray h Qc) (Ea : Exa Z h a D) (hd : decode B.by pc = .ok (.invokevirtual ix, 3)) (w1 : B.tb[i1]? = some (.methodLink B.y.cls ix C.y)) (w2 : B.tb[i2]? = some (.declares C.y)) (w3 : B.tb[i3]? = some (.selects D C.y C.y)) (w4 : B.tb[i4]? = some (.instanceMethod C.y)) (w5 : B.tb[i5]? = some (.initialized C.y.cls)) (w6 : B.tb[i6]? = some (.code C.y C.by C.ml C.rt))
    (hy : C.y.cls ≠ "java/lang/invoke/MethodHandle" ∧ C.y.cls ≠ "java/lang/invoke/VarHandle") {ps : List FieldType} {rt : Option FieldType} (hpd : parseMethodDescriptor C.y.desc = some ⟨ps, rt⟩) (hlen : argsL.length = ps.length) (hs : Ls.size = B.ml) (hst : st = argsL.reverse ++ .ref a :: rest) {W : Nat} (hW : (rest.map fun v => v.category).sum ≤ W) (hf : C.R.frames + 1 ≤ B.R.frames) (hl : W + (C.ml + 11) + C.R.locals ≤ B.R.locals) (hc : k + C.R.cells ≤ B.R.cells) (hn : n + C.R.slots ≤ B.R.slots)
    (r : ∀ (v : Option Value) (h' : Heap), Qc v h' → Go Q Z B (k + C.R.cells) (n + C.R.slots) h' pc' Ls (v.toList ++ rest)) : Go Q Z B k n h pc Ls st := fun x T P => by
  subst hp hst
  obtain ⟨a0, hw⟩ := P.wd.w
  obtain ⟨E, O', locs, X, e, N⟩ := id P
  obtain ⟨cq, kq, qa, qb, qc⟩ := isOf E.zz e Ea
  obtain ⟨v, vm₁, ⟨T1, L1, k1, n1⟩, -, X1, ⟨Lc, hQ, l1, y1, z1⟩, st1⟩ := X.virtualBack P.ex (y := C.y) (z := C.y) E.own (mvT E.zz (hw w1)) (mvT E.zz (hw w2)) (notFace_of_selects (args := #[]) (mvT E.zz (hw w3))) (mvT E.zz (hw w3)) (mvT E.zz (hw w4)) hy (K.back (W := W) P i6 i5 w6 w5 hf hl) qa qc (g := mkF x.m pc Ls (argsL.reverse ++ .ref a :: rest)) rfl (by rw [E.ml]; exact hs) (Steps.refl _) (argsL := argsL) (rest := rest) (lenOf hpd hlen) rfl (by show 2 * 0 + _ ≤ _; omega) (P.d hd) (fun _ _ => ⟨rfl, e, hc, hn⟩)
  dsimp only [Pt.U, Pt.locs, Pt.cells, Pt.slots] at X1 l1 y1 z1 st1 hQ
  subst l1 y1 z1
  exact liftS st1 (r v T1.heap hQ.1 x T1 ⟨E, hQ.2.1, _, X1, rfl, N.app hQ.2.2⟩)
theorem Go.callP (pc' : Nat) (hp : pc + 3 = pc') {C : Bd} {Qc : Option Value → Heap → Prop} {ix : Nat} {D : String} (a : Addr) (argsL : List Value) {st : List Value} (i1 i2 i3 i4 i5 i6 : Nat) (K : Con Z C (.ref a :: argsL).toArray h Qc) (Ea : Exa Z h a D) (hd : decode B.by pc = .ok (.invokevirtual ix, 3)) (w1 : B.tb[i1]? = some (.methodLink B.y.cls ix C.y)) (w2 : B.tb[i2]? = some (.instanceMethod C.y)) (w3 : B.tb[i3]? = some (.selects C.y.cls C.y C.y)) (w4 : B.tb[i4]? = some (.privateMethod C.y)) (w5 : B.tb[i5]? = some (.initialized C.y.cls)) (w6 : B.tb[i6]? = some (.code C.y C.by C.ml C.rt))
    (hy : C.y.cls ≠ "java/lang/invoke/MethodHandle" ∧ C.y.cls ≠ "java/lang/invoke/VarHandle") {ps : List FieldType} {rt : Option FieldType} (hpd : parseMethodDescriptor C.y.desc = some ⟨ps, rt⟩) (hlen : argsL.length = ps.length) (hs : Ls.size = B.ml) (hst : st = argsL.reverse ++ .ref a :: rest) {W : Nat} (hW : (rest.map fun v => v.category).sum ≤ W) (hf : C.R.frames + 1 ≤ B.R.frames) (hl : W + (C.ml + 11) + C.R.locals ≤ B.R.locals) (hc : k + C.R.cells ≤ B.R.cells) (hn : n + C.R.slots ≤ B.R.slots)
    (r : ∀ (v : Option Value) (h' : Heap), Qc v h' → Go Q Z B (k + C.R.cells) (n + C.R.slots) h' pc' Ls (v.toList ++ rest)) : Go Q Z B k n h pc Ls st := fun x T P => by
  subst hp hst
  obtain ⟨a0, hw⟩ := P.wd.w
  obtain ⟨E, O', locs, X, e, N⟩ := id P
  obtain ⟨cq, qa, qb⟩ := Ea.cell
  obtain ⟨v, vm₁, ⟨T1, L1, k1, n1⟩, -, X1, ⟨Lc, hQ, l1, y1, z1⟩, st1⟩ := X.privateBack P.ex (y := C.y) E.own (mvT E.zz (hw w1)) (mvT E.zz (hw w2)) (mvT E.zz (hw w3)) (Cond.privateMethod_at (mvP E.zz (hw w4) (args := #[]))) (mvT E.zz (hw w6)) hy (K.back (W := W) P i6 i5 w6 w5 hf hl) (g := mkF x.m pc Ls (argsL.reverse ++ .ref a :: rest)) rfl (by rw [E.ml]; exact hs) (Steps.refl _) (a := a) (by rw [e]; exact qa) qb (argsL := argsL) (rest := rest) (lenOf hpd hlen) rfl (by show 2 * 0 + _ ≤ _; omega) (P.d hd) (fun _ _ => ⟨rfl, e, hc, hn⟩)
  dsimp only [Pt.U, Pt.locs, Pt.cells, Pt.slots] at X1 l1 y1 z1 st1 hQ
  subst l1 y1 z1
  exact liftS st1 (r v T1.heap hQ.1 x T1 ⟨E, hQ.2.1, _, X1, rfl, N.app hQ.2.2⟩)
end St
end Jvm.Ow
namespace Jvm.Ow
open Sem ClassFile Op Lib Jvm.Stand Jvm.Free Jvm.LawKit Jvm.RoadKit
section More
variable {Q : Option Value → Heap → Prop} {Z : State} {x : Cx} {B : Bd} {T : State} {k n : Nat} {h h' : Heap} {pc : Nat} {Ls Ls' : Array Slot} {st rest : List Value}
theorem Go.instNull (pc' : Nat) (hp : pc + 3 = pc') {ix : Nat} (hd : decode B.by pc = .ok (.instanceof ix, 3)) (r : Go Q Z B k n h pc' Ls (.int 0 :: st)) : Go Q Z B k n h pc Ls (.null :: st) := fun x T P => by
  subst hp
  obtain ⟨E, O', locs, X, e, N⟩ := id P
  exact lift (fun t q => X.instanceofNull P.ex (g := mkF x.m pc Ls (.null :: st)) rfl rfl (P.d hd) t q) (r x T P)
theorem ary_arv {a : Addr} {c0 : ClassId} {ty : FieldType} {z : Int32} {vs : List Value} {d : Value} (F : Arv Z h a c0 ty z vs d) (hl : z.toNatClampNeg = vs.length) : Ary Z h a ty vs := by
  obtain ⟨c, A, -, S, hz, H, G⟩ := F
  have e : c.slots.toList = vs := by
    apply List.ext_getElem?
    intro i
    rw [Array.getElem?_toList]
    by_cases hi : i < vs.length
    · rw [H i (by omega)]
      simp [List.getD, hi]
    · rw [List.getElem?_eq_none (by omega), Array.getElem?_eq_none (by omega)]
  refine ⟨c, A, e, ?_, fun v hv => ?_⟩
  · rw [← hl]; have := nat_of (j := z) hz; have := z.toInt_lt; omega
  · obtain ⟨i, hi, rfl⟩ := List.mem_iff_getElem.mp hv
    have := G i (by omega)
    simpa [List.getD, hi] using this
theorem Go.grid (pc' : Nat) (hp : pc + 4 = pc') {ad C : String} {ty : FieldType} {ix : Nat} {m1 m2 : Int32} (i1 i2 i3 N M cap : Nat) (hd : decode B.by pc = .ok (.multianewarray ix 2, 4)) (hC : (FieldType.array ty).toString = C) (had : "[" ++ C = ad) (w1 : B.tb[i1]? = some (.classLink B.y.cls ix ad)) (w2 : B.tb[i2]? = some (.arrayOver (.array ty))) (w3 : B.tb[i3]? = some (.arrayClass ty))
    (hN : m1.toInt = N) (hM : m2.toInt = M) (hcap : M ≤ cap) (hb : cap * 8 ≤ 536870912) (hb1 : N ≤ 1000) (hdf : fits ty (defaultValue ty) = true) (hdd : (defaultValue ty).isDefault = true) (hc : k + (1 + N) ≤ B.R.cells) (hl : n + (N + N * cap) ≤ B.R.slots)
    (r : ∀ (h' : Heap) (a : Addr), @Eq Nat a h.size → Z.heap.size ≤ a → Keep h h' [] → Ary Z h' a (.array ty) ((List.range N).map fun j => .ref (a + 1 + j)) → (∀ j, j < N → Ary Z h' (a + 1 + j) ty (List.replicate M (defaultValue ty))) → Go Q Z B (k + (1 + N)) (n + (N + N * cap)) h' pc' Ls (.ref a :: st)) : Go Q Z B k n h pc Ls (.int m2 :: .int m1 :: st) := fun x T P => by
  subst hp
  obtain ⟨a0, hw⟩ := P.wd.w
  obtain ⟨E, O', locs, X, e, N'⟩ := id P
  have z0 : (0 : Int32).toInt = 0 := rfl
  have hm1 : ¬ m1 < 0 := by rw [Int32.lt_iff_toInt_lt]; omega
  have hm2 : ¬ m2 < 0 := by rw [Int32.lt_iff_toInt_lt]; omega
  obtain ⟨T', h', cA, comp, X', e', Ex, A, -, -, R1, s'⟩ := gridM X P.ex E.zz E.own hC had (hw w1) (hw w2) (hw w3) e (g := mkF x.m pc Ls (.int m2 :: .int m1 :: st)) rfl (P.d hd) rfl hm1 hm2 (N := N) (ix_nat hN) rfl (cap := cap) (by rw [ix_nat hM]; exact hcap) hb hb1 hdf hdd hc hl
  have hlen : M < 2 ^ 31 := by have := m2.toInt_lt; omega
  refine lift s' (r h' h.size rfl P.le (keep_ext Ex) ?_ (fun j hj => ?_) x T' ⟨E, ⟨Nat.le_trans O'.1 Ex.1, fun y c q => Ex.2 y c (O'.2 y c q)⟩, locs, X', e', N'⟩)
  · have := ary_arv A (by rw [ix_nat hN]; simp)
    rw [List.map_map] at this
    exact this
  · obtain ⟨A1, -⟩ := R1 j (h.size + 1 + j) (by simp [hj])
    refine ⟨_, A1, ?_, by rw [List.length_replicate]; exact hlen, fun v hv => ?_⟩
    · show (Array.replicate _ _).toList = _
      rw [ix_nat hM, Array.toList_replicate]
    · rw [List.eq_of_mem_replicate hv]; exact hdf
/-- a class right under the root is not assignable to another plain class -/
theorem not_asg {tb : List Cond} (hw : Wd Z tb) {C S K : String} {sz : Nat} (i1 i2 i3 : Nat) (w1 : tb[i1]? = some (.superclass C S)) (w2 : tb[i2]? = some (.noSuperclass S)) (w3 : tb[i3]? = some (.instantiable K sz)) (n1 : C ≠ K) (n2 : S ≠ K) : ∃ c t, Z.vm.findClass C = some c ∧ Z.vm.findClass K = some t ∧ Z.vm.assignable c t = false := by
  obtain ⟨a0, hw⟩ := hw.w
  obtain ⟨c, h0⟩ := found_sup (hw w1)
  obtain ⟨p, k, kp, h1, h2, h3, h4, h5, -, h7⟩ := Cond.superclass_spec h0 (hw w1)
  obtain ⟨c', k', g1, g2, g3, -, -⟩ := Cond.noSuperclass_spec (hw w2)
  cases g1.symm.trans h1
  cases g2.symm.trans h3
  obtain ⟨t, kt, i1, i2, i3, i4, -⟩ := Cond.instantiable_spec (hw w3)
  have ne1 := ids_ne h0 i1 n1
  have ne2 := ids_ne h1 i1 n2
  have hi : kt.isInterface = false := (Bool.or_eq_false_iff.mp i4).1
  refine ⟨c, t, h0, i1, ?_⟩
  show Z.vm.assignableAux (255 + 1) c t = false
  have sub : ∀ fuel, Z.vm.isSubclassAux fuel c t = false := by
    intro fuel
    cases fuel with
    | zero => rfl
    | succ f =>
      cases f with
      | zero => simp [Vm.isSubclassAux, ne1, h2, h4]
      | succ f => simp [Vm.isSubclassAux, ne1, ne2, h2, h4, h3, g3]
  simp [Vm.assignableAux, ne1, h2, i2, h5, i3, hi, Vm.isSubclass, sub]
end More
end Jvm.Ow
namespace Jvm.Pilot.@@N@@
open Jvm Jvm.ClassFile Sem Op Lib Jvm.Free Jvm.Stand Jvm.LawKit Jvm.RoadKit Bundle Jvm.Ow Jvm.Pilot.@@N@@.Jvm.D
theorem own_c0 {p c : Int32} (h : (p &&& (127 : Int32)).toUInt32.toUInt16.toUInt32.toInt32 = c) : ¬ (255 : Int32) < c := by
  have h1 : (p &&& (127 : Int32)).toInt = p.toInt % (2 ^ 7 : Nat) := c_mask p 127 7 (by decide) (by decide)
  have h2 := c_i2c (p &&& (127 : Int32))
  rw [h] at h2
  rw [Int32.lt_iff_toInt_lt]; have : (255 : Int32).toInt = 255 := rfl; omega
theorem own_c1 {p q c d : Int32} (h : (p &&& (127 : Int32)).toUInt32.toUInt16.toUInt32.toInt32 = c) (h' : ((c + (1 : Int32)) + (q &&& (127 : Int32))).toUInt32.toUInt16.toUInt32.toInt32 = d) : ¬ (255 : Int32) < d := by
  have h1 : (p &&& (127 : Int32)).toInt = p.toInt % (2 ^ 7 : Nat) := c_mask p 127 7 (by decide) (by decide)
  have h2 := c_i2c (p &&& (127 : Int32))
  rw [h] at h2
  have h3 : (q &&& (127 : Int32)).toInt = q.toInt % (2 ^ 7 : Nat) := c_mask q 127 7 (by decide) (by decide)
  have h4 := c_i2c ((c + (1 : Int32)) + (q &&& (127 : Int32)))
  rw [h'] at h4
  have o1 : (1 : Int32).toInt = 1 := rfl
  have a1 := Jvm.Free.XT.add32 (x := c) (y := 1) ⟨by omega, by omega⟩
  have a2 := Jvm.Free.XT.add32 (x := c + 1) (y := q &&& 127) ⟨by omega, by omega⟩
  rw [Int32.lt_iff_toInt_lt]; have : (255 : Int32).toInt = 255 := rfl; omega
theorem own_ex {n m ex : Int32} {vs us : List Value} (hex : ex = if n = 0 ∧ m = 0 then 1 else 0) (h1 : vs.length = if n = 0 then 0 else if n = 1 then 1 else 2) (h2 : us.length = if m = 0 then 0 else if m = 1 then 1 else 2) : (if vs.length = 0 ∧ us.length = 0 then 1 else 0) = ex := by
  rw [hex, h1, h2]
  by_cases p : n = 0 <;> by_cases q : m = 0 <;> by_cases r : n = 1 <;> by_cases s : m = 1 <;> simp [p, q, r, s]
theorem d6_0 : decode jdk_43_method_3_code 0 = .ok (.iload_n 0, 1) := by decide +kernel
theorem d6_1 : decode jdk_43_method_3_code 1 = .ok (.sipush 255, 3) := by decide +kernel
theorem d6_4 : decode jdk_43_method_3_code 4 = .ok (.if_icmp .gt 7, 3) := by decide +kernel
theorem d6_7 : decode jdk_43_method_3_code 7 = .ok (.iconst 1, 1) := by decide +kernel
theorem d6_8 : decode jdk_43_method_3_code 8 = .ok (.goto 4, 3) := by decide +kernel
theorem d6_11 : decode jdk_43_method_3_code 11 = .ok (.iconst 0, 1) := by decide +kernel
theorem d6_12 : decode jdk_43_method_3_code 12 = .ok (.ireturn, 1) := by decide +kernel
theorem pd6 : parseMethodDescriptor "(C)Z" = some ⟨[.char], some .boolean⟩ := by decide +kernel
theorem pn6 : plainName "java/lang/StringLatin1" = true := by first | (simp [plainName, overriddenIn]; done) | decide +kernel
abbrev B6 : Bd := ((⟨"java/lang/StringLatin1", "canEncode", "(C)Z"⟩ : MethodName), jdk_43_method_3_code, 1, (some .boolean), ({ frames := 0, cells := 0, slots := 0, locals := 0 } : Room), tables_1)
theorem ef6 (m : MethodId) (x : Int32) : entryFrame m (List.toArray [.int x]) 1 = mkF m 0 #[.val (.int x)] [] := by first | (simp [entryFrame, mkF, argsToLocals, Value.category]; done) | rfl
def Q6 (h0 : Heap) (v : Option Value) (h : Heap) : Prop := v = some (.int 1) ∧ h0 = h
set_option maxRecDepth 65536 in
set_option maxHeartbeats 40000000 in
theorem c6 (Z : State) (hw : Wd Z tables_1) (h0 : Heap) (x : Int32)  (hx : ¬ (255 : Int32) < x) : Con Z B6 (List.toArray [.int x]) h0 (Q6 h0) := by
  refine Con.mk hw pn6 (fun m => ef6 m x) (Go.old fun hle' => ?_)
  have hle := hle'.1
  refine Go.iloadN 1 rfl d6_0 rfl ?_
  refine Go.sipush 4 rfl (255 : Int32) d6_1 rfl ?_
  refine Go.icmp_gt 11 7 d6_4 (by decide) rfl rfl (fun (b1 : (255 : Int32) < x) => ?_) (fun (b1 : ¬ (255 : Int32) < x) => ?_)
  · exact absurd b1 hx
  · refine Go.iconst 8 rfl (1 : Int32) d6_7 rfl ?_
    refine Go.goto 12 d6_8 (by decide) (by decide) ?_
    exact Go.retN (t := .boolean) (z' := (1 : Int32)) d6_12 rfl (by decide) rfl (by decide) (by decide) ⟨rfl, rfl⟩
theorem d7_0 : decode jdk_43_method_46_code 0 = .ok (.iconst 1, 1) := by decide +kernel
theorem d7_1 : decode jdk_43_method_46_code 1 = .ok (.newarray .byte, 2) := by decide +kernel
theorem d7_3 : decode jdk_43_method_46_code 3 = .ok (.dup, 1) := by decide +kernel
theorem d7_4 : decode jdk_43_method_46_code 4 = .ok (.iconst 0, 1) := by decide +kernel
theorem d7_5 : decode jdk_43_method_46_code 5 = .ok (.iload_n 0, 1) := by decide +kernel
theorem d7_6 : decode jdk_43_method_46_code 6 = .ok (.i2b, 1) := by decide +kernel
theorem d7_7 : decode jdk_43_method_46_code 7 = .ok (.bastore, 1) := by decide +kernel
theorem d7_8 : decode jdk_43_method_46_code 8 = .ok (.areturn, 1) := by decide +kernel
theorem pd7 : parseMethodDescriptor "(C)[B" = some ⟨[.char], some (.array .byte)⟩ := by decide +kernel
theorem pn7 : plainName "java/lang/StringLatin1" = true := by first | (simp [plainName, overriddenIn]; done) | decide +kernel
abbrev B7 : Bd := ((⟨"java/lang/StringLatin1", "toBytes", "(C)[B"⟩ : MethodName), jdk_43_method_46_code, 1, (some (.array .byte)), ({ frames := 0, cells := 1, slots := 1, locals := 0 } : Room), tables_1)
theorem ef7 (m : MethodId) (x : Int32) : entryFrame m (List.toArray [.int x]) 1 = mkF m 0 #[.val (.int x)] [] := by first | (simp [entryFrame, mkF, argsToLocals, Value.category]; done) | rfl
def Q7 (Z : State) (x : Int32) (h0 : Heap) (v : Option Value) (h : Heap) : Prop := ∃ t, v = some (.ref t) ∧ h0.size ≤ t ∧ Keep h0 h [] ∧ Ary Z h t .byte [.int (nar .byte x.toInt8.toInt32)]
set_option maxRecDepth 65536 in
set_option maxHeartbeats 40000000 in
theorem c7 (Z : State) (hw : Wd Z tables_1) (h0 : Heap) (x : Int32)   : Con Z B7 (List.toArray [.int x]) h0 (Q7 Z x h0) := by
  refine Con.mk hw pn7 (fun m => ef7 m x) (Go.old fun hle' => ?_)
  have hle := hle'.1
  refine Go.iconst 1 rfl (1 : Int32) d7_0 rfl ?_
  refine Go.newA 3 rfl 39 1 1 d7_1 rfl rfl (by decide) (by decide) (by decide) (by decide) fun h2 a1 g3 z4 K5 A6 E7 => ?_
  have A8 : Ary Z h2 a1 .byte [.int 0] := A6
  refine Go.dup 4 rfl d7_3 rfl ?_
  refine Go.iconst 5 rfl (0 : Int32) d7_4 rfl ?_
  refine Go.iloadN 6 rfl d7_5 rfl ?_
  refine Go.i2b 7 rfl d7_6 ?_
  refine Go.stB 8 rfl d7_7 A8 0 rfl (Nat.le_of_ble_eq_true rfl) z4 fun h9 K10 A11 => ?_
  have A12 : Ary Z h9 a1 .byte [.int (nar .byte x.toInt8.toInt32)] := A11
  exact Go.retA d7_8 rfl rfl rfl (by decide) (by decide) ⟨a1, rfl, Nat.le_of_eq g3.symm, (((Keep.refl h0 []).trans K5 all0).trans K10 (allS (Or.inr (by have := K5.1; have := g3; omega)) all0)), A12⟩
theorem d8_0 : decode jdk_42_method_151_code 0 = .ok (.aload_n 0, 1) := by decide +kernel
theorem d8_1 : decode jdk_42_method_151_code 1 = .ok (.invokespecial 1, 3) := by decide +kernel
theorem d8_4 : decode jdk_42_method_151_code 4 = .ok (.aload_n 0, 1) := by decide +kernel
theorem d8_5 : decode jdk_42_method_151_code 5 = .ok (.aload_n 1, 1) := by decide +kernel
theorem d8_6 : decode jdk_42_method_151_code 6 = .ok (.putfield 9, 3) := by decide +kernel
theorem d8_9 : decode jdk_42_method_151_code 9 = .ok (.aload_n 0, 1) := by decide +kernel
theorem d8_10 : decode jdk_42_method_151_code 10 = .ok (.iload_n 2, 1) := by decide +kernel
theorem d8_11 : decode jdk_42_method_151_code 11 = .ok (.putfield 15, 3) := by decide +kernel
theorem d8_14 : decode jdk_42_method_151_code 14 = .ok (.return_, 1) := by decide +kernel
theorem pd8 : parseMethodDescriptor "([BB)V" = some ⟨[(.array .byte), .byte], none⟩ := by decide +kernel
theorem pn8 : plainName "java/lang/String" = true := by first | (simp [plainName, overriddenIn]; done) | decide +kernel
abbrev B8 : Bd := ((⟨"java/lang/String", "<init>", "([BB)V"⟩ : MethodName), jdk_42_method_151_code, 3, none, ({ frames := 1, cells := 0, slots := 0, locals := 12 } : Room), tables_1)
theorem ef8 (m : MethodId) (a : Addr) (t : Addr) : entryFrame m (List.toArray [.ref a, .ref t, .int (0 : Int32)]) 3 = mkF m 0 #[.val (.ref a), .val (.ref t), .val (.int (0 : Int32))] [] := by first | (simp [entryFrame, mkF, argsToLocals, Value.category]; done) | rfl
def Q8 (Z : State) (a : Addr) (t : Addr) (h0 : Heap) (v : Option Value) (h : Heap) : Prop := v = none ∧ Keep h0 h [a] ∧ Fld Z h a "java/lang/String" "value" "[B" (.ref t) ∧ Fld Z h a "java/lang/String" "coder" "B" (.int 0)
set_option maxRecDepth 65536 in
set_option maxHeartbeats 40000000 in
theorem c8 (Z : State) (hw : Wd Z tables_1) (h0 : Heap) (a : Addr) (t : Addr)  (hge : Z.heap.size ≤ a) (hE : Exa Z h0 a "java/lang/String") (hV : Fld Z h0 a "java/lang/String" "value" "[B" .null) (hC : Fld Z h0 a "java/lang/String" "coder" "B" (.int 0)) : Con Z B8 (List.toArray [.ref a, .ref t, .int (0 : Int32)]) h0 (Q8 Z a t h0) := by
  refine Con.mk hw pn8 (fun m => ef8 m a t) (Go.old fun hle' => ?_)
  have hle := hle'.1
  refine Go.aloadN 1 rfl d8_0 rfl rfl ?_
  refine Go.initO 4 rfl 44 14 15 d8_1 rfl rfl rfl rfl (by decide) (W := 0) (Nat.le_of_ble_eq_true rfl) (by decide) ?_
  refine Go.aloadN 5 rfl d8_4 rfl rfl ?_
  refine Go.aloadN 6 rfl d8_5 rfl rfl ?_
  refine Go.putF 9 rfl (v' := .ref t) (ty := (.array .byte)) 45 46 35 d8_6 rfl hV hE (Or.inr ⟨rfl, rfl, rfl⟩) rfl (by decide) rfl rfl hge fun h1 K2 W3 F4 => ?_
  refine Go.aloadN 10 rfl d8_9 rfl rfl ?_
  refine Go.iloadN 11 rfl d8_10 rfl ?_
  have F5 : Fld Z h1 a "java/lang/String" "coder" "B" (.int (0 : Int32)) := (Fld.oth hw hC W3 48 46 (Or.inr rfl) (Or.inr rfl) (by decide) rfl rfl)
  have F6 : Exa Z h1 a "java/lang/String" := (hE.keep K2)
  refine Go.putF 14 rfl (v' := .int (0 : Int32)) (ty := .byte) 47 48 35 d8_11 rfl F5 F6 (Or.inr ⟨rfl, rfl, rfl⟩) rfl (by decide) rfl rfl hge fun h7 K8 W9 F10 => ?_
  have F11 : Fld Z h7 a "java/lang/String" "value" "[B" (.ref t) := (Fld.oth hw F4 W9 46 48 (Or.inr rfl) (Or.inr rfl) (by decide) rfl rfl)
  exact Go.retV d8_14 rfl (by decide) (by decide) ⟨rfl, (((Keep.refl h0 [a]).trans K2 (by simp)).trans K8 (by simp)), F11, F10⟩
theorem d5_0 : decode jdk_42_method_139_code 0 = .ok (.getstatic 38, 3) := by decide +kernel
theorem d5_3 : decode jdk_42_method_139_code 3 = .ok (.ifCond .eq 23, 3) := by decide +kernel
theorem d5_6 : decode jdk_42_method_139_code 6 = .ok (.iload_n 0, 1) := by decide +kernel
theorem d5_7 : decode jdk_42_method_139_code 7 = .ok (.invokestatic 1015, 3) := by decide +kernel
theorem d5_10 : decode jdk_42_method_139_code 10 = .ok (.ifCond .eq 16, 3) := by decide +kernel
theorem d5_13 : decode jdk_42_method_139_code 13 = .ok (.new 10, 3) := by decide +kernel
theorem d5_16 : decode jdk_42_method_139_code 16 = .ok (.dup, 1) := by decide +kernel
theorem d5_17 : decode jdk_42_method_139_code 17 = .ok (.iload_n 0, 1) := by decide +kernel
theorem d5_18 : decode jdk_42_method_139_code 18 = .ok (.invokestatic 1018, 3) := by decide +kernel
theorem d5_21 : decode jdk_42_method_139_code 21 = .ok (.iconst 0, 1) := by decide +kernel
theorem d5_22 : decode jdk_42_method_139_code 22 = .ok (.invokespecial 209, 3) := by decide +kernel
theorem d5_25 : decode jdk_42_method_139_code 25 = .ok (.areturn, 1) := by decide +kernel
theorem d5_26 : decode jdk_42_method_139_code 26 = .ok (.new 10, 3) := by decide +kernel
theorem d5_29 : decode jdk_42_method_139_code 29 = .ok (.dup, 1) := by decide +kernel
theorem d5_30 : decode jdk_42_method_139_code 30 = .ok (.iload_n 0, 1) := by decide +kernel
theorem d5_31 : decode jdk_42_method_139_code 31 = .ok (.invokestatic 1021, 3) := by decide +kernel
theorem d5_34 : decode jdk_42_method_139_code 34 = .ok (.iconst 1, 1) := by decide +kernel
theorem d5_35 : decode jdk_42_method_139_code 35 = .ok (.invokespecial 209, 3) := by decide +kernel
theorem d5_38 : decode jdk_42_method_139_code 38 = .ok (.areturn, 1) := by decide +kernel
theorem pd5 : parseMethodDescriptor "(C)Ljava/lang/String;" = some ⟨[.char], some (.object "java/lang/String")⟩ := by decide +kernel
theorem pn5 : plainName "java/lang/String" = true := by first | (simp [plainName, overriddenIn]; done) | decide +kernel
abbrev B5 : Bd := ((⟨"java/lang/String", "valueOf", "(C)Ljava/lang/String;"⟩ : MethodName), jdk_42_method_139_code, 1, (some (.object "java/lang/String")), ({ frames := 2, cells := 2, slots := 5, locals := 27 } : Room), tables_1)
theorem ef5 (m : MethodId) (x : Int32) : entryFrame m (List.toArray [.int x]) 1 = mkF m 0 #[.val (.int x)] [] := by first | (simp [entryFrame, mkF, argsToLocals, Value.category]; done) | rfl
def Q5 (Z : State) (h0 : Heap) (v : Option Value) (h : Heap) : Prop := ∃ a, v = some (.ref a) ∧ h0.size ≤ a ∧ Keep h0 h [] ∧ Exa Z h a "java/lang/String"
set_option maxRecDepth 65536 in
set_option maxHeartbeats 40000000 in
theorem c5 (Z : State) (hw : Wd Z tables_1) (h0 : Heap) (x : Int32)  (cs : Int32) (hS : Sta Z Z.heap "java/lang/String" "COMPACT_STRINGS" "Z" (.int cs)) (hcs : ¬ cs = 0) (hx : ¬ (255 : Int32) < x) : Con Z B5 (List.toArray [.int x]) h0 (Q5 Z h0) := by
  refine Con.mk hw pn5 (fun m => ef5 m x) (Go.old fun hle' => ?_)
  have hle := hle'.1
  refine Go.getS 3 rfl (v := .int cs) 29 d5_0 rfl hS ?_
  refine Go.if_eq 26 6 d5_3 (by decide) rfl rfl (fun (b1 : cs = 0) => ?_) (fun (b1 : ¬ cs = 0) => ?_)
  · exact absurd b1 hcs
  · refine Go.iloadN 7 rfl d5_6 rfl ?_
    refine Go.callS 10 rfl (C := B6) [.int x] (rest := []) 30 31 32 33 (c6 Z hw h0 x hx) d5_7 rfl rfl rfl rfl (by decide) pd6 rfl rfl rfl (W := 0) (Nat.le_of_ble_eq_true rfl) (by decide) (by decide) (by decide) (by decide) fun v2 h3 q4 => ?_
    obtain ⟨rfl, rfl⟩ := q4
    refine Go.if_eq 26 13 d5_10 (by decide) rfl rfl (fun (b5 : (1 : Int32) = 0) => ?_) (fun (b5 : ¬ (1 : Int32) = 0) => ?_)
    · exact absurd b5 (by decide)
    · refine Go.newO 16 rfl 34 35 27 d5_13 rfl rfl rfl (by decide) (by decide) fun h7 a6 g8 z9 K10 E11 D12 => ?_
      refine Go.dup 17 rfl d5_16 rfl ?_
      refine Go.iloadN 18 rfl d5_17 rfl ?_
      refine Go.callS 21 rfl (C := B7) [.int x] (rest := [.ref a6, .ref a6]) 36 37 32 38 (c7 Z hw h7 x) d5_18 rfl rfl rfl rfl (by decide) pd7 rfl rfl rfl (W := 2) (Nat.le_of_ble_eq_true rfl) (by decide) (by decide) (by decide) (by decide) fun v13 h14 q15 => ?_
      obtain ⟨t, rfl, g16, K17, A18⟩ := q15
      refine Go.iconst 22 rfl (0 : Int32) d5_21 rfl ?_
      have F19 : Exa Z h14 a6 "java/lang/String" := (E11.keep K17)
      have F20 : Fld Z h14 a6 "java/lang/String" "value" "[B" (.null) := ((D12 46 (Or.inr rfl) (ty := (.array .byte)) (by decide) : Fld Z h7 a6 "java/lang/String" "value" "[B" (.null)).keep K17 nin0)
      have F21 : Fld Z h14 a6 "java/lang/String" "coder" "B" (.int (0 : Int32)) := ((D12 48 (Or.inr rfl) (ty := .byte) (by decide) : Fld Z h7 a6 "java/lang/String" "coder" "B" (.int (0 : Int32))).keep K17 nin0)
      refine Go.callI 25 rfl (C := B8) a6 [.ref t, .int (0 : Int32)] (rest := [.ref a6]) 40 41 27 43 (c8 Z hw h14 a6 t z9 F19 F20 F21) d5_22 rfl rfl rfl rfl rfl rfl (by decide) pd8 rfl rfl rfl (W := 1) (Nat.le_of_ble_eq_true rfl) (by decide) (by decide) (by decide) (by decide) fun v22 h23 q24 => ?_
      obtain ⟨rfl, K25, -, -⟩ := q24
      have F26 : Exa Z h23 a6 "java/lang/String" := (F19.keep K25)
      exact Go.retA d5_25 rfl rfl rfl (by decide) (by decide) ⟨a6, rfl, Nat.le_of_eq g8.symm, ((((Keep.refl h0 []).trans K10 all0).trans K17 all0).trans K25 (allS (Or.inr (by have := K10.1; have := K17.1; have := g8; omega)) all0)), F26⟩
theorem d1_0 : decode method_3_code 0 = .ok (.iload_n 1, 1) := by decide +kernel
theorem d1_1 : decode method_3_code 1 = .ok (.bipush 127, 2) := by decide +kernel
theorem d1_3 : decode method_3_code 3 = .ok (.iand, 1) := by decide +kernel
theorem d1_4 : decode method_3_code 4 = .ok (.i2c, 1) := by decide +kernel
theorem d1_5 : decode method_3_code 5 = .ok (.istore_n 3, 1) := by decide +kernel
theorem d1_6 : decode method_3_code 6 = .ok (.iload_n 3, 1) := by decide +kernel
theorem d1_7 : decode method_3_code 7 = .ok (.iconst 1, 1) := by decide +kernel
theorem d1_8 : decode method_3_code 8 = .ok (.iadd, 1) := by decide +kernel
theorem d1_9 : decode method_3_code 9 = .ok (.iload_n 2, 1) := by decide +kernel
theorem d1_10 : decode method_3_code 10 = .ok (.bipush 127, 2) := by decide +kernel
theorem d1_12 : decode method_3_code 12 = .ok (.iand, 1) := by decide +kernel
theorem d1_13 : decode method_3_code 13 = .ok (.iadd, 1) := by decide +kernel
theorem d1_14 : decode method_3_code 14 = .ok (.i2c, 1) := by decide +kernel
theorem d1_15 : decode method_3_code 15 = .ok (.istore 4, 2) := by decide +kernel
theorem d1_17 : decode method_3_code 17 = .ok (.iload_n 0, 1) := by decide +kernel
theorem d1_18 : decode method_3_code 18 = .ok (.ifCond .ne 8, 3) := by decide +kernel
theorem d1_21 : decode method_3_code 21 = .ok (.iconst 0, 1) := by decide +kernel
theorem d1_22 : decode method_3_code 22 = .ok (.anewarray 23, 3) := by decide +kernel
theorem d1_25 : decode method_3_code 25 = .ok (.areturn, 1) := by decide +kernel
theorem d1_26 : decode method_3_code 26 = .ok (.iload_n 0, 1) := by decide +kernel
theorem d1_27 : decode method_3_code 27 = .ok (.iconst 1, 1) := by decide +kernel
theorem d1_28 : decode method_3_code 28 = .ok (.if_icmp .ne 15, 3) := by decide +kernel
theorem d1_31 : decode method_3_code 31 = .ok (.iconst 1, 1) := by decide +kernel
theorem d1_32 : decode method_3_code 32 = .ok (.anewarray 23, 3) := by decide +kernel
theorem d1_35 : decode method_3_code 35 = .ok (.dup, 1) := by decide +kernel
theorem d1_36 : decode method_3_code 36 = .ok (.iconst 0, 1) := by decide +kernel
theorem d1_37 : decode method_3_code 37 = .ok (.iload_n 3, 1) := by decide +kernel
theorem d1_38 : decode method_3_code 38 = .ok (.invokestatic 25, 3) := by decide +kernel
theorem d1_41 : decode method_3_code 41 = .ok (.aastore, 1) := by decide +kernel
theorem d1_42 : decode method_3_code 42 = .ok (.areturn, 1) := by decide +kernel
theorem d1_43 : decode method_3_code 43 = .ok (.iconst 2, 1) := by decide +kernel
theorem d1_44 : decode method_3_code 44 = .ok (.anewarray 23, 3) := by decide +kernel
theorem d1_47 : decode method_3_code 47 = .ok (.dup, 1) := by decide +kernel
theorem d1_48 : decode method_3_code 48 = .ok (.iconst 0, 1) := by decide +kernel
theorem d1_49 : decode method_3_code 49 = .ok (.iload_n 3, 1) := by decide +kernel
theorem d1_50 : decode method_3_code 50 = .ok (.invokestatic 25, 3) := by decide +kernel
theorem d1_53 : decode method_3_code 53 = .ok (.aastore, 1) := by decide +kernel
theorem d1_54 : decode method_3_code 54 = .ok (.dup, 1) := by decide +kernel
theorem d1_55 : decode method_3_code 55 = .ok (.iconst 1, 1) := by decide +kernel
theorem d1_56 : decode method_3_code 56 = .ok (.iload 4, 2) := by decide +kernel
theorem d1_58 : decode method_3_code 58 = .ok (.invokestatic 25, 3) := by decide +kernel
theorem d1_61 : decode method_3_code 61 = .ok (.aastore, 1) := by decide +kernel
theorem d1_62 : decode method_3_code 62 = .ok (.areturn, 1) := by decide +kernel
theorem pd1 : parseMethodDescriptor "(III)[Ljava/lang/String;" = some ⟨[.int, .int, .int], some (.array (.object "java/lang/String"))⟩ := by decide +kernel
theorem pn1 : plainName "com/example/subsumer/subsumer/core/LabelIsEmptyPinLaw" = true := by first | (simp [plainName, overriddenIn]; done) | decide +kernel
abbrev B1 : Bd := ((⟨"com/example/subsumer/subsumer/core/LabelIsEmptyPinLaw", "pick", "(III)[Ljava/lang/String;"⟩ : MethodName), method_3_code, 5, (some (.array (.object "java/lang/String"))), ({ frames := 3, cells := 5, slots := 12, locals := 42 } : Room), tables_1)
theorem ef1 (m : MethodId) (kk : Int32) (p : Int32) (q : Int32) : entryFrame m (List.toArray [.int kk, .int p, .int q]) 5 = mkF m 0 #[.val (.int kk), .val (.int p), .val (.int q), .unset, .unset] [] := by first | (simp [entryFrame, mkF, argsToLocals, Value.category]; done) | rfl
def Q1 (Z : State) (kk : Int32) (h0 : Heap) (v : Option Value) (h : Heap) : Prop := ∃ t vs, v = some (.ref t) ∧ h0.size ≤ t ∧ Keep h0 h [] ∧ Ary Z h t (.object "java/lang/String") vs ∧ vs.length = (if kk = 0 then 0 else if kk = 1 then 1 else 2)
set_option maxRecDepth 65536 in
set_option maxHeartbeats 40000000 in
theorem c1 (Z : State) (hw : Wd Z tables_1) (h0 : Heap) (kk : Int32) (p : Int32) (q : Int32)  (cs : Int32) (hS : Sta Z Z.heap "java/lang/String" "COMPACT_STRINGS" "Z" (.int cs)) (hcs : ¬ cs = 0) : Con Z B1 (List.toArray [.int kk, .int p, .int q]) h0 (Q1 Z kk h0) := by
  refine Con.mk hw pn1 (fun m => ef1 m kk p q) (Go.old fun hle' => ?_)
  have hle := hle'.1
  refine Go.iloadN 1 rfl d1_0 rfl ?_
  refine Go.bipush 3 rfl (127 : Int32) d1_1 rfl ?_
  refine Go.iand 4 rfl d1_3 ?_
  refine Go.i2c 5 rfl d1_4 ?_
  refine Go.nameI fun v1 hv1 => ?_
  refine Go.istoreN 6 rfl d1_5 (Ls' := #[.val (.int kk), .val (.int p), .val (.int q), .val (.int v1), .unset]) rfl ?_
  refine Go.iloadN 7 rfl d1_6 rfl ?_
  refine Go.iconst 8 rfl (1 : Int32) d1_7 rfl ?_
  refine Go.iadd 9 rfl d1_8 ?_
  refine Go.iloadN 10 rfl d1_9 rfl ?_
  refine Go.bipush 12 rfl (127 : Int32) d1_10 rfl ?_
  refine Go.iand 13 rfl d1_12 ?_
  refine Go.iadd 14 rfl d1_13 ?_
  refine Go.i2c 15 rfl d1_14 ?_
  refine Go.nameI fun v2 hv2 => ?_
  refine Go.istore 17 rfl d1_15 (Ls' := #[.val (.int kk), .val (.int p), .val (.int q), .val (.int v1), .val (.int v2)]) rfl ?_
  refine Go.iloadN 18 rfl d1_17 rfl ?_
  have hx0 := own_c0 hv1
  have hx1 := own_c1 hv1 hv2
  refine Go.if_ne 26 21 d1_18 (by decide) rfl rfl (fun (b3 : ¬ kk = 0) => ?_) (fun (b3 : kk = 0) => ?_)
  · refine Go.iloadN 27 rfl d1_26 rfl ?_
    refine Go.iconst 28 rfl (1 : Int32) d1_27 rfl ?_
    refine Go.icmp_ne 43 31 d1_28 (by decide) rfl rfl (fun (b13 : ¬ kk = (1 : Int32)) => ?_) (fun (b13 : kk = (1 : Int32)) => ?_)
    · refine Go.iconst 44 rfl (2 : Int32) d1_43 rfl ?_
      refine Go.newR 47 rfl 5 6 2 2 d1_44 rfl rfl rfl (by decide) (by decide) (by decide) (by decide) fun h38 a37 g39 z40 K41 A42 E43 O44 => ?_
      have A45 : Ary Z h38 a37 (.object "java/lang/String") [.null, .null] := A42
      refine Go.dup 48 rfl d1_47 rfl ?_
      refine Go.iconst 49 rfl (0 : Int32) d1_48 rfl ?_
      refine Go.iloadN 50 rfl d1_49 rfl ?_
      refine Go.callS 53 rfl (C := B5) [.int v1] (rest := [.int (0 : Int32), .ref a37, .ref a37]) 25 26 27 28 (c5 Z hw h38 v1 cs hS hcs hx0) d1_50 rfl rfl rfl rfl (by decide) pd5 rfl rfl rfl (W := 3) (Nat.le_of_ble_eq_true rfl) (by decide) (by decide) (by decide) (by decide) fun v46 h47 q48 => ?_
      obtain ⟨a49, rfl, g50, K51, E52⟩ := q48
      have z53 : Z.heap.size ≤ a49 := Nat.le_trans (Nat.le_trans hle K41.1) g50
      have F54 : Ary Z h47 a37 (.object "java/lang/String") [.null, .null] := (A45.keep K51 nin0)
      have F55 : Aov Z h47 a37 "java/lang/String" := (O44.keep K51)
      refine Go.stR 54 rfl d1_53 F54 F55 (Ins.self E52) 0 rfl (Nat.le_of_ble_eq_true rfl) z40 fun h56 K57 A58 => ?_
      have A59 : Ary Z h56 a37 (.object "java/lang/String") [.ref a49, .null] := A58
      refine Go.dup 55 rfl d1_54 rfl ?_
      refine Go.iconst 56 rfl (1 : Int32) d1_55 rfl ?_
      refine Go.iload 58 rfl d1_56 rfl ?_
      refine Go.callS 61 rfl (C := B5) [.int v2] (rest := [.int (1 : Int32), .ref a37, .ref a37]) 25 26 27 28 (c5 Z hw h56 v2 cs hS hcs hx1) d1_58 rfl rfl rfl rfl (by decide) pd5 rfl rfl rfl (W := 3) (Nat.le_of_ble_eq_true rfl) (by decide) (by decide) (by decide) (by decide) fun v60 h61 q62 => ?_
      obtain ⟨a63, rfl, g64, K65, E66⟩ := q62
      have z67 : Z.heap.size ≤ a63 := Nat.le_trans (Nat.le_trans (Nat.le_trans (Nat.le_trans hle K41.1) K51.1) K57.1) g64
      have F68 : Ary Z h61 a37 (.object "java/lang/String") [.ref a49, .null] := (A59.keep K65 nin0)
      have F69 : Aov Z h61 a37 "java/lang/String" := ((F55.keep K57).keep K65)
      refine Go.stR 62 rfl d1_61 F68 F69 (Ins.self E66) 1 rfl (Nat.le_of_ble_eq_true rfl) z40 fun h70 K71 A72 => ?_
      have A73 : Ary Z h70 a37 (.object "java/lang/String") [.ref a49, .ref a63] := A72
      exact Go.retA d1_62 rfl rfl rfl (by decide) (by decide) ⟨a37, _, rfl, Nat.le_of_eq g39.symm, ((((((Keep.refl h0 []).trans K41 all0).trans K51 all0).trans K57 (allS (Or.inr (by have := K41.1; have := K51.1; have := g39; omega)) all0)).trans K65 all0).trans K71 (allS (Or.inr (by have := K41.1; have := K51.1; have := K57.1; have := K65.1; have := g39; omega)) all0)), A73, by simp [b3, b13]⟩
    · refine Go.iconst 32 rfl (1 : Int32) d1_31 rfl ?_
      refine Go.newR 35 rfl 5 6 1 1 d1_32 rfl rfl rfl (by decide) (by decide) (by decide) (by decide) fun h15 a14 g16 z17 K18 A19 E20 O21 => ?_
      have A22 : Ary Z h15 a14 (.object "java/lang/String") [.null] := A19
      refine Go.dup 36 rfl d1_35 rfl ?_
      refine Go.iconst 37 rfl (0 : Int32) d1_36 rfl ?_
      refine Go.iloadN 38 rfl d1_37 rfl ?_
      refine Go.callS 41 rfl (C := B5) [.int v1] (rest := [.int (0 : Int32), .ref a14, .ref a14]) 25 26 27 28 (c5 Z hw h15 v1 cs hS hcs hx0) d1_38 rfl rfl rfl rfl (by decide) pd5 rfl rfl rfl (W := 3) (Nat.le_of_ble_eq_true rfl) (by decide) (by decide) (by decide) (by decide) fun v23 h24 q25 => ?_
      obtain ⟨a26, rfl, g27, K28, E29⟩ := q25
      have z30 : Z.heap.size ≤ a26 := Nat.le_trans (Nat.le_trans hle K18.1) g27
      have F31 : Ary Z h24 a14 (.object "java/lang/String") [.null] := (A22.keep K28 nin0)
      have F32 : Aov Z h24 a14 "java/lang/String" := (O21.keep K28)
      refine Go.stR 42 rfl d1_41 F31 F32 (Ins.self E29) 0 rfl (Nat.le_of_ble_eq_true rfl) z17 fun h33 K34 A35 => ?_
      have A36 : Ary Z h33 a14 (.object "java/lang/String") [.ref a26] := A35
      exact Go.retA d1_42 rfl rfl rfl (by decide) (by decide) ⟨a14, _, rfl, Nat.le_of_eq g16.symm, ((((Keep.refl h0 []).trans K18 all0).trans K28 all0).trans K34 (allS (Or.inr (by have := K18.1; have := K28.1; have := g16; omega)) all0)), A36, by simp [b13]⟩
  · refine Go.iconst 22 rfl (0 : Int32) d1_21 rfl ?_
    refine Go.newR 25 rfl 5 6 0 0 d1_22 rfl rfl rfl (by decide) (by decide) (by decide) (by decide) fun h5 a4 g6 z7 K8 A9 E10 O11 => ?_
    have A12 : Ary Z h5 a4 (.object "java/lang/String") [] := A9
    exact Go.retA d1_25 rfl rfl rfl (by decide) (by decide) ⟨a4, _, rfl, Nat.le_of_eq g6.symm, ((Keep.refl h0 []).trans K8 all0), A12, by simp [b3]⟩
theorem d2_0 : decode prog_13_method_1_code 0 = .ok (.aload_n 0, 1) := by decide +kernel
theorem d2_1 : decode prog_13_method_1_code 1 = .ok (.invokespecial 1, 3) := by decide +kernel
theorem d2_4 : decode prog_13_method_1_code 4 = .ok (.aload_n 0, 1) := by decide +kernel
theorem d2_5 : decode prog_13_method_1_code 5 = .ok (.aload_n 1, 1) := by decide +kernel
theorem d2_6 : decode prog_13_method_1_code 6 = .ok (.putfield 7, 3) := by decide +kernel
theorem d2_9 : decode prog_13_method_1_code 9 = .ok (.aload_n 0, 1) := by decide +kernel
theorem d2_10 : decode prog_13_method_1_code 10 = .ok (.aload_n 2, 1) := by decide +kernel
theorem d2_11 : decode prog_13_method_1_code 11 = .ok (.putfield 13, 3) := by decide +kernel
theorem d2_14 : decode prog_13_method_1_code 14 = .ok (.return_, 1) := by decide +kernel
theorem pd2 : parseMethodDescriptor "([Ljava/lang/String;[Ljava/lang/String;)V" = some ⟨[(.array (.object "java/lang/String")), (.array (.object "java/lang/String"))], none⟩ := by decide +kernel
theorem pn2 : plainName "com/example/subsumer/subsumer/core/Label" = true := by first | (simp [plainName, overriddenIn]; done) | decide +kernel
abbrev B2 : Bd := ((⟨"com/example/subsumer/subsumer/core/Label", "<init>", "([Ljava/lang/String;[Ljava/lang/String;)V"⟩ : MethodName), prog_13_method_1_code, 3, none, ({ frames := 1, cells := 0, slots := 0, locals := 12 } : Room), tables_1)
theorem ef2 (m : MethodId) (a : Addr) (t : Addr) (u : Addr) : entryFrame m (List.toArray [.ref a, .ref t, .ref u]) 3 = mkF m 0 #[.val (.ref a), .val (.ref t), .val (.ref u)] [] := by first | (simp [entryFrame, mkF, argsToLocals, Value.category]; done) | rfl
def Q2 (Z : State) (a : Addr) (t : Addr) (u : Addr) (h0 : Heap) (v : Option Value) (h : Heap) : Prop := v = none ∧ Keep h0 h [a] ∧ Fld Z h a "com/example/subsumer/subsumer/core/Label" "names" "[Ljava/lang/String;" (.ref t) ∧ Fld Z h a "com/example/subsumer/subsumer/core/Label" "negated" "[Ljava/lang/String;" (.ref u)
set_option maxRecDepth 65536 in
set_option maxHeartbeats 40000000 in
theorem c2 (Z : State) (hw : Wd Z tables_1) (h0 : Heap) (a : Addr) (t : Addr) (u : Addr)  (hge : Z.heap.size ≤ a) (hE : Exa Z h0 a "com/example/subsumer/subsumer/core/Label") (hV : Fld Z h0 a "com/example/subsumer/subsumer/core/Label" "names" "[Ljava/lang/String;" .null) (hC : Fld Z h0 a "com/example/subsumer/subsumer/core/Label" "negated" "[Ljava/lang/String;" .null) : Con Z B2 (List.toArray [.ref a, .ref t, .ref u]) h0 (Q2 Z a t u h0) := by
  refine Con.mk hw pn2 (fun m => ef2 m a t u) (Go.old fun hle' => ?_)
  have hle := hle'.1
  refine Go.aloadN 1 rfl d2_0 rfl rfl ?_
  refine Go.initO 4 rfl 13 14 15 d2_1 rfl rfl rfl rfl (by decide) (W := 0) (Nat.le_of_ble_eq_true rfl) (by decide) ?_
  refine Go.aloadN 5 rfl d2_4 rfl rfl ?_
  refine Go.aloadN 6 rfl d2_5 rfl rfl ?_
  refine Go.putF 9 rfl (v' := .ref t) (ty := (.array (.object "java/lang/String"))) 16 17 8 d2_6 rfl hV hE (Or.inr ⟨rfl, rfl, rfl⟩) rfl (by decide) rfl rfl hge fun h1 K2 W3 F4 => ?_
  refine Go.aloadN 10 rfl d2_9 rfl rfl ?_
  refine Go.aloadN 11 rfl d2_10 rfl rfl ?_
  have F5 : Fld Z h1 a "com/example/subsumer/subsumer/core/Label" "negated" "[Ljava/lang/String;" (.null) := (Fld.oth hw hC W3 19 17 (Or.inr rfl) (Or.inr rfl) (by decide) rfl rfl)
  have F6 : Exa Z h1 a "com/example/subsumer/subsumer/core/Label" := (hE.keep K2)
  refine Go.putF 14 rfl (v' := .ref u) (ty := (.array (.object "java/lang/String"))) 18 19 8 d2_11 rfl F5 F6 (Or.inr ⟨rfl, rfl, rfl⟩) rfl (by decide) rfl rfl hge fun h7 K8 W9 F10 => ?_
  have F11 : Fld Z h7 a "com/example/subsumer/subsumer/core/Label" "names" "[Ljava/lang/String;" (.ref t) := (Fld.oth hw F4 W9 17 19 (Or.inr rfl) (Or.inr rfl) (by decide) rfl rfl)
  exact Go.retV d2_14 rfl (by decide) (by decide) ⟨rfl, (((Keep.refl h0 [a]).trans K2 (by simp)).trans K8 (by simp)), F11, F10⟩
theorem d4_0 : decode prog_13_method_5_code 0 = .ok (.aload_n 0, 1) := by decide +kernel
theorem d4_1 : decode prog_13_method_5_code 1 = .ok (.getfield 7, 3) := by decide +kernel
theorem d4_4 : decode prog_13_method_5_code 4 = .ok (.arraylength, 1) := by decide +kernel
theorem d4_5 : decode prog_13_method_5_code 5 = .ok (.ifCond .ne 15, 3) := by decide +kernel
theorem d4_8 : decode prog_13_method_5_code 8 = .ok (.aload_n 0, 1) := by decide +kernel
theorem d4_9 : decode prog_13_method_5_code 9 = .ok (.getfield 13, 3) := by decide +kernel
theorem d4_12 : decode prog_13_method_5_code 12 = .ok (.arraylength, 1) := by decide +kernel
theorem d4_13 : decode prog_13_method_5_code 13 = .ok (.ifCond .ne 7, 3) := by decide +kernel
theorem d4_16 : decode prog_13_method_5_code 16 = .ok (.iconst 1, 1) := by decide +kernel
theorem d4_17 : decode prog_13_method_5_code 17 = .ok (.goto 4, 3) := by decide +kernel
theorem d4_20 : decode prog_13_method_5_code 20 = .ok (.iconst 0, 1) := by decide +kernel
theorem d4_21 : decode prog_13_method_5_code 21 = .ok (.ireturn, 1) := by decide +kernel
theorem pd4 : parseMethodDescriptor "()Z" = some ⟨[], some .boolean⟩ := by decide +kernel
theorem pn4 : plainName "com/example/subsumer/subsumer/core/Label" = true := by first | (simp [plainName, overriddenIn]; done) | decide +kernel
abbrev B4 : Bd := ((⟨"com/example/subsumer/subsumer/core/Label", "isEmpty", "()Z"⟩ : MethodName), prog_13_method_5_code, 1, (some .boolean), ({ frames := 0, cells := 0, slots := 0, locals := 0 } : Room), tables_1)
theorem ef4 (m : MethodId) (a : Addr) : entryFrame m (List.toArray [.ref a]) 1 = mkF m 0 #[.val (.ref a)] [] := by first | (simp [entryFrame, mkF, argsToLocals, Value.category]; done) | rfl
def Q4 (vs : List Value) (us : List Value) (h0 : Heap) (v : Option Value) (h : Heap) : Prop := v = some (.int (if vs.length = 0 ∧ us.length = 0 then 1 else 0)) ∧ h0 = h
set_option maxRecDepth 65536 in
set_option maxHeartbeats 40000000 in
theorem c4 (Z : State) (hw : Wd Z tables_1) (h0 : Heap) (a : Addr) (vs : List Value) (us : List Value) (t : Addr) (u : Addr) (hN : Fld Z h0 a "com/example/subsumer/subsumer/core/Label" "names" "[Ljava/lang/String;" (.ref t)) (hG : Fld Z h0 a "com/example/subsumer/subsumer/core/Label" "negated" "[Ljava/lang/String;" (.ref u)) (hT : Ary Z h0 t (.object "java/lang/String") vs) (hU : Ary Z h0 u (.object "java/lang/String") us) : Con Z B4 (List.toArray [.ref a]) h0 (Q4 vs us h0) := by
  refine Con.mk hw pn4 (fun m => ef4 m a) (Go.old fun hle' => ?_)
  have hle := hle'.1
  refine Go.aloadN 1 rfl d4_0 rfl rfl ?_
  refine Go.getF 4 rfl (v := .ref t) 16 d4_1 rfl hN ?_
  refine Go.alen 5 rfl (Int32.ofNat vs.length) d4_4 hT (len_ofNat hT.len) ?_
  refine Go.if_ne 20 8 d4_5 (by decide) rfl rfl (fun (b1 : ¬ (Int32.ofNat vs.length) = 0) => ?_) (fun (b1 : (Int32.ofNat vs.length) = 0) => ?_)
  · refine Go.iconst 21 rfl (0 : Int32) d4_20 rfl ?_
    exact Go.retN (t := .boolean) (z' := (0 : Int32)) d4_21 rfl (by decide) rfl (by decide) (by decide) ⟨by rw [if_neg (fun z => b1 ((ofNat_zero hT.len).mpr z.1))], rfl⟩
  · refine Go.aloadN 9 rfl d4_8 rfl rfl ?_
    refine Go.getF 12 rfl (v := .ref u) 18 d4_9 rfl hG ?_
    refine Go.alen 13 rfl (Int32.ofNat us.length) d4_12 hU (len_ofNat hU.len) ?_
    refine Go.if_ne 20 16 d4_13 (by decide) rfl rfl (fun (b2 : ¬ (Int32.ofNat us.length) = 0) => ?_) (fun (b2 : (Int32.ofNat us.length) = 0) => ?_)
    · refine Go.iconst 21 rfl (0 : Int32) d4_20 rfl ?_
      exact Go.retN (t := .boolean) (z' := (0 : Int32)) d4_21 rfl (by decide) rfl (by decide) (by decide) ⟨by rw [if_neg (fun z => b2 ((ofNat_zero hU.len).mpr z.2))], rfl⟩
    · refine Go.iconst 17 rfl (1 : Int32) d4_16 rfl ?_
      refine Go.goto 21 d4_17 (by decide) (by decide) ?_
      exact Go.retN (t := .boolean) (z' := (1 : Int32)) d4_21 rfl (by decide) rfl (by decide) (by decide) ⟨by rw [if_pos ⟨(ofNat_zero hT.len).mp b1, (ofNat_zero hU.len).mp b2⟩], rfl⟩
theorem pn0 : plainName "com/example/subsumer/subsumer/core/LabelIsEmptyPinLaw" = true := by first | (simp [plainName, overriddenIn]; done) | decide +kernel
abbrev B0 : Bd := (x, code, maxLocals, ret, room_1, tables_1)
theorem ef0 (m : MethodId) (p1 : Int32) (p2 : Int32) (p3 : Int32) (p4 : Int32) (p5 : Int32) : entryFrame m (List.toArray [.int p1, .int p2, .int p3, .int p4, .int p5]) maxLocals = mkF m 0 #[.val (.int p1), .val (.int p2), .val (.int p3), .val (.int p4), .val (.int p5), .unset, .unset, .unset, .unset, .unset, .unset] [] := by first | (simp [entryFrame, mkF, argsToLocals, Value.category, maxLocals]; done) | rfl
def Q0  (v : Option Value) (h : Heap) : Prop := v = some (.int 1)
set_option maxRecDepth 65536 in
set_option maxHeartbeats 40000000 in
theorem c0 (Z : State) (hw : Wd Z tables_1) (h0 : Heap) (p1 : Int32) (p2 : Int32) (p3 : Int32) (p4 : Int32) (p5 : Int32)  (cs : Int32) (hS : Sta Z Z.heap "java/lang/String" "COMPACT_STRINGS" "Z" (.int cs)) (hcs : ¬ cs = 0) : Con Z B0 (List.toArray [.int p1, .int p2, .int p3, .int p4, .int p5]) h0 (Q0 ) := by
  refine Con.mk hw pn0 (fun m => ef0 m p1 p2 p3 p4 p5) (Go.old fun hle' => ?_)
  have hle := hle'.1
  refine Go.iloadN 1 rfl at_0 rfl ?_
  refine Go.ldcI 3 rfl (v := (2147483647 : Int32)) 0 at_1 rfl ?_
  refine Go.iand 4 rfl at_3 ?_
  refine Go.iconst 5 rfl (3 : Int32) at_4 rfl ?_
  refine Go.irem 6 rfl at_5 (by decide) ?_
  refine Go.nameI fun v1 hv1 => ?_
  refine Go.istore 8 rfl at_6 (Ls' := #[.val (.int p1), .val (.int p2), .val (.int p3), .val (.int p4), .val (.int p5), .val (.int v1), .unset, .unset, .unset, .unset, .unset]) rfl ?_
  refine Go.iloadN 9 rfl at_8 rfl ?_
  refine Go.bipush 11 rfl (8 : Int32) at_9 rfl ?_
  refine Go.iushr 12 rfl at_11 ?_
  refine Go.ldcI 14 rfl (v := (2147483647 : Int32)) 0 at_12 rfl ?_
  refine Go.iand 15 rfl at_14 ?_
  refine Go.iconst 16 rfl (3 : Int32) at_15 rfl ?_
  refine Go.irem 17 rfl at_16 (by decide) ?_
  refine Go.nameI fun v2 hv2 => ?_
  refine Go.istore 19 rfl at_17 (Ls' := #[.val (.int p1), .val (.int p2), .val (.int p3), .val (.int p4), .val (.int p5), .val (.int v1), .val (.int v2), .unset, .unset, .unset, .unset]) rfl ?_
  refine Go.iload 21 rfl at_19 rfl ?_
  refine Go.iloadN 22 rfl at_21 rfl ?_
  refine Go.iloadN 23 rfl at_22 rfl ?_
  refine Go.callS 26 rfl (C := B1) [.int v1, .int p2, .int p3] (rest := []) 1 2 3 4 (c1 Z hw h0 v1 p2 p3 cs hS hcs) at_23 rfl rfl rfl rfl (by decide) pd1 rfl rfl rfl (W := 0) (Nat.le_of_ble_eq_true rfl) (by decide) (by decide) (by decide) (by decide) fun v3 h4 q5 => ?_
  obtain ⟨t, vs, rfl, g6, K7, A8, e9⟩ := q5
  have z10 : Z.heap.size ≤ t := Nat.le_trans hle g6
  refine Go.astore 28 rfl at_26 rfl (Ls' := #[.val (.int p1), .val (.int p2), .val (.int p3), .val (.int p4), .val (.int p5), .val (.int v1), .val (.int v2), .val (.ref t), .unset, .unset, .unset]) rfl ?_
  refine Go.iload 30 rfl at_28 rfl ?_
  refine Go.iloadN 31 rfl at_30 rfl ?_
  refine Go.iload 33 rfl at_31 rfl ?_
  refine Go.callS 36 rfl (C := B1) [.int v2, .int p4, .int p5] (rest := []) 1 2 3 4 (c1 Z hw h4 v2 p4 p5 cs hS hcs) at_33 rfl rfl rfl rfl (by decide) pd1 rfl rfl rfl (W := 0) (Nat.le_of_ble_eq_true rfl) (by decide) (by decide) (by decide) (by decide) fun v11 h12 q13 => ?_
  obtain ⟨u, us, rfl, g14, K15, A16, e17⟩ := q13
  have z18 : Z.heap.size ≤ u := Nat.le_trans (Nat.le_trans hle K7.1) g14
  refine Go.astore 38 rfl at_36 rfl (Ls' := #[.val (.int p1), .val (.int p2), .val (.int p3), .val (.int p4), .val (.int p5), .val (.int v1), .val (.int v2), .val (.ref t), .val (.ref u), .unset, .unset]) rfl ?_
  refine Go.newO 41 rfl 7 8 9 at_38 rfl rfl rfl (by decide) (by decide) fun h20 a19 g21 z22 K23 E24 D25 => ?_
  refine Go.dup 42 rfl at_41 rfl ?_
  refine Go.aload 44 rfl at_42 rfl rfl ?_
  refine Go.aload 46 rfl at_44 rfl rfl ?_
  refine Go.callI 49 rfl (C := B2) a19 [.ref t, .ref u] (rest := [.ref a19]) 10 11 9 12 (c2 Z hw h20 a19 t u z22 E24 (D25 17 (Or.inr rfl) (ty := (.array (.object "java/lang/String"))) (by decide) : Fld Z h20 a19 "com/example/subsumer/subsumer/core/Label" "names" "[Ljava/lang/String;" (.null)) (D25 19 (Or.inr rfl) (ty := (.array (.object "java/lang/String"))) (by decide) : Fld Z h20 a19 "com/example/subsumer/subsumer/core/Label" "negated" "[Ljava/lang/String;" (.null))) at_46 rfl rfl rfl rfl rfl rfl (by decide) pd2 rfl rfl rfl (W := 1) (Nat.le_of_ble_eq_true rfl) (by decide) (by decide) (by decide) (by decide) fun v26 h27 q28 => ?_
  obtain ⟨rfl, K29, F30, F31⟩ := q28
  refine Go.astore 51 rfl at_49 rfl (Ls' := #[.val (.int p1), .val (.int p2), .val (.int p3), .val (.int p4), .val (.int p5), .val (.int v1), .val (.int v2), .val (.ref t), .val (.ref u), .val (.ref a19), .unset]) rfl ?_
  refine Go.iload 53 rfl at_51 rfl ?_
  refine Go.joinI (pcJ := 66) (LsJ := #[.val (.int p1), .val (.int p2), .val (.int p3), .val (.int p4), .val (.int p5), .val (.int v1), .val (.int v2), .val (.ref t), .val (.ref u), .val (.ref a19), .unset]) (stJ := []) (fun v => v = if v1 = 0 ∧ v2 = 0 then 1 else 0) (fun J => ?_) (fun ex hex => ?_)
  · refine Go.if_ne 65 56 at_53 (by decide) rfl rfl (fun (b32 : ¬ v1 = 0) => ?_) (fun (b32 : v1 = 0) => ?_)
    · refine Go.iconst 66 rfl (0 : Int32) at_65 rfl ?_
      exact J _ (by simp [b32])
    · refine Go.iload 58 rfl at_56 rfl ?_
      refine Go.if_ne 65 61 at_58 (by decide) rfl rfl (fun (b33 : ¬ v2 = 0) => ?_) (fun (b33 : v2 = 0) => ?_)
      · refine Go.iconst 66 rfl (0 : Int32) at_65 rfl ?_
        exact J _ (by simp [b33])
      · refine Go.iconst 62 rfl (1 : Int32) at_61 rfl ?_
        refine Go.goto 66 at_62 (by decide) (by decide) ?_
        exact J _ (by simp [b32, b33])
  · refine Go.istore 68 rfl at_66 (Ls' := #[.val (.int p1), .val (.int p2), .val (.int p3), .val (.int p4), .val (.int p5), .val (.int v1), .val (.int v2), .val (.ref t), .val (.ref u), .val (.ref a19), .val (.int ex)]) rfl ?_
    refine Go.aload 70 rfl at_68 rfl rfl ?_
    have ne34 : t ≠ a19 := (show @Ne Nat t a19 from by have := ltN A8.lt; have := K15.1; have := g21; omega)
    have F35 : Ary Z h27 t (.object "java/lang/String") vs := (((A8.keep K15 nin0).keep K23 nin0).keep K29 (ninS ne34 nin0))
    have ne36 : u ≠ a19 := (show @Ne Nat u a19 from by have := ltN A16.lt; have := g21; omega)
    have F37 : Ary Z h27 u (.object "java/lang/String") us := ((A16.keep K23 nin0).keep K29 (ninS ne36 nin0))
    have F41 : Exa Z h27 a19 "com/example/subsumer/subsumer/core/Label" := (E24.keep K29)
    refine Go.callV 73 rfl (C := B4) a19 [] (rest := []) 20 21 23 22 9 24 (c4 Z hw h27 a19 vs us t u F30 F31 F35 F37) F41 at_70 rfl rfl rfl rfl rfl rfl (by decide) pd4 rfl rfl rfl (W := 0) (Nat.le_of_ble_eq_true rfl) (by decide) (by decide) (by decide) (by decide) fun v38 h39 q40 => ?_
    obtain ⟨rfl, rfl⟩ := q40
    refine Go.iload 75 rfl at_73 rfl ?_
    refine Go.icmp_ne 82 78 at_75 (by decide) rfl rfl (fun (b42 : ¬ (if vs.length = 0 ∧ us.length = 0 then 1 else 0) = ex) => ?_) (fun (b42 : (if vs.length = 0 ∧ us.length = 0 then 1 else 0) = ex) => ?_)
    · exact absurd (own_ex hex e9 e17) b42
    · refine Go.iconst 79 rfl (1 : Int32) at_78 rfl ?_
      refine Go.goto 83 at_79 (by decide) (by decide) ?_
      exact Go.retN (t := .boolean) (z' := (1 : Int32)) at_83 rfl (by decide) rfl (by decide) (by decide) rfl
set_option maxRecDepth 65536 in
set_option maxHeartbeats 40000000 in
theorem comes_1 {Post : Tables → Env → Array Value → State → Outcome → State → Prop} (hpost : ∀ tb e args s v u, (limb_1_1.after args s (.returned v) u = true ∧ limb_1_2.after args s (.returned v) u = true ∧ True) → FrameEnd s (.returned v) u (Jvm.fieldLocs frame_1_writes args s ++ Jvm.arrayLocs frame_1_arrays args s ++ Jvm.staticLocs frame_1_statics s) 32 128 → Post tb e args s (.returned v) u) :
    ArmFor flags0 classFile x code maxLocals ret World_1 tables_1 room_1 Calls_1 rest_1 Pre_1 Post := by
  intro l hfl _ _ p e ha hc hk s m args below hf hA hF happ hP
  obtain ⟨hcalls, hrest, hpre⟩ := hP
  obtain ⟨-, -, -, hnamed, -, -, -, hat⟩ := (Spec.applies_iff hf).mp happ
  obtain ⟨hg, hn⟩ := and_e (Cond.before_iff.mp (show (Jvm.Cond.and given_1 narrow_1).before args s = true from hpre))
  obtain ⟨hg1, hg2⟩ := and_e hg
  obtain ⟨w0, w1, w2, w3, w4, rfl⟩ : ∃ w0 w1 w2 w3 w4 : Value, args = #[w0, w1, w2, w3, w4] := by
    have hs : args.size = 5 := by simpa [Cond.value, given_1] using hg1
    obtain ⟨L⟩ := args
    match L, hs with
    | [w0, w1, w2, w3, w4], _ => exact ⟨w0, w1, w2, w3, w4, rfl⟩
  obtain ⟨ga0, gb0⟩ := and_e hg2
  obtain ⟨i0, e0⟩ := is_v ga0
  obtain rfl : w0 = (.int i0) := Option.some.inj e0
  obtain ⟨ga1, gb1⟩ := and_e gb0
  obtain ⟨i1, e1⟩ := is_v ga1
  obtain rfl : w1 = (.int i1) := Option.some.inj e1
  obtain ⟨ga2, gb2⟩ := and_e gb1
  obtain ⟨i2, e2⟩ := is_v ga2
  obtain rfl : w2 = (.int i2) := Option.some.inj e2
  obtain ⟨ga3, gb3⟩ := and_e gb2
  obtain ⟨i3, e3⟩ := is_v ga3
  obtain rfl : w3 = (.int i3) := Option.some.inj e3
  obtain ⟨i4, e4⟩ := is_v gb3
  obtain rfl : w4 = (.int i4) := Option.some.inj e4
  have hw : Wd s tables_1 := ⟨_, fun d (hd : d ∈ tables_1) => atoms_spec (ws := Jvm.Cond.code x code maxLocals ret :: tables_1) hat d (List.mem_cons_of_mem _ hd)⟩
  have hfit : Fit s := fun {y c} hc i hi => by
    obtain ⟨ha, rfl⟩ := Array.getElem?_eq_some_iff.mp hc
    have q := List.all_eq_true.mp ((Array.all_eq_true_iff_forall_mem.mp hF) _ (Array.getElem_mem ha)) i (List.mem_range.mpr hi)
    simpa [Array.getElem?_eq_getElem hi] using q
  obtain ⟨hsets, hown0⟩ := atoms_of _ (rest_1_c_eq ▸ (show rest_1_c.before _ s = true from hrest))
  obtain ⟨cs, ecs⟩ := is_v (Cond.before_iff.mp (hsets _ (List.mem_of_getElem? (i := 1) rfl)))
  have hS : Sta s s.heap "java/lang/String" "COMPACT_STRINGS" "Z" (.int cs) := Sta.start ecs (Or.inl (hsets _ (List.mem_of_getElem? (i := 0) rfl)))
  have hcs : ¬ (cs = (0 : Int32)) := gotF (Cond.eq_ints ecs (Term.int_eval (0))) (not_v (Cond.before_iff.mp (hsets _ (List.mem_of_getElem? (i := 2) rfl))))
  obtain ⟨n, o, h1, h2, h3, _, L, rfl, ⟨hv, -, N⟩, hq⟩ := c0 s hw s.heap i0 i1 i2 i3 i4 cs hS hcs ⟨Nat.le_refl _, fun _ _ q => q⟩ l tables_1 p e ha hc hk s m _ below hf ((Spec.applies_iff_loose hf).mp happ).1 ⟨rfl, State.Warmed39.refl s, rfl⟩ trivial
  cases (show _ = some (Value.int 1) from hv)
  refine ⟨n, _, h1, h2, h3, hpost _ _ _ _ _ _ ⟨Cond.after_iff.mpr rfl, Cond.after_iff.mpr (eq_i res_at (Term.int_eval (1)) rfl), trivial⟩ ⟨hq.1, hq.2.1, (hq.2.2.sift fun y hy => Or.inr (N y hy)).mono (by decide) (by decide)⟩⟩
theorem main_1_1 : Claimed_1_1 := comes_1 fun _ _ _ _ _ _ h hF => ⟨h.1, hF⟩
theorem main_1_2 : Claimed_1_2 := comes_1 fun _ _ _ _ _ _ h hF => ⟨h.2.1, hF⟩
end Jvm.Pilot.@@N@@
namespace Jvm.Pilot.@@N@@
open Jvm Jvm.ClassFile Sem Op Lib Jvm.Free Jvm.Stand Jvm.Pilot.@@N@@.Jvm.D
/-! MADE BY PROGRAM (witnessworld.py) out of the Statement's table words and the real class files: 18 classes; the members and pool entries that the words name. The judged class is class 1, her method 1. -/
namespace start1
open Jvm.ClassFile
def u (s : String) : CpInfo := .utf8 (stringToUtf16 s)
/-- a pool by its gaps: so many unusable entries, then the entry; so many at the end -/
def gap : Nat → List CpInfo → List CpInfo
  | 0, r => r
  | n + 1, r => .unusable :: gap n r
def poolList (es : List (Nat × CpInfo)) (last : Nat) : List CpInfo := es.foldr (fun e r => gap e.1 (e.2 :: r)) (gap last [])
def pool (es : List (Nat × CpInfo)) (last : Nat) : Array CpInfo := ⟨poolList es last⟩
def fileOf (pool : Array CpInfo) (this : Nat) (attrs : Array Attribute := #[]) (ms : Array MethodInfo := #[]) (fl : Nat := 33) (sup : Nat := 0) (ifs : Array Nat := #[]) (fds : Array FieldInfo := #[]) : ClassFile where
  minorVersion := 0
  majorVersion := 65
  constantPool := pool
  accessFlags := fl
  thisClass := this
  superClass := sup
  interfaces := ifs
  fields := fds
  methods := ms
  attributes := attrs
def plain (name : String) (sup : Option ClassId) : Class where
  name := name
  kind := .ordinary
  loader := none
  accessFlags := 33
  super := sup
  interfaces := #[]
  cf := none
  fields := #[]
  methods := #[]
  instanceTypes := #[]
  staticTypes := #[]
  resolved := #[]
  callSites := []
  init := .initialized
  statics := none
  mirror := none

def pool0 : Array CpInfo := pool [(5, u "<init>"), (0, u "()V"), (1, .class_ 10), (1, u "java/lang/Object")] 113

def k0c0 : Code := { maxStack := 0, maxLocals := 1, code := object_method_1_code, exceptionTable := #[], attributes := #[] }
def k0m0 : Method := { name := "<init>", desc := "()V", sig := { parameters := [], returnType := none }, accessFlags := 1, code := some k0c0 }
/-- java/lang/Object -/
def k0 : Class := { plain "java/lang/Object" none with
  accessFlags := 33
  interfaces := #[]
  cf := some (fileOf pool0 8 #[] #[{ accessFlags := 1, nameIndex := 5, descriptorIndex := 6, attributes := #[] }] 33 0 #[] #[])
  fields := #[]
  methods := #[k0m0]
  instanceTypes := #[]
  staticTypes := #[]
  resolved := Array.replicate 124 none
  statics := none }

def pool1 : Array CpInfo := pool [(2, .class_ 4), (1, u "java/lang/Object"), (0, u "<init>"), (0, u "()V"), (0, .integer 2147483647), (0, .methodref 9 10), (0, .class_ 11), (0, .nameAndType 12 13), (0, u "com/example/subsumer/subsumer/core/LabelIsEmptyPinLaw"), (0, u "pick"), (0, u "(III)[Ljava/lang/String;"), (0, .class_ 15), (0, u "com/example/subsumer/subsumer/core/Label"), (0, .methodref 14 17), (0, .nameAndType 5 18), (0, u "([Ljava/lang/String;[Ljava/lang/String;)V"), (0, .methodref 14 20), (0, .nameAndType 21 22), (0, u "isEmpty"), (0, u "()Z"), (0, .class_ 24), (0, u "java/lang/String"), (0, .methodref 23 26), (0, .nameAndType 27 28), (0, u "valueOf"), (0, u "(C)Ljava/lang/String;"), (2, u "law"), (0, u "(IIIII)Z")] 5

def k1m0 : Method := { name := "<init>", desc := "()V", sig := { parameters := [], returnType := none }, accessFlags := 1, code := none }
def k1c1 : Code := { maxStack := 4, maxLocals := 11, code := code, exceptionTable := #[], attributes := #[] }
def k1m1 : Method := { name := "law", desc := "(IIIII)Z", sig := { parameters := [.int, .int, .int, .int, .int], returnType := some .boolean }, accessFlags := 9, code := some k1c1 }
def k1c2 : Code := { maxStack := 4, maxLocals := 5, code := method_3_code, exceptionTable := #[], attributes := #[] }
def k1m2 : Method := { name := "pick", desc := "(III)[Ljava/lang/String;", sig := { parameters := [.int, .int, .int], returnType := some (.array (.object "java/lang/String")) }, accessFlags := 10, code := some k1c2 }
/-- com/example/subsumer/subsumer/core/LabelIsEmptyPinLaw -/
def k1 : Class := { plain "com/example/subsumer/subsumer/core/LabelIsEmptyPinLaw" (some 0) with
  accessFlags := 49
  interfaces := #[]
  cf := some (fileOf pool1 9 #[] #[{ accessFlags := 1, nameIndex := 5, descriptorIndex := 6, attributes := #[] }, { accessFlags := 9, nameIndex := 31, descriptorIndex := 32, attributes := #[] }, { accessFlags := 10, nameIndex := 12, descriptorIndex := 13, attributes := #[] }] 49 2 #[] #[])
  fields := #[]
  methods := #[k1m0, k1m1, k1m2]
  instanceTypes := #[]
  staticTypes := #[]
  resolved := Array.replicate 38 none
  statics := none }

def pool2 : Array CpInfo := pool [(1, .class_ 2), (0, u "java/io/Serializable"), (0, .class_ 4), (0, u "java/lang/Object")] 2

/-- java/io/Serializable -/
def k2 : Class := { plain "java/io/Serializable" (some 0) with
  accessFlags := 1537
  interfaces := #[]
  cf := some (fileOf pool2 1 #[] #[] 1537 3 #[] #[])
  fields := #[]
  methods := #[]
  instanceTypes := #[]
  staticTypes := #[]
  resolved := Array.replicate 7 none
  statics := none }

def pool3 : Array CpInfo := pool [(1, .class_ 2), (0, u "java/lang/Comparable"), (0, .class_ 4), (0, u "java/lang/Object")] 7

/-- java/lang/Comparable -/
def k3 : Class := { plain "java/lang/Comparable" (some 0) with
  accessFlags := 1537
  interfaces := #[]
  cf := some (fileOf pool3 1 #[] #[] 1537 3 #[] #[])
  fields := #[]
  methods := #[]
  instanceTypes := #[]
  staticTypes := #[]
  resolved := Array.replicate 12 none
  statics := none }

def pool4 : Array CpInfo := pool [(2, .class_ 4), (1, u "java/lang/CharSequence"), (42, .class_ 48), (0, u "java/lang/CharSequence$1CodePointIterator"), (10, .class_ 60), (0, u "java/lang/CharSequence$1CharIterator"), (5, .class_ 67), (0, u "java/lang/Object")] 63

/-- java/lang/CharSequence -/
def k4 : Class := { plain "java/lang/CharSequence" (some 0) with
  accessFlags := 1537
  interfaces := #[]
  cf := some (fileOf pool4 2 #[.nestMembers #[47, 59]] #[] 1537 66 #[] #[])
  fields := #[]
  methods := #[]
  instanceTypes := #[]
  staticTypes := #[]
  resolved := Array.replicate 131 none
  statics := none }

def pool5 : Array CpInfo := pool [(1, .class_ 2), (0, u "java/lang/constant/Constable"), (0, .class_ 4), (0, u "java/lang/Object")] 6

/-- java/lang/constant/Constable -/
def k5 : Class := { plain "java/lang/constant/Constable" (some 0) with
  accessFlags := 1537
  interfaces := #[]
  cf := some (fileOf pool5 1 #[] #[] 1537 3 #[] #[])
  fields := #[]
  methods := #[]
  instanceTypes := #[]
  staticTypes := #[]
  resolved := Array.replicate 11 none
  statics := none }

def pool6 : Array CpInfo := pool [(1, .class_ 2), (0, u "java/lang/constant/ConstantDesc"), (0, .class_ 4), (0, u "java/lang/Object")] 32

/-- java/lang/constant/ConstantDesc -/
def k6 : Class := { plain "java/lang/constant/ConstantDesc" (some 0) with
  accessFlags := 1537
  interfaces := #[]
  cf := some (fileOf pool6 1 #[] #[] 1537 3 #[] #[])
  fields := #[]
  methods := #[]
  instanceTypes := #[]
  staticTypes := #[]
  resolved := Array.replicate 37 none
  statics := none }

def pool7 : Array CpInfo := pool [(1, .methodref 2 3), (0, .class_ 4), (0, .nameAndType 5 6), (0, u "java/lang/Object"), (0, u "<init>"), (0, u "()V"), (2, .fieldref 10 11), (0, .class_ 12), (0, .nameAndType 13 14), (0, u "java/lang/String"), (0, u "value"), (0, u "[B"), (0, .fieldref 10 16), (0, .nameAndType 17 18), (0, u "coder"), (0, u "B"), (2, u "hash"), (0, u "I"), (2, u "hashIsZero"), (0, u "Z"), (11, .fieldref 10 39), (0, .nameAndType 40 26), (0, u "COMPACT_STRINGS"), (12, u "toBytes"), (53, .class_ 109), (1, u "java/lang/StringLatin1"), (99, .methodref 10 210), (0, .nameAndType 5 211), (0, u "([BB)V"), (157, u "(C)Z"), (205, .class_ 576), (0, u "java/lang/CharSequence"), (22, u "CASE_INSENSITIVE_ORDER"), (0, u "Ljava/util/Comparator;"), (181, u "valueOf"), (0, u "(C)Ljava/lang/String;"), (231, .methodref 107 1016), (0, .nameAndType 1017 369), (0, u "canEncode"), (0, .methodref 107 1019), (0, .nameAndType 53 1020), (0, u "(C)[B"), (80, u "serialPersistentFields"), (0, u "[Ljava/io/ObjectStreamField;"), (0, .class_ 1104), (0, u "java/lang/String$CaseInsensitiveComparator"), (1, .class_ 1107), (0, u "java/io/Serializable"), (0, .class_ 1109), (0, u "java/lang/Comparable"), (0, .class_ 1111), (0, u "java/lang/constant/Constable"), (0, .class_ 1113), (0, u "java/lang/constant/ConstantDesc"), (2, u "serialVersionUID"), (0, u "J"), (3, u "REPL"), (0, u "C"), (2, u "LATIN1"), (1, u "UTF16")] 323

def k7m0 : Method := { name := "<init>", desc := "()V", sig := { parameters := [], returnType := none }, accessFlags := 1, code := none }
def k7c1 : Code := { maxStack := 4, maxLocals := 1, code := jdk_42_method_139_code, exceptionTable := #[], attributes := #[] }
def k7m1 : Method := { name := "valueOf", desc := "(C)Ljava/lang/String;", sig := { parameters := [.char], returnType := some (.object "java/lang/String") }, accessFlags := 9, code := some k7c1 }
def k7c2 : Code := { maxStack := 2, maxLocals := 3, code := jdk_42_method_151_code, exceptionTable := #[], attributes := #[] }
def k7m2 : Method := { name := "<init>", desc := "([BB)V", sig := { parameters := [(.array .byte), .byte], returnType := none }, accessFlags := 0, code := some k7c2 }
/-- java/lang/String -/
def k7 : Class := { plain "java/lang/String" (some 0) with
  accessFlags := 49
  interfaces := #[2, 3, 4, 5, 6]
  cf := some (fileOf pool7 10 #[.nestMembers #[1103]] #[{ accessFlags := 1, nameIndex := 5, descriptorIndex := 6, attributes := #[] }, { accessFlags := 9, nameIndex := 782, descriptorIndex := 783, attributes := #[] }, { accessFlags := 0, nameIndex := 5, descriptorIndex := 211, attributes := #[] }] 49 2 #[1106, 1108, 575, 1110, 1112] #[{ accessFlags := 18, nameIndex := 13, descriptorIndex := 14, attributes := #[] }, { accessFlags := 18, nameIndex := 17, descriptorIndex := 18, attributes := #[] }, { accessFlags := 2, nameIndex := 21, descriptorIndex := 22, attributes := #[] }, { accessFlags := 2, nameIndex := 25, descriptorIndex := 26, attributes := #[] }, { accessFlags := 26, nameIndex := 1116, descriptorIndex := 1117, attributes := #[] }, { accessFlags := 24, nameIndex := 40, descriptorIndex := 26, attributes := #[] }, { accessFlags := 26, nameIndex := 1101, descriptorIndex := 1102, attributes := #[] }, { accessFlags := 26, nameIndex := 1121, descriptorIndex := 1122, attributes := #[] }, { accessFlags := 25, nameIndex := 599, descriptorIndex := 600, attributes := #[] }, { accessFlags := 24, nameIndex := 1125, descriptorIndex := 18, attributes := #[] }, { accessFlags := 24, nameIndex := 1127, descriptorIndex := 18, attributes := #[] }])
  fields := #[{ name := "value", type := (.array .byte), accessFlags := 18, slot := 0, constantValue := 0 }, { name := "coder", type := .byte, accessFlags := 18, slot := 1, constantValue := 0 }, { name := "hash", type := .int, accessFlags := 2, slot := 2, constantValue := 0 }, { name := "hashIsZero", type := .boolean, accessFlags := 2, slot := 3, constantValue := 0 }, { name := "serialVersionUID", type := .long, accessFlags := 26, slot := 0, constantValue := 0 }, { name := "COMPACT_STRINGS", type := .boolean, accessFlags := 24, slot := 1, constantValue := 0 }, { name := "serialPersistentFields", type := (.array (.object "java/io/ObjectStreamField")), accessFlags := 26, slot := 2, constantValue := 0 }, { name := "REPL", type := .char, accessFlags := 26, slot := 3, constantValue := 0 }, { name := "CASE_INSENSITIVE_ORDER", type := (.object "java/util/Comparator"), accessFlags := 25, slot := 4, constantValue := 0 }, { name := "LATIN1", type := .byte, accessFlags := 24, slot := 5, constantValue := 0 }, { name := "UTF16", type := .byte, accessFlags := 24, slot := 6, constantValue := 0 }]
  methods := #[k7m0, k7m1, k7m2]
  instanceTypes := #[(.array .byte), .byte, .int, .boolean]
  staticTypes := #[.long, .boolean, (.array (.object "java/io/ObjectStreamField")), .char, (.object "java/util/Comparator"), .byte, .byte]
  resolved := Array.replicate 1451 none
  statics := some 0 }

def pool8 : Array CpInfo := pool [(1, .methodref 2 3), (0, .class_ 4), (0, .nameAndType 5 6), (0, u "java/lang/Object"), (0, u "<init>"), (0, u "()V"), (0, .fieldref 8 9), (0, .class_ 10), (0, .nameAndType 11 12), (0, u "com/example/subsumer/subsumer/core/Label"), (0, u "names"), (0, u "[Ljava/lang/String;"), (0, .fieldref 8 14), (0, .nameAndType 15 12), (0, u "negated"), (4, u "isEmpty"), (0, u "()Z"), (2, u "EMPTY"), (0, u "Lcom/example/subsumer/subsumer/core/Label;"), (17, u "([Ljava/lang/String;[Ljava/lang/String;)V"), (34, u "NONE")] 60

def k8c0 : Code := { maxStack := 2, maxLocals := 3, code := prog_13_method_1_code, exceptionTable := #[], attributes := #[] }
def k8m0 : Method := { name := "<init>", desc := "([Ljava/lang/String;[Ljava/lang/String;)V", sig := { parameters := [(.array (.object "java/lang/String")), (.array (.object "java/lang/String"))], returnType := none }, accessFlags := 0, code := some k8c0 }
def k8c1 : Code := { maxStack := 1, maxLocals := 1, code := prog_13_method_5_code, exceptionTable := #[], attributes := #[] }
def k8m1 : Method := { name := "isEmpty", desc := "()Z", sig := { parameters := [], returnType := some .boolean }, accessFlags := 1, code := some k8c1 }
/-- com/example/subsumer/subsumer/core/Label -/
def k8 : Class := { plain "com/example/subsumer/subsumer/core/Label" (some 0) with
  accessFlags := 49
  interfaces := #[]
  cf := some (fileOf pool8 8 #[] #[{ accessFlags := 0, nameIndex := 5, descriptorIndex := 43, attributes := #[] }, { accessFlags := 1, nameIndex := 20, descriptorIndex := 21, attributes := #[] }] 49 2 #[] #[{ accessFlags := 24, nameIndex := 78, descriptorIndex := 12, attributes := #[] }, { accessFlags := 25, nameIndex := 24, descriptorIndex := 25, attributes := #[] }, { accessFlags := 16, nameIndex := 11, descriptorIndex := 12, attributes := #[] }, { accessFlags := 16, nameIndex := 15, descriptorIndex := 12, attributes := #[] }])
  fields := #[{ name := "NONE", type := (.array (.object "java/lang/String")), accessFlags := 24, slot := 0, constantValue := 0 }, { name := "EMPTY", type := (.object "com/example/subsumer/subsumer/core/Label"), accessFlags := 25, slot := 1, constantValue := 0 }, { name := "names", type := (.array (.object "java/lang/String")), accessFlags := 16, slot := 0, constantValue := 0 }, { name := "negated", type := (.array (.object "java/lang/String")), accessFlags := 16, slot := 1, constantValue := 0 }]
  methods := #[k8m0, k8m1]
  instanceTypes := #[(.array (.object "java/lang/String")), (.array (.object "java/lang/String"))]
  staticTypes := #[(.array (.object "java/lang/String")), (.object "com/example/subsumer/subsumer/core/Label")]
  resolved := Array.replicate 139 none
  statics := none }

def pool9 : Array CpInfo := pool [(4, .class_ 6), (1, u "java/lang/Object"), (0, u "<init>"), (0, u "()V"), (5, .class_ 16), (1, u "java/lang/StringLatin1"), (73, u "canEncode"), (14, u "(C)Z"), (15, u "$assertionsDisabled"), (0, u "Z"), (98, .class_ 223), (1, u "java/lang/StringLatin1$LinesSpliterator"), (156, u "toBytes"), (1, u "(C)[B"), (7, .class_ 391), (0, u "java/lang/StringLatin1$CharsSpliterator")] 3

def k9m0 : Method := { name := "<init>", desc := "()V", sig := { parameters := [], returnType := none }, accessFlags := 0, code := none }
def k9c1 : Code := { maxStack := 2, maxLocals := 1, code := jdk_43_method_3_code, exceptionTable := #[], attributes := #[] }
def k9m1 : Method := { name := "canEncode", desc := "(C)Z", sig := { parameters := [.char], returnType := some .boolean }, accessFlags := 9, code := some k9c1 }
def k9c2 : Code := { maxStack := 4, maxLocals := 1, code := jdk_43_method_46_code, exceptionTable := #[], attributes := #[] }
def k9m2 : Method := { name := "toBytes", desc := "(C)[B", sig := { parameters := [.char], returnType := some (.array .byte) }, accessFlags := 9, code := some k9c2 }
/-- java/lang/StringLatin1 -/
def k9 : Class := { plain "java/lang/StringLatin1" (some 0) with
  accessFlags := 48
  interfaces := #[]
  cf := some (fileOf pool9 14 #[.nestMembers #[390, 221]] #[{ accessFlags := 0, nameIndex := 7, descriptorIndex := 8, attributes := #[] }, { accessFlags := 9, nameIndex := 90, descriptorIndex := 105, attributes := #[] }, { accessFlags := 9, nameIndex := 380, descriptorIndex := 382, attributes := #[] }] 48 4 #[] #[{ accessFlags := 4120, nameIndex := 121, descriptorIndex := 122, attributes := #[] }])
  fields := #[{ name := "$assertionsDisabled", type := .boolean, accessFlags := 4120, slot := 0, constantValue := 0 }]
  methods := #[k9m0, k9m1, k9m2]
  instanceTypes := #[]
  staticTypes := #[.boolean]
  resolved := Array.replicate 395 none
  statics := none }

def pool10 : Array CpInfo := pool [(2, .class_ 4), (1, u "java/lang/Object"), (0, u "<init>"), (0, u "()V"), (17, .class_ 26), (1, u "jdk/internal/util/Preconditions"), (28, .class_ 56), (0, u "jdk/internal/util/Preconditions$4"), (57, .class_ 115), (0, u "jdk/internal/util/Preconditions$1"), (7, u "SIOOBE_FORMATTER"), (0, u "Ljava/util/function/BiFunction;"), (0, .class_ 126), (0, u "jdk/internal/util/Preconditions$2"), (3, u "AIOOBE_FORMATTER"), (0, .class_ 132), (0, u "jdk/internal/util/Preconditions$3"), (3, u "IOOBE_FORMATTER")] 57

def k10m0 : Method := { name := "<init>", desc := "()V", sig := { parameters := [], returnType := none }, accessFlags := 1, code := none }
/-- jdk/internal/util/Preconditions -/
def k10 : Class := { plain "jdk/internal/util/Preconditions" (some 0) with
  accessFlags := 33
  interfaces := #[]
  cf := some (fileOf pool10 24 #[.nestMembers #[55, 131, 125, 114]] #[{ accessFlags := 1, nameIndex := 5, descriptorIndex := 6, attributes := #[] }] 33 2 #[] #[{ accessFlags := 25, nameIndex := 123, descriptorIndex := 124, attributes := #[] }, { accessFlags := 25, nameIndex := 130, descriptorIndex := 124, attributes := #[] }, { accessFlags := 25, nameIndex := 136, descriptorIndex := 124, attributes := #[] }])
  fields := #[{ name := "SIOOBE_FORMATTER", type := (.object "java/util/function/BiFunction"), accessFlags := 25, slot := 0, constantValue := 0 }, { name := "AIOOBE_FORMATTER", type := (.object "java/util/function/BiFunction"), accessFlags := 25, slot := 1, constantValue := 0 }, { name := "IOOBE_FORMATTER", type := (.object "java/util/function/BiFunction"), accessFlags := 25, slot := 2, constantValue := 0 }]
  methods := #[k10m0]
  instanceTypes := #[]
  staticTypes := #[(.object "java/util/function/BiFunction"), (.object "java/util/function/BiFunction"), (.object "java/util/function/BiFunction")]
  resolved := Array.replicate 194 none
  statics := some 1 }

def pool11 : Array CpInfo := pool [(9, u "<init>"), (6, .class_ 18), (1, u "java/lang/Object"), (0, u "()V"), (1, .class_ 23), (1, u "jdk/internal/util/ArraysSupport"), (0, u "LOG2_ARRAY_LONG_INDEX_SCALE"), (0, u "I"), (2, u "U"), (0, u "Ljdk/internal/misc/Unsafe;"), (8, u "BIG_ENDIAN"), (0, u "Z"), (8, u "LOG2_BYTE_BIT_SIZE"), (4, u "LOG2_ARRAY_INT_INDEX_SCALE"), (54, u "JLA"), (0, u "Ljdk/internal/access/JavaLangAccess;"), (11, u "LOG2_ARRAY_BOOLEAN_INDEX_SCALE"), (9, u "LOG2_ARRAY_BYTE_INDEX_SCALE"), (5, u "LOG2_ARRAY_CHAR_INDEX_SCALE"), (5, u "LOG2_ARRAY_SHORT_INDEX_SCALE"), (18, u "LOG2_ARRAY_FLOAT_INDEX_SCALE"), (24, u "LOG2_ARRAY_DOUBLE_INDEX_SCALE"), (89, u "T_BOOLEAN"), (2, u "T_CHAR"), (1, u "T_FLOAT"), (1, u "T_DOUBLE"), (1, u "T_BYTE"), (1, u "T_SHORT"), (1, u "T_INT"), (1, u "T_LONG"), (1, u "SOFT_MAX_ARRAY_LENGTH")] 83

def k11m0 : Method := { name := "<init>", desc := "()V", sig := { parameters := [], returnType := none }, accessFlags := 2, code := none }
/-- jdk/internal/util/ArraysSupport -/
def k11 : Class := { plain "jdk/internal/util/ArraysSupport" (some 0) with
  accessFlags := 33
  interfaces := #[]
  cf := some (fileOf pool11 21 #[] #[{ accessFlags := 2, nameIndex := 9, descriptorIndex := 19, attributes := #[] }] 33 16 #[] #[{ accessFlags := 24, nameIndex := 28, descriptorIndex := 29, attributes := #[] }, { accessFlags := 26, nameIndex := 38, descriptorIndex := 39, attributes := #[] }, { accessFlags := 25, nameIndex := 121, descriptorIndex := 25, attributes := #[] }, { accessFlags := 25, nameIndex := 131, descriptorIndex := 25, attributes := #[] }, { accessFlags := 25, nameIndex := 137, descriptorIndex := 25, attributes := #[] }, { accessFlags := 25, nameIndex := 143, descriptorIndex := 25, attributes := #[] }, { accessFlags := 25, nameIndex := 53, descriptorIndex := 25, attributes := #[] }, { accessFlags := 25, nameIndex := 24, descriptorIndex := 25, attributes := #[] }, { accessFlags := 25, nameIndex := 162, descriptorIndex := 25, attributes := #[] }, { accessFlags := 25, nameIndex := 187, descriptorIndex := 25, attributes := #[] }, { accessFlags := 26, nameIndex := 48, descriptorIndex := 25, attributes := #[] }, { accessFlags := 25, nameIndex := 277, descriptorIndex := 25, attributes := #[] }, { accessFlags := 25, nameIndex := 280, descriptorIndex := 25, attributes := #[] }, { accessFlags := 25, nameIndex := 282, descriptorIndex := 25, attributes := #[] }, { accessFlags := 25, nameIndex := 284, descriptorIndex := 25, attributes := #[] }, { accessFlags := 25, nameIndex := 286, descriptorIndex := 25, attributes := #[] }, { accessFlags := 25, nameIndex := 288, descriptorIndex := 25, attributes := #[] }, { accessFlags := 25, nameIndex := 290, descriptorIndex := 25, attributes := #[] }, { accessFlags := 25, nameIndex := 292, descriptorIndex := 25, attributes := #[] }, { accessFlags := 26, nameIndex := 108, descriptorIndex := 109, attributes := #[] }, { accessFlags := 25, nameIndex := 294, descriptorIndex := 25, attributes := #[] }])
  fields := #[{ name := "U", type := (.object "jdk/internal/misc/Unsafe"), accessFlags := 24, slot := 0, constantValue := 0 }, { name := "BIG_ENDIAN", type := .boolean, accessFlags := 26, slot := 1, constantValue := 0 }, { name := "LOG2_ARRAY_BOOLEAN_INDEX_SCALE", type := .int, accessFlags := 25, slot := 2, constantValue := 0 }, { name := "LOG2_ARRAY_BYTE_INDEX_SCALE", type := .int, accessFlags := 25, slot := 3, constantValue := 0 }, { name := "LOG2_ARRAY_CHAR_INDEX_SCALE", type := .int, accessFlags := 25, slot := 4, constantValue := 0 }, { name := "LOG2_ARRAY_SHORT_INDEX_SCALE", type := .int, accessFlags := 25, slot := 5, constantValue := 0 }, { name := "LOG2_ARRAY_INT_INDEX_SCALE", type := .int, accessFlags := 25, slot := 6, constantValue := 0 }, { name := "LOG2_ARRAY_LONG_INDEX_SCALE", type := .int, accessFlags := 25, slot := 7, constantValue := 0 }, { name := "LOG2_ARRAY_FLOAT_INDEX_SCALE", type := .int, accessFlags := 25, slot := 8, constantValue := 0 }, { name := "LOG2_ARRAY_DOUBLE_INDEX_SCALE", type := .int, accessFlags := 25, slot := 9, constantValue := 0 }, { name := "LOG2_BYTE_BIT_SIZE", type := .int, accessFlags := 26, slot := 10, constantValue := 0 }, { name := "T_BOOLEAN", type := .int, accessFlags := 25, slot := 11, constantValue := 0 }, { name := "T_CHAR", type := .int, accessFlags := 25, slot := 12, constantValue := 0 }, { name := "T_FLOAT", type := .int, accessFlags := 25, slot := 13, constantValue := 0 }, { name := "T_DOUBLE", type := .int, accessFlags := 25, slot := 14, constantValue := 0 }, { name := "T_BYTE", type := .int, accessFlags := 25, slot := 15, constantValue := 0 }, { name := "T_SHORT", type := .int, accessFlags := 25, slot := 16, constantValue := 0 }, { name := "T_INT", type := .int, accessFlags := 25, slot := 17, constantValue := 0 }, { name := "T_LONG", type := .int, accessFlags := 25, slot := 18, constantValue := 0 }, { name := "JLA", type := (.object "jdk/internal/access/JavaLangAccess"), accessFlags := 26, slot := 19, constantValue := 0 }, { name := "SOFT_MAX_ARRAY_LENGTH", type := .int, accessFlags := 25, slot := 20, constantValue := 0 }]
  methods := #[k11m0]
  instanceTypes := #[]
  staticTypes := #[(.object "jdk/internal/misc/Unsafe"), .boolean, .int, .int, .int, .int, .int, .int, .int, .int, .int, .int, .int, .int, .int, .int, .int, .int, .int, (.object "jdk/internal/access/JavaLangAccess"), .int]
  resolved := Array.replicate 378 none
  statics := none }

def pool12 : Array CpInfo := pool [(1, u "java/lang/Cloneable"), (0, .class_ 1), (0, u "java/lang/Object"), (0, .class_ 3)] 3

/-- java/lang/Cloneable -/
def k12 : Class := { plain "java/lang/Cloneable" (some 0) with
  accessFlags := 1537
  interfaces := #[]
  cf := some (fileOf pool12 2 #[] #[] 1537 4 #[] #[])
  fields := #[]
  methods := #[]
  instanceTypes := #[]
  staticTypes := #[]
  resolved := Array.replicate 8 none
  statics := none }

/-- the primitive byte -/
def k13 : Class := { plain "byte" none with kind := .primitive 'B', accessFlags := 0x411 }
/-- [B -/
def k14 : Class := { plain "[B" (some 0) with kind := .array 13 .byte, interfaces := #[12, 2], accessFlags := 1041 }

/-- the primitive int -/
def k15 : Class := { plain "int" none with kind := .primitive 'I', accessFlags := 0x411 }
/-- [I -/
def k16 : Class := { plain "[I" (some 0) with kind := .array 15 .int, interfaces := #[12, 2], accessFlags := 1041 }

/-- [Ljava/lang/String; -/
def k17 : Class := { plain "[Ljava/lang/String;" (some 0) with kind := .array 7 (.object "java/lang/String"), interfaces := #[12, 2], accessFlags := 1041 }

def heap : Heap := #[{ cls := 7, slots := #[.long 0, .int 1, .null, .int 0, .null, .int 0, .int 0], vm := .statics 7 },
  { cls := 10, slots := #[.null, .null, .null], vm := .statics 10 }]
def classes : Array Class := #[k0, k1, k2, k3, k4, k5, k6, k7, k8, k9, k10, k11, k12, k13, k14, k15, k16, k17]
def interned : List (Array UInt16 × Addr) := []
def slotsUsed : Nat := 10
def theMethod : MethodId := ⟨1, 1⟩
def args0 : Array Value := #[.int 5, .int 3, .int 7, .int 2, .int 1]
def aboutOver (below : List Frame) : State where
  vm := { classes := classes, interned := interned.toArray }
  heap := heap
  slotsUsed := slotsUsed
  threads := #[{ frames := .invoking theMethod args0 :: below }]
def below0 : List Frame := [.native { method := ⟨0, 0⟩, args := #[] }]
def about1 : State := aboutOver below0
def p0 : Program := .bare "" "" ""
def e0 : Env := launch0.env 0 0 0
theorem w_frames : about1.frames = Frame.invoking theMethod args0 :: below0 := rfl
set_option maxRecDepth 65536 in
theorem w_args : argsFit about1.vm theMethod args0 = true := by decide +kernel
set_option maxRecDepth 65536 in
theorem w_heap : heapFits about1 = true := by decide +kernel
set_option maxRecDepth 65536 in
theorem w_runnable : about1.curStatus? = some .runnable := by decide +kernel
set_option maxRecDepth 65536 in
theorem w_alone : about1.alone = true := by decide +kernel
set_option maxRecDepth 65536 in
theorem w_named : about1.methodNamed? x = some theMethod := by decide +kernel
set_option maxRecDepth 65536 in
theorem w_hears : about1.hears theMethod below0 = true := by decide +kernel
set_option maxRecDepth 65536 in
theorem w_ripe : about1.ripe theMethod args0 below0 = true := by decide +kernel
theorem w_running : about1.status = .running := rfl
set_option maxRecDepth 65536 in
theorem w_room : about1.hasRoom e0.platform room_1 = true :=
  launch0.hasRoom_least _ room_1 (by decide +kernel) (by decide +kernel) (by decide +kernel) (by decide +kernel) (by decide +kernel) (by decide +kernel)
theorem allAtoms_all (ts : List Jvm.Cond) (a : Array Jvm.Value) (st : Jvm.State) : (allAtoms ts).before a st = ts.all (fun c => c.before a st) := by
  induction ts with
  | nil => rfl
  | cons c t ih =>
    show (Jvm.Cond.and c (allAtoms t)).before a st = _
    rw [Jvm.Cond.before_and, ih, List.all_cons]
def words1 : List Jvm.Cond := Jvm.Cond.code x code maxLocals ret :: tables_1
/-- a 'code' word, met by the world's own term for the bytes: nothing is compared byte by byte -/
theorem code_word {y : MethodName} {bytes : ByteArray} {mx : Nat} {rt : Option FieldType} {a : Array Value} {s : State} {m : MethodId} {meth : Method} {c : Code} (h1 : s.methodNamed? y = some m) (h2 : s.vm.method? m = some meth) (h3 : meth.code = some c) (h4 : c.code = bytes)
    (h5 : (c.maxLocals == mx && c.exceptionTable.isEmpty && decide (c.maxStack ≤ mostOperands) && decide (meth.sig.returnType = rt) && !meth.locks && decide (parseMethodDescriptor y.desc = some meth.sig)) = true) : (Jvm.Cond.code y bytes mx rt).before a s = true := by
  simp only [Bool.and_eq_true, beq_iff_eq, Bool.not_eq_true', decide_eq_true_eq] at h5
  obtain ⟨⟨⟨⟨⟨g1, g2⟩, g3⟩, g4⟩, g5⟩, g6⟩ := h5
  simp [Cond.before, Cond.holds, Cond.value, h1, h2, h3, h4, g1, g2, g3, g4, g5, g6]
def isCode : Jvm.Cond → Bool
  | .code _ _ _ _ => true
  | _ => false
theorem all_split {L : List Jvm.Cond} {P : Jvm.Cond → Bool} (h1 : L.all (fun c => isCode c || P c) = true) (h2 : ∀ c ∈ L.filter isCode, P c = true) : L.all P = true := by
  refine List.all_eq_true.mpr fun c hc => ?_
  have h := List.all_eq_true.mp h1 c hc
  rcases Bool.eq_false_or_eq_true (isCode c) with hi | hi
  · exact h2 c (List.mem_filter.mpr ⟨hc, hi⟩)
  · simpa [hi] using h
set_option maxRecDepth 65536 in
theorem w_c0 : (Jvm.Cond.code x code maxLocals ret).before args0 about1 = true := code_word (m := ⟨1, 1⟩) (meth := k1m1) (c := k1c1) (by decide +kernel) rfl rfl rfl (by decide +kernel)
set_option maxRecDepth 65536 in
theorem w_c1 : (Jvm.Cond.code ({ cls := "com/example/subsumer/subsumer/core/LabelIsEmptyPinLaw", name := "pick", desc := "(III)[Ljava/lang/String;" } : Jvm.MethodName) method_3_code (5 : Nat) (Option.some (Jvm.ClassFile.FieldType.array (Jvm.ClassFile.FieldType.object "java/lang/String")))).before args0 about1 = true := code_word (m := ⟨1, 2⟩) (meth := k1m2) (c := k1c2) (by decide +kernel) rfl rfl rfl (by decide +kernel)
set_option maxRecDepth 65536 in
theorem w_c2 : (Jvm.Cond.code ({ cls := "com/example/subsumer/subsumer/core/Label", name := "<init>", desc := "([Ljava/lang/String;[Ljava/lang/String;)V" } : Jvm.MethodName) prog_13_method_1_code (3 : Nat) (Option.none : Option Jvm.ClassFile.FieldType)).before args0 about1 = true := code_word (m := ⟨8, 0⟩) (meth := k8m0) (c := k8c0) (by decide +kernel) rfl rfl rfl (by decide +kernel)
set_option maxRecDepth 65536 in
theorem w_c3 : (Jvm.Cond.code ({ cls := "java/lang/Object", name := "<init>", desc := "()V" } : Jvm.MethodName) object_method_1_code (1 : Nat) (Option.none : Option Jvm.ClassFile.FieldType)).before args0 about1 = true := code_word (m := ⟨0, 0⟩) (meth := k0m0) (c := k0c0) (by decide +kernel) rfl rfl rfl (by decide +kernel)
set_option maxRecDepth 65536 in
theorem w_c4 : (Jvm.Cond.code ({ cls := "com/example/subsumer/subsumer/core/Label", name := "isEmpty", desc := "()Z" } : Jvm.MethodName) prog_13_method_5_code (1 : Nat) (Option.some Jvm.ClassFile.FieldType.boolean)).before args0 about1 = true := code_word (m := ⟨8, 1⟩) (meth := k8m1) (c := k8c1) (by decide +kernel) rfl rfl rfl (by decide +kernel)
set_option maxRecDepth 65536 in
theorem w_c5 : (Jvm.Cond.code ({ cls := "java/lang/String", name := "valueOf", desc := "(C)Ljava/lang/String;" } : Jvm.MethodName) jdk_42_method_139_code (1 : Nat) (Option.some (Jvm.ClassFile.FieldType.object "java/lang/String"))).before args0 about1 = true := code_word (m := ⟨7, 1⟩) (meth := k7m1) (c := k7c1) (by decide +kernel) rfl rfl rfl (by decide +kernel)
set_option maxRecDepth 65536 in
theorem w_c6 : (Jvm.Cond.code ({ cls := "java/lang/StringLatin1", name := "canEncode", desc := "(C)Z" } : Jvm.MethodName) jdk_43_method_3_code (1 : Nat) (Option.some Jvm.ClassFile.FieldType.boolean)).before args0 about1 = true := code_word (m := ⟨9, 1⟩) (meth := k9m1) (c := k9c1) (by decide +kernel) rfl rfl rfl (by decide +kernel)
set_option maxRecDepth 65536 in
theorem w_c7 : (Jvm.Cond.code ({ cls := "java/lang/StringLatin1", name := "toBytes", desc := "(C)[B" } : Jvm.MethodName) jdk_43_method_46_code (1 : Nat) (Option.some (Jvm.ClassFile.FieldType.array Jvm.ClassFile.FieldType.byte))).before args0 about1 = true := code_word (m := ⟨9, 2⟩) (meth := k9m2) (c := k9c2) (by decide +kernel) rfl rfl rfl (by decide +kernel)
set_option maxRecDepth 65536 in
theorem w_c8 : (Jvm.Cond.code ({ cls := "java/lang/String", name := "<init>", desc := "([BB)V" } : Jvm.MethodName) jdk_42_method_151_code (3 : Nat) (Option.none : Option Jvm.ClassFile.FieldType)).before args0 about1 = true := code_word (m := ⟨7, 2⟩) (meth := k7m2) (c := k7c2) (by decide +kernel) rfl rfl rfl (by decide +kernel)
def codes1 : List Jvm.Cond := [Jvm.Cond.code x code maxLocals ret, Jvm.Cond.code ({ cls := "com/example/subsumer/subsumer/core/LabelIsEmptyPinLaw", name := "pick", desc := "(III)[Ljava/lang/String;" } : Jvm.MethodName) method_3_code (5 : Nat) (Option.some (Jvm.ClassFile.FieldType.array (Jvm.ClassFile.FieldType.object "java/lang/String"))), Jvm.Cond.code ({ cls := "com/example/subsumer/subsumer/core/Label", name := "<init>", desc := "([Ljava/lang/String;[Ljava/lang/String;)V" } : Jvm.MethodName) prog_13_method_1_code (3 : Nat) (Option.none : Option Jvm.ClassFile.FieldType), Jvm.Cond.code ({ cls := "java/lang/Object", name := "<init>", desc := "()V" } : Jvm.MethodName) object_method_1_code (1 : Nat) (Option.none : Option Jvm.ClassFile.FieldType), Jvm.Cond.code ({ cls := "com/example/subsumer/subsumer/core/Label", name := "isEmpty", desc := "()Z" } : Jvm.MethodName) prog_13_method_5_code (1 : Nat) (Option.some Jvm.ClassFile.FieldType.boolean), Jvm.Cond.code ({ cls := "java/lang/String", name := "valueOf", desc := "(C)Ljava/lang/String;" } : Jvm.MethodName) jdk_42_method_139_code (1 : Nat) (Option.some (Jvm.ClassFile.FieldType.object "java/lang/String")), Jvm.Cond.code ({ cls := "java/lang/StringLatin1", name := "canEncode", desc := "(C)Z" } : Jvm.MethodName) jdk_43_method_3_code (1 : Nat) (Option.some Jvm.ClassFile.FieldType.boolean), Jvm.Cond.code ({ cls := "java/lang/StringLatin1", name := "toBytes", desc := "(C)[B" } : Jvm.MethodName) jdk_43_method_46_code (1 : Nat) (Option.some (Jvm.ClassFile.FieldType.array Jvm.ClassFile.FieldType.byte)), Jvm.Cond.code ({ cls := "java/lang/String", name := "<init>", desc := "([BB)V" } : Jvm.MethodName) jdk_42_method_151_code (3 : Nat) (Option.none : Option Jvm.ClassFile.FieldType)]
set_option maxRecDepth 65536 in
theorem codes_eq : words1.filter isCode = codes1 := rfl
theorem w_codes : ∀ c ∈ words1.filter isCode, c.before args0 about1 = true := by
  rw [codes_eq]
  intro c hc
  simp only [codes1, List.mem_cons, List.not_mem_nil, or_false] at hc
  rcases hc with rfl | rfl | rfl | rfl | rfl | rfl | rfl | rfl | rfl
  · exact w_c0
  · exact w_c1
  · exact w_c2
  · exact w_c3
  · exact w_c4
  · exact w_c5
  · exact w_c6
  · exact w_c7
  · exact w_c8
set_option maxRecDepth 65536 in
theorem w_t1 : (words1.take 24).all (fun c => isCode c || c.before args0 about1) = true := by decide +kernel
set_option maxRecDepth 65536 in
theorem w_t2 : ((words1.drop 24).take 24).all (fun c => isCode c || c.before args0 about1) = true := by decide +kernel
set_option maxRecDepth 65536 in
theorem w_t3 : ((words1.drop 24).drop 24).all (fun c => isCode c || c.before args0 about1) = true := by decide +kernel
theorem w_tables : (allAtoms (Jvm.Cond.code x code maxLocals ret :: tables_1)).before args0 about1 = true := by
  rw [allAtoms_all]
  show words1.all (fun c => c.before args0 about1) = true
  refine all_split ?_ w_codes
  rw [← List.take_append_drop 24 words1, List.all_append, w_t1, ← List.take_append_drop 24 (words1.drop 24), List.all_append, w_t2, w_t3]
  rfl
set_option maxRecDepth 65536 in
theorem w_rest : rest_1_c.before args0 about1 = true := by decide +kernel
set_option maxRecDepth 65536 in
theorem w_case : (Jvm.Cond.and given_1 narrow_1).before args0 about1 = true := by decide +kernel
theorem w_applies : (headSpec (Jvm.Cond.code x code maxLocals ret :: tables_1) room_1).applies x e0.platform about1 = true :=
  (Spec.applies_iff w_frames).mpr ⟨w_running, w_runnable, w_alone, w_named, w_hears, w_ripe, w_room, w_tables⟩
theorem atStart : AtStart classFile x code maxLocals ret World_1 tables_1 room_1 Calls_1 rest_1 Pre_1 launch0 p0 e0 about1 theMethod args0 below0 :=
  ⟨lists_1, trivial, launch0.admits_env _ _ _, launch0.least_env, fairChoices_fair.cas, fairChoices_fair.clock, w_frames, w_args, w_heap, w_applies, trivial, w_rest, w_case⟩
end start1
theorem witness_1 : WitnessClaimed_1 := ⟨start1.p0, start1.e0, start1.about1, start1.theMethod, start1.args0, start1.below0, start1.atStart⟩
end Jvm.Pilot.@@N@@
