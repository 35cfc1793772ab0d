import JvmDerived
import JvmDerived.Pilot.@@N@@Statement
import JvmDerived.Pilot.@@N@@Code
set_option linter.unusedVariables false
set_option linter.unusedSimpArgs false
namespace Jvm.Ow
open Sem ClassFile Op Lib Jvm.Stand Jvm.Free Jvm.LawKit Jvm.RoadKit
/-- what one invocation runs over -/
abbrev Cx : Type := Program × Launch × Env × State × MethodId × Array Value × List Frame × Method × Code
def Cx.p (x : Cx) : Program := x.1
def Cx.l (x : Cx) : Launch := x.2.1
def Cx.e (x : Cx) : Env := x.2.2.1
def Cx.s (x : Cx) : State := x.2.2.2.1
def Cx.m (x : Cx) : MethodId := x.2.2.2.2.1
def Cx.args (x : Cx) : Array Value := x.2.2.2.2.2.1
def Cx.below (x : Cx) : List Frame := x.2.2.2.2.2.2.1
def Cx.meth (x : Cx) : Method := x.2.2.2.2.2.2.2.1
def Cx.c (x : Cx) : Code := x.2.2.2.2.2.2.2.2
/-- a body: its name, bytes, max_locals, return type, room, and the table words of the case -/
abbrev Bd : Type := MethodName × ByteArray × Nat × Option FieldType × Room × List Cond
abbrev Bd.y (b : Bd) : MethodName := b.1
abbrev Bd.by (b : Bd) : ByteArray := b.2.1
abbrev Bd.ml (b : Bd) : Nat := b.2.2.1
abbrev Bd.rt (b : Bd) : Option FieldType := b.2.2.2.1
abbrev Bd.R (b : Bd) : Room := b.2.2.2.2.1
abbrev Bd.tb (b : Bd) : List Cond := b.2.2.2.2.2
def Wd (Z : State) (tb : List Cond) : Prop := ∃ a0 : Array Value, ∀ d ∈ tb, d.before a0 Z = true
def En (Z : State) (x : Cx) (B : Bd) : Prop := x.p.tables.exec = Jvm.exec ∧ x.c.code = B.by ∧ x.c.maxLocals = B.ml ∧ x.s.vm.findClass B.y.cls = some x.m.cls ∧ x.meth.name = B.y.name ∧ x.meth.sig.returnType = B.rt ∧ Z.Warmed39 x.s.vm ∧ x.meth.locks = false ∧ Wd Z B.tb
/-- the invocation stands at T, whose heap is h; k cells and n slots were made; nothing of the start's heap was written -/
def Sp (Z : State) (x : Cx) (B : Bd) (T : State) (k n : Nat) (h : Heap) : Prop := En Z x B ∧ Ext Z.heap h ∧ ∃ locs, Stand x.p x.l x.e B.R x.s x.m x.args x.below x.meth x.c T locs k n ∧ T.heap = h ∧ Fr Z.heap.size locs
/-- from T with this frame the invocation ends as Q says -/
def Rn (Q : Option Value → Heap → Prop) (Z : State) (x : Cx) (B : Bd) (T : State) (pc : Nat) (Ls : Array Slot) (st : List Value) : Prop :=
  ∃ t o, Steps x.p.tables x.e x.below (T.setTop (mkF x.m pc Ls st)) t ∧ t.status = .running ∧ Ended t x.below o ∧ ∃ v L, o = .returned v ∧ (Q v t.heap ∧ Ext Z.heap t.heap ∧ Fr Z.heap.size L) ∧ FrameEnd x.s o t L B.R.cells B.R.slots
/-- from every point with this heap and this frame the invocation ends as Q says -/
def Go (Q : Option Value → Heap → Prop) (Z : State) (B : Bd) (k n : Nat) (h : Heap) (pc : Nat) (Ls : Array Slot) (st : List Value) : Prop := ∀ (x : Cx) (T : State), Sp Z x B T k n h → Rn Q Z x B T pc Ls st
/-- a body's contract: from the heap h0, with the arguments as, it returns v at a heap h with Q v h -/
def Con (Z : State) (B : Bd) (as : Array Value) (h0 : Heap) (Q : Option Value → Heap → Prop) : Prop :=
  Ext Z.heap h0 → ∀ (l : Launch) (ws : List Cond), MetFree l B.y (head1 (Cond.code B.y B.by B.ml B.rt :: ws) B.R) (fun a U => a = as ∧ Z.Warmed39 U.vm ∧ U.heap = h0) (fun _ _ _ _ _ => True)
    (fun _ U o U' => ∃ v L, o = .returned v ∧ (Q v U'.heap ∧ Ext Z.heap U'.heap ∧ Fr Z.heap.size L) ∧ FrameEnd U o U' L B.R.cells B.R.slots)
/-- an array: its values -/
def Ary (Z : State) (h : Heap) (a : Addr) (ty : FieldType) (vs : List Value) : Prop := ∃ c : Cell, Arr Z h a c ty ∧ c.slots.toList = vs ∧ vs.length < 2 ^ 31 ∧ ∀ v ∈ vs, fits ty v = true
/-- an array over objects of class C -/
def Aov (Z : State) (h : Heap) (a : Addr) (C : String) : Prop := ∃ c : Cell, h[a]? = some c ∧ Ovr Z c.cls C
section St
variable {Q : Option Value → Heap → Prop} {Z : State} {x : Cx} {B : Bd} {T : State} {k n : Nat} {h h' : Heap} {pc : Nat} {Ls Ls' : Array Slot} {st rest : List Value}
theorem Wd.w {tb : List Cond} (W : Wd Z tb) : ∃ a0 : Array Value, ∀ {i : Nat} {d : Cond}, tb[i]? = some d → d.before a0 Z = true := by
  obtain ⟨a0, hw⟩ := W; exact ⟨a0, fun hi => hw _ (List.mem_of_getElem? hi)⟩
theorem Con.mk {as : Array Value} {h0 : Heap} (hw : Wd Z B.tb) (hpn : plainName B.y.cls = true) (hef : ∀ m, entryFrame m as B.ml = mkF m 0 Ls [])
    (body : Go Q Z B 0 0 h0 0 Ls []) : Con Z B as h0 Q := by
  intro hE l ws
  refine MetFree.of_bodySF (plainFor_of_name hpn) hisR ?_
  intro p e s m args below meth c s₁ Bd hml0 hP hK
  obtain ⟨rfl, hZ, hh⟩ := hP
  have X0 : Stand p l e B.R s m args below meth c s₁ [] 0 0 := Stand.of_body Bd
  have e0 : s₁.heap = h0 := by rw [← hh, Bd.state]; rfl
  obtain ⟨t, o, h1, h2, h3, h4⟩ := body (p, l, e, s, m, args, below, meth, c) s₁ ⟨⟨Bd.exec, Bd.bytes, hml0, findClass_of_methodNamed Bd.named, (name_of_methodNamed Bd.named Bd.method).1, Bd.returns, hZ, Bd.notSynchronized, hw⟩, hE, [], X0, e0, Fr.nil _⟩
  exact ⟨t, o, castTop (hef m) h1, h2, h3, h4⟩
theorem Con.post {as : Array Value} {h0 : Heap} {Q' : Option Value → Heap → Prop} (C : Con Z B as h0 Q) (q : ∀ v h, Q v h → Q' v h) : Con Z B as h0 Q' := fun hE l ws =>
  (C hE l ws).mono (fun _ _ h => h) (fun _ _ _ _ _ h => h) fun _ _ _ _ _ ⟨v, L, h1, h2, h3⟩ => ⟨v, L, h1, ⟨q _ _ h2.1, h2.2⟩, h3⟩
theorem Sp.here (P : Sp Z x B T k n h) : At T x.m x.c x.below := by obtain ⟨_, _, _, X, _⟩ := P; exact X.here
theorem Sp.ex (P : Sp Z x B T k n h) : x.p.tables.exec = Jvm.exec := P.1.1
theorem Sp.d (P : Sp Z x B T k n h) {r : Except DecodeError (Instr × Nat)} (hd : decode B.by pc = r) : decode x.c.code pc = r := by rw [P.1.2.1]; exact hd
theorem Sp.old (P : Sp Z x B T k n h) : Ext Z.heap h := P.2.1
theorem Sp.wd (P : Sp Z x B T k n h) : Wd Z B.tb := P.1.2.2.2.2.2.2.2.2
theorem Sp.le (P : Sp Z x B T k n h) : Z.heap.size ≤ h.size := P.2.1.1
theorem lift {T' : State} {pc' : Nat} {st' : List Value} (f : ∀ t, Steps x.p.tables x.e x.below (T'.setTop (mkF x.m pc' Ls' st')) t → Steps x.p.tables x.e x.below (T.setTop (mkF x.m pc Ls st)) t) (r : Rn Q Z x B T' pc' Ls' st') : Rn Q Z x B T pc Ls st := by
  obtain ⟨t, o, h1, h2⟩ := r; exact ⟨t, o, f t h1, h2⟩
theorem liftS {T' : State} {pc' : Nat} {st' : List Value} (f : Steps x.p.tables x.e x.below (T.setTop (mkF x.m pc Ls st)) (T'.setTop (mkF x.m pc' Ls' st'))) (r : Rn Q Z x B T' pc' Ls' st') : Rn Q Z x B T pc Ls st := by
  obtain ⟨t, o, h1, h2⟩ := r; exact ⟨t, o, f.trans h1, h2⟩
theorem Go.nameI {z : Int32} (r : ∀ v, z = v → Go Q Z B k n h pc Ls (.int v :: st)) : Go Q Z B k n h pc Ls (.int z :: st) := r z rfl
theorem Go.nameJ {z : Int64} (r : ∀ v, z = v → Go Q Z B k n h pc Ls (.long v :: st)) : Go Q Z B k n h pc Ls (.long z :: st) := r z rfl
theorem Go.nameD {z : UInt64} (r : ∀ v, z = v → Go Q Z B k n h pc Ls (.double v :: st)) : Go Q Z B k n h pc Ls (.double z :: st) := r z rfl
theorem Go.eqI {z w : Int32} (e : z = w) (r : Go Q Z B k n h pc Ls (.int w :: st)) : Go Q Z B k n h pc Ls (.int z :: st) := e ▸ r
theorem Go.eqJ {z w : Int64} (e : z = w) (r : Go Q Z B k n h pc Ls (.long w :: st)) : Go Q Z B k n h pc Ls (.long z :: st) := e ▸ r
theorem Go.eqD {z w : UInt64} (e : z = w) (r : Go Q Z B k n h pc Ls (.double w :: st)) : Go Q Z B k n h pc Ls (.double z :: st) := e ▸ r
theorem Go.joinI {pcJ : Nat} {LsJ : Array Slot} {stJ : List Value} (G : Int32 → Prop) (s : (∀ v, G v → Go Q Z B k n h pcJ LsJ (.int v :: stJ)) → Go Q Z B k n h pc Ls st) (r : ∀ v, G v → Go Q Z B k n h pcJ LsJ (.int v :: stJ)) : Go Q Z B k n h pc Ls st := s r
theorem cut {G : Prop} (X : Prop) (s : X → G) (r : X) : G := s r
theorem Go.old (r : Ext Z.heap h → Go Q Z B k n h pc Ls st) : Go Q Z B k n h pc Ls st := fun x T P => r P.old x T P
theorem Go.more {k' n' : Nat} (hk : k ≤ k') (hn : n ≤ n') (r : Go Q Z B k' n' h pc Ls st) : Go Q Z B k n h pc Ls st := fun x T P => r x T (by
  obtain ⟨E, O, locs, X, e, N⟩ := P
  exact ⟨E, O, locs, { X with same := X.same.mono hk hn }, e, N⟩)
theorem Go.iload (pc' : Nat) (hp : pc + 2 = pc') {i : Nat} {v : Int32} (hd : decode B.by pc = .ok (.iload i, 2)) (hl : Ls[i]? = some (.val (.int v))) (r : Go Q Z B k n h pc' Ls (.int v :: st)) : Go Q Z B k n h pc Ls (st) := fun x T P => by
  subst hp; exact lift (fun t q => XS.iload P.here P.ex rfl (P.d hd) hl q) (r x T P)
theorem Go.iloadN (pc' : Nat) (hp : pc + 1 = pc') {i : Fin 4} {v : Int32} (hd : decode B.by pc = .ok (.iload_n i, 1)) (hl : Ls[i.val]? = some (.val (.int v))) (r : Go Q Z B k n h pc' Ls (.int v :: st)) : Go Q Z B k n h pc Ls (st) := fun x T P => by
  subst hp; exact lift (fun t q => XS.iloadN P.here P.ex rfl (P.d hd) hl q) (r x T P)
theorem Go.istore (pc' : Nat) (hp : pc + 2 = pc') {i : Nat} {v : Int32} (hd : decode B.by pc = .ok (.istore i, 2))  (hl : storeLocals Ls i (.int v) = some Ls') (r : Go Q Z B k n h pc' Ls' (st)) : Go Q Z B k n h pc Ls (.int v :: st) := fun x T P => by
  subst hp; exact lift (fun t q => XS.istore P.here P.ex rfl (P.d hd) rfl hl q) (r x T P)
theorem Go.istoreN (pc' : Nat) (hp : pc + 1 = pc') {i : Fin 4} {v : Int32} (hd : decode B.by pc = .ok (.istore_n i, 1))  (hl : storeLocals Ls i.val (.int v) = some Ls') (r : Go Q Z B k n h pc' Ls' (st)) : Go Q Z B k n h pc Ls (.int v :: st) := fun x T P => by
  subst hp; exact lift (fun t q => XS.istoreN P.here P.ex rfl (P.d hd) rfl hl q) (r x T P)
theorem Go.lload (pc' : Nat) (hp : pc + 2 = pc') {i : Nat} {v : Int64} (hd : decode B.by pc = .ok (.lload i, 2)) (hl : Ls[i]? = some (.val (.long v))) (r : Go Q Z B k n h pc' Ls (.long v :: st)) : Go Q Z B k n h pc Ls (st) := fun x T P => by
  subst hp; exact lift (fun t q => XT.lload P.here P.ex rfl (P.d hd) hl q) (r x T P)
theorem Go.lloadN (pc' : Nat) (hp : pc + 1 = pc') {i : Fin 4} {v : Int64} (hd : decode B.by pc = .ok (.lload_n i, 1)) (hl : Ls[i.val]? = some (.val (.long v))) (r : Go Q Z B k n h pc' Ls (.long v :: st)) : Go Q Z B k n h pc Ls (st) := fun x T P => by
  subst hp; exact lift (fun t q => XT.lloadN P.here P.ex rfl (P.d hd) hl q) (r x T P)
theorem Go.lstore (pc' : Nat) (hp : pc + 2 = pc') {i : Nat} {v : Int64} (hd : decode B.by pc = .ok (.lstore i, 2))  (hl : storeLocals Ls i (.long v) = some Ls') (r : Go Q Z B k n h pc' Ls' (st)) : Go Q Z B k n h pc Ls (.long v :: st) := fun x T P => by
  subst hp; exact lift (fun t q => XT.lstore P.here P.ex rfl (P.d hd) rfl hl q) (r x T P)
theorem Go.lstoreN (pc' : Nat) (hp : pc + 1 = pc') {i : Fin 4} {v : Int64} (hd : decode B.by pc = .ok (.lstore_n i, 1))  (hl : storeLocals Ls i.val (.long v) = some Ls') (r : Go Q Z B k n h pc' Ls' (st)) : Go Q Z B k n h pc Ls (.long v :: st) := fun x T P => by
  subst hp; exact lift (fun t q => XT.lstoreN P.here P.ex rfl (P.d hd) rfl hl q) (r x T P)
theorem Go.aload (pc' : Nat) (hp : pc + 2 = pc') {i : Nat} {v : Value} (hd : decode B.by pc = .ok (.aload i, 2)) (hl : Ls[i]? = some (.val (v))) (hv : v.isRef = true) (r : Go Q Z B k n h pc' Ls (v :: st)) : Go Q Z B k n h pc Ls (st) := fun x T P => by
  subst hp; exact lift (fun t q => XS.aload P.here P.ex rfl (P.d hd) hl hv q) (r x T P)
theorem Go.aloadN (pc' : Nat) (hp : pc + 1 = pc') {i : Fin 4} {v : Value} (hd : decode B.by pc = .ok (.aload_n i, 1)) (hl : Ls[i.val]? = some (.val (v))) (hv : v.isRef = true) (r : Go Q Z B k n h pc' Ls (v :: st)) : Go Q Z B k n h pc Ls (st) := fun x T P => by
  subst hp; exact lift (fun t q => XS.aloadN P.here P.ex rfl (P.d hd) hl hv q) (r x T P)
theorem Go.astore (pc' : Nat) (hp : pc + 2 = pc') {i : Nat} {v : Value} (hd : decode B.by pc = .ok (.astore i, 2))  (hv : v.isRef = true) (hl : storeLocals Ls i (v) = some Ls') (r : Go Q Z B k n h pc' Ls' (st)) : Go Q Z B k n h pc Ls (v :: st) := fun x T P => by
  subst hp; exact lift (fun t q => XS.astore P.here P.ex rfl (P.d hd) rfl hv hl q) (r x T P)
theorem Go.astoreN (pc' : Nat) (hp : pc + 1 = pc') {i : Fin 4} {v : Value} (hd : decode B.by pc = .ok (.astore_n i, 1))  (hv : v.isRef = true) (hl : storeLocals Ls i.val (v) = some Ls') (r : Go Q Z B k n h pc' Ls' (st)) : Go Q Z B k n h pc Ls (v :: st) := fun x T P => by
  subst hp; exact lift (fun t q => XS.astoreN P.here P.ex rfl (P.d hd) rfl hv hl q) (r x T P)
theorem Go.dload (pc' : Nat) (hp : pc + 2 = pc') {i : Nat} {v : UInt64} (hd : decode B.by pc = .ok (.dload i, 2)) (hl : Ls[i]? = some (.val (.double v))) (r : Go Q Z B k n h pc' Ls (.double v :: st)) : Go Q Z B k n h pc Ls (st) := fun x T P => by
  subst hp; exact lift (fun t q => XS.dload P.here P.ex rfl (P.d hd) hl q) (r x T P)
theorem Go.dloadN (pc' : Nat) (hp : pc + 1 = pc') {i : Fin 4} {v : UInt64} (hd : decode B.by pc = .ok (.dload_n i, 1)) (hl : Ls[i.val]? = some (.val (.double v))) (r : Go Q Z B k n h pc' Ls (.double v :: st)) : Go Q Z B k n h pc Ls (st) := fun x T P => by
  subst hp; exact lift (fun t q => XS.dloadN P.here P.ex rfl (P.d hd) hl q) (r x T P)
theorem Go.dstore (pc' : Nat) (hp : pc + 2 = pc') {i : Nat} {v : UInt64} (hd : decode B.by pc = .ok (.dstore i, 2))  (hl : storeLocals Ls i (.double v) = some Ls') (r : Go Q Z B k n h pc' Ls' (st)) : Go Q Z B k n h pc Ls (.double v :: st) := fun x T P => by
  subst hp; exact lift (fun t q => XS.dstore P.here P.ex rfl (P.d hd) rfl hl q) (r x T P)
theorem Go.dstoreN (pc' : Nat) (hp : pc + 1 = pc') {i : Fin 4} {v : UInt64} (hd : decode B.by pc = .ok (.dstore_n i, 1))  (hl : storeLocals Ls i.val (.double v) = some Ls') (r : Go Q Z B k n h pc' Ls' (st)) : Go Q Z B k n h pc Ls (.double v :: st) := fun x T P => by
  subst hp; exact lift (fun t q => XS.dstoreN P.here P.ex rfl (P.d hd) rfl hl q) (r x T P)
theorem Go.iconst (pc' : Nat) (hp : pc + 1 = pc') {i : Int} (v : Int32) (hd : decode B.by pc = .ok (.iconst i, 1)) (hv : Int32.ofInt i = v) (r : Go Q Z B k n h pc' Ls (.int v :: st)) : Go Q Z B k n h pc Ls (st) := fun x T P => by
  subst hp; exact lift (fun t q => XT.iconstV P.here P.ex rfl v (P.d hd) hv q) (r x T P)
theorem Go.bipush (pc' : Nat) (hp : pc + 2 = pc') {i : Int} (v : Int32) (hd : decode B.by pc = .ok (.bipush i, 2)) (hv : (Int8.ofInt i).toInt32 = v) (r : Go Q Z B k n h pc' Ls (.int v :: st)) : Go Q Z B k n h pc Ls (st) := fun x T P => by
  subst hp; exact lift (fun t q => XT.bipushV P.here P.ex rfl v (P.d hd) hv q) (r x T P)
theorem Go.sipush (pc' : Nat) (hp : pc + 3 = pc') {i : Int} (v : Int32) (hd : decode B.by pc = .ok (.sipush i, 3)) (hv : (Int16.ofInt i).toInt32 = v) (r : Go Q Z B k n h pc' Ls (.int v :: st)) : Go Q Z B k n h pc Ls (st) := fun x T P => by
  subst hp; exact lift (fun t q => XT.sipushV P.here P.ex rfl v (P.d hd) hv q) (r x T P)
theorem Go.lconst (pc' : Nat) (hp : pc + 1 = pc') {i : Fin 2} (v : Int64) (hd : decode B.by pc = .ok (.lconst i, 1)) (hv : Int64.ofNat i = v) (r : Go Q Z B k n h pc' Ls (.long v :: st)) : Go Q Z B k n h pc Ls (st) := fun x T P => by
  subst hp; exact lift (fun t q => XT.lconstV P.here P.ex rfl v (P.d hd) hv q) (r x T P)
theorem Go.aconstNull (pc' : Nat) (hp : pc + 1 = pc')  (hd : decode B.by pc = .ok (.aconst_null, 1))  (r : Go Q Z B k n h pc' Ls (.null :: st)) : Go Q Z B k n h pc Ls (st) := fun x T P => by
  subst hp; exact lift (fun t q => XS.aconstNull P.here P.ex rfl (P.d hd) q) (r x T P)
theorem Go.iadd (pc' : Nat) (hp : pc + 1 = pc') {x1 y1 : Int32} (hd : decode B.by pc = .ok (.iadd, 1))  (r : Go Q Z B k n h pc' Ls (.int (x1 + y1) :: st)) : Go Q Z B k n h pc Ls (.int y1 :: .int x1 :: st) := fun x T P => by
  subst hp; exact lift (fun t q => XS.iadd P.here P.ex rfl (P.d hd) rfl q) (r x T P)
theorem Go.isub (pc' : Nat) (hp : pc + 1 = pc') {x1 y1 : Int32} (hd : decode B.by pc = .ok (.isub, 1))  (r : Go Q Z B k n h pc' Ls (.int (x1 - y1) :: st)) : Go Q Z B k n h pc Ls (.int y1 :: .int x1 :: st) := fun x T P => by
  subst hp; exact lift (fun t q => XS.isub P.here P.ex rfl (P.d hd) rfl q) (r x T P)
theorem Go.iand (pc' : Nat) (hp : pc + 1 = pc') {x1 y1 : Int32} (hd : decode B.by pc = .ok (.iand, 1))  (r : Go Q Z B k n h pc' Ls (.int (x1 &&& y1) :: st)) : Go Q Z B k n h pc Ls (.int y1 :: .int x1 :: st) := fun x T P => by
  subst hp; exact lift (fun t q => XS.iand P.here P.ex rfl (P.d hd) rfl q) (r x T P)
theorem Go.imul (pc' : Nat) (hp : pc + 1 = pc') {x1 y1 : Int32} (hd : decode B.by pc = .ok (.imul, 1))  (r : Go Q Z B k n h pc' Ls (.int (x1 * y1) :: st)) : Go Q Z B k n h pc Ls (.int y1 :: .int x1 :: st) := fun x T P => by
  subst hp; exact lift (fun t q => XS.imul P.here P.ex rfl (P.d hd) rfl q) (r x T P)
theorem Go.ixor (pc' : Nat) (hp : pc + 1 = pc') {x1 y1 : Int32} (hd : decode B.by pc = .ok (.ixor, 1))  (r : Go Q Z B k n h pc' Ls (.int (x1 ^^^ y1) :: st)) : Go Q Z B k n h pc Ls (.int y1 :: .int x1 :: st) := fun x T P => by
  subst hp; exact lift (fun t q => XT.ixor P.here P.ex rfl (P.d hd) rfl q) (r x T P)
theorem Go.ior (pc' : Nat) (hp : pc + 1 = pc') {x1 y1 : Int32} (hd : decode B.by pc = .ok (.ior, 1))  (r : Go Q Z B k n h pc' Ls (.int (x1 ||| y1) :: st)) : Go Q Z B k n h pc Ls (.int y1 :: .int x1 :: st) := fun x T P => by
  subst hp; exact lift (fun t q => XT.ior P.here P.ex rfl (P.d hd) rfl q) (r x T P)
theorem Go.ishl (pc' : Nat) (hp : pc + 1 = pc') {x1 y1 : Int32} (hd : decode B.by pc = .ok (.ishl, 1))  (r : Go Q Z B k n h pc' Ls (.int (x1 <<< (y1 &&& 31)) :: st)) : Go Q Z B k n h pc Ls (.int y1 :: .int x1 :: st) := fun x T P => by
  subst hp; exact lift (fun t q => XT.ishl P.here P.ex rfl (P.d hd) rfl q) (r x T P)
theorem Go.ishr (pc' : Nat) (hp : pc + 1 = pc') {x1 y1 : Int32} (hd : decode B.by pc = .ok (.ishr, 1))  (r : Go Q Z B k n h pc' Ls (.int (x1 >>> (y1 &&& 31)) :: st)) : Go Q Z B k n h pc Ls (.int y1 :: .int x1 :: st) := fun x T P => by
  subst hp; exact lift (fun t q => XT.ishr P.here P.ex rfl (P.d hd) rfl q) (r x T P)
theorem Go.iushr (pc' : Nat) (hp : pc + 1 = pc') {x1 y1 : Int32} (hd : decode B.by pc = .ok (.iushr, 1))  (r : Go Q Z B k n h pc' Ls (.int (XT.ushr x1 y1) :: st)) : Go Q Z B k n h pc Ls (.int y1 :: .int x1 :: st) := fun x T P => by
  subst hp; exact lift (fun t q => XT.iushr P.here P.ex rfl (P.d hd) rfl q) (r x T P)
theorem Go.idiv (pc' : Nat) (hp : pc + 1 = pc') {x1 y1 : Int32} (hd : decode B.by pc = .ok (.idiv, 1)) (hy : y1 ≠ 0) (r : Go Q Z B k n h pc' Ls (.int (x1 / y1) :: st)) : Go Q Z B k n h pc Ls (.int y1 :: .int x1 :: st) := fun x T P => by
  subst hp; exact lift (fun t q => XS.idiv P.here P.ex rfl (P.d hd) rfl hy q) (r x T P)
theorem Go.ladd (pc' : Nat) (hp : pc + 1 = pc') {x1 y1 : Int64} (hd : decode B.by pc = .ok (.ladd, 1))  (r : Go Q Z B k n h pc' Ls (.long (x1 + y1) :: st)) : Go Q Z B k n h pc Ls (.long y1 :: .long x1 :: st) := fun x T P => by
  subst hp; exact lift (fun t q => XT.ladd P.here P.ex rfl (P.d hd) rfl q) (r x T P)
theorem Go.lsub (pc' : Nat) (hp : pc + 1 = pc') {x1 y1 : Int64} (hd : decode B.by pc = .ok (.lsub, 1))  (r : Go Q Z B k n h pc' Ls (.long (x1 - y1) :: st)) : Go Q Z B k n h pc Ls (.long y1 :: .long x1 :: st) := fun x T P => by
  subst hp; exact lift (fun t q => XT.lsub P.here P.ex rfl (P.d hd) rfl q) (r x T P)
theorem Go.land (pc' : Nat) (hp : pc + 1 = pc') {x1 y1 : Int64} (hd : decode B.by pc = .ok (.land, 1))  (r : Go Q Z B k n h pc' Ls (.long (x1 &&& y1) :: st)) : Go Q Z B k n h pc Ls (.long y1 :: .long x1 :: st) := fun x T P => by
  subst hp; exact lift (fun t q => XT.land P.here P.ex rfl (P.d hd) rfl q) (r x T P)
theorem Go.lmul (pc' : Nat) (hp : pc + 1 = pc') {x1 y1 : Int64} (hd : decode B.by pc = .ok (.lmul, 1))  (r : Go Q Z B k n h pc' Ls (.long (x1 * y1) :: st)) : Go Q Z B k n h pc Ls (.long y1 :: .long x1 :: st) := fun x T P => by
  subst hp; exact lift (fun t q => XT.lmul P.here P.ex rfl (P.d hd) rfl q) (r x T P)
theorem Go.lxor (pc' : Nat) (hp : pc + 1 = pc') {x1 y1 : Int64} (hd : decode B.by pc = .ok (.lxor, 1))  (r : Go Q Z B k n h pc' Ls (.long (x1 ^^^ y1) :: st)) : Go Q Z B k n h pc Ls (.long y1 :: .long x1 :: st) := fun x T P => by
  subst hp; exact lift (fun t q => XT.lxor P.here P.ex rfl (P.d hd) rfl q) (r x T P)
theorem Go.lor (pc' : Nat) (hp : pc + 1 = pc') {x1 y1 : Int64} (hd : decode B.by pc = .ok (.lor, 1))  (r : Go Q Z B k n h pc' Ls (.long (x1 ||| y1) :: st)) : Go Q Z B k n h pc Ls (.long y1 :: .long x1 :: st) := fun x T P => by
  subst hp; exact lift (fun t q => XT.lor P.here P.ex rfl (P.d hd) rfl q) (r x T P)
theorem Go.lshl (pc' : Nat) (hp : pc + 1 = pc') {x1 : Int64} {y1 : Int32} (hd : decode B.by pc = .ok (.lshl, 1))  (r : Go Q Z B k n h pc' Ls (.long (x1 <<< (y1.toInt64 &&& 63)) :: st)) : Go Q Z B k n h pc Ls (.int y1 :: .long x1 :: st) := fun x T P => by
  subst hp; exact lift (fun t q => XT.lshl P.here P.ex rfl (P.d hd) rfl q) (r x T P)
theorem Go.lshr (pc' : Nat) (hp : pc + 1 = pc') {x1 : Int64} {y1 : Int32} (hd : decode B.by pc = .ok (.lshr, 1))  (r : Go Q Z B k n h pc' Ls (.long (x1 >>> (y1.toInt64 &&& 63)) :: st)) : Go Q Z B k n h pc Ls (.int y1 :: .long x1 :: st) := fun x T P => by
  subst hp; exact lift (fun t q => XT.lshr P.here P.ex rfl (P.d hd) rfl q) (r x T P)
theorem Go.lushr (pc' : Nat) (hp : pc + 1 = pc') {x1 : Int64} {y1 : Int32} (hd : decode B.by pc = .ok (.lushr, 1))  (r : Go Q Z B k n h pc' Ls (.long (XT.ushrL x1 y1) :: st)) : Go Q Z B k n h pc Ls (.int y1 :: .long x1 :: st) := fun x T P => by
  subst hp; exact lift (fun t q => XT.lushr P.here P.ex rfl (P.d hd) rfl q) (r x T P)
theorem Go.ldiv (pc' : Nat) (hp : pc + 1 = pc') {x1 y1 : Int64} (hd : decode B.by pc = .ok (.ldiv, 1)) (hy : y1 ≠ 0) (r : Go Q Z B k n h pc' Ls (.long (x1 / y1) :: st)) : Go Q Z B k n h pc Ls (.long y1 :: .long x1 :: st) := fun x T P => by
  subst hp; exact lift (fun t q => XT.ldiv P.here P.ex rfl (P.d hd) rfl hy q) (r x T P)
theorem Go.lrem (pc' : Nat) (hp : pc + 1 = pc') {x1 y1 : Int64} (hd : decode B.by pc = .ok (.lrem, 1)) (hy : y1 ≠ 0) (r : Go Q Z B k n h pc' Ls (.long (x1 % y1) :: st)) : Go Q Z B k n h pc Ls (.long y1 :: .long x1 :: st) := fun x T P => by
  subst hp; exact lift (fun t q => XT.lrem P.here P.ex rfl (P.d hd) rfl hy (by rw [lrem_mod]; exact q)) (r x T P)
theorem Go.lneg (pc' : Nat) (hp : pc + 1 = pc') {x1 : Int64} (hd : decode B.by pc = .ok (.lneg, 1))  (r : Go Q Z B k n h pc' Ls (.long (-x1) :: st)) : Go Q Z B k n h pc Ls (.long x1 :: st) := fun x T P => by
  subst hp; exact lift (fun t q => XT.lneg P.here P.ex rfl (P.d hd) rfl q) (r x T P)
theorem Go.ineg (pc' : Nat) (hp : pc + 1 = pc') {x1 : Int32} (hd : decode B.by pc = .ok (.ineg, 1))  (r : Go Q Z B k n h pc' Ls (.int (-x1) :: st)) : Go Q Z B k n h pc Ls (.int x1 :: st) := fun x T P => by
  subst hp; exact lift (fun t q => XS.ineg P.here P.ex rfl (P.d hd) rfl q) (r x T P)
theorem Go.i2l (pc' : Nat) (hp : pc + 1 = pc') {x1 : Int32} (hd : decode B.by pc = .ok (.i2l, 1))  (r : Go Q Z B k n h pc' Ls (.long x1.toInt64 :: st)) : Go Q Z B k n h pc Ls (.int x1 :: st) := fun x T P => by
  subst hp; exact lift (fun t q => XT.i2l P.here P.ex rfl (P.d hd) rfl q) (r x T P)
theorem Go.l2i (pc' : Nat) (hp : pc + 1 = pc') {x1 : Int64} (hd : decode B.by pc = .ok (.l2i, 1))  (r : Go Q Z B k n h pc' Ls (.int x1.toInt32 :: st)) : Go Q Z B k n h pc Ls (.long x1 :: st) := fun x T P => by
  subst hp; exact lift (fun t q => XT.l2i P.here P.ex rfl (P.d hd) rfl q) (r x T P)
theorem Go.i2b (pc' : Nat) (hp : pc + 1 = pc') {x1 : Int32} (hd : decode B.by pc = .ok (.i2b, 1))  (r : Go Q Z B k n h pc' Ls (.int x1.toInt8.toInt32 :: st)) : Go Q Z B k n h pc Ls (.int x1 :: st) := fun x T P => by
  subst hp; exact lift (fun t q => XT.i2b P.here P.ex rfl (P.d hd) rfl q) (r x T P)
theorem Go.i2c (pc' : Nat) (hp : pc + 1 = pc') {x1 : Int32} (hd : decode B.by pc = .ok (.i2c, 1))  (r : Go Q Z B k n h pc' Ls (.int x1.toUInt32.toUInt16.toUInt32.toInt32 :: st)) : Go Q Z B k n h pc Ls (.int x1 :: st) := fun x T P => by
  subst hp; exact lift (fun t q => XT.i2c P.here P.ex rfl (P.d hd) rfl q) (r x T P)
theorem Go.i2s (pc' : Nat) (hp : pc + 1 = pc') {x1 : Int32} (hd : decode B.by pc = .ok (.i2s, 1))  (r : Go Q Z B k n h pc' Ls (.int x1.toInt16.toInt32 :: st)) : Go Q Z B k n h pc Ls (.int x1 :: st) := fun x T P => by
  subst hp; exact lift (fun t q => XT.i2s P.here P.ex rfl (P.d hd) rfl q) (r x T P)
theorem Go.lcmp (pc' : Nat) (hp : pc + 1 = pc') {x1 y1 : Int64} (hd : decode B.by pc = .ok (.lcmp, 1))  (r : Go Q Z B k n h pc' Ls (.int (XT.cmpL x1 y1) :: st)) : Go Q Z B k n h pc Ls (.long y1 :: .long x1 :: st) := fun x T P => by
  subst hp; exact lift (fun t q => XT.lcmp P.here P.ex rfl (P.d hd) rfl q) (r x T P)
theorem Go.i2d (pc' : Nat) (hp : pc + 1 = pc') {x1 : Int32} (hd : decode B.by pc = .ok (.i2d, 1))  (r : Go Q Z B k n h pc' Ls (.double (FP.i2d x1) :: st)) : Go Q Z B k n h pc Ls (.int x1 :: st) := fun x T P => by
  subst hp; exact lift (fun t q => XS.i2dS P.here P.ex rfl (P.d hd) rfl rfl q) (r x T P)
theorem Go.l2d (pc' : Nat) (hp : pc + 1 = pc') {x1 : Int64} (hd : decode B.by pc = .ok (.l2d, 1))  (r : Go Q Z B k n h pc' Ls (.double (FP.l2d x1) :: st)) : Go Q Z B k n h pc Ls (.long x1 :: st) := fun x T P => by
  subst hp; exact lift (fun t q => XS.l2dS P.here P.ex rfl (P.d hd) rfl rfl q) (r x T P)
theorem Go.dcmp (pc' : Nat) (hp : pc + 1 = pc') {o : CmpOp} {x1 y1 : UInt64} (v : Int32) (hd : decode B.by pc = .ok (.dcmp o, 1)) (hv : cmpValue (FP.dcmp x1 y1) o = v) (r : Go Q Z B k n h pc' Ls (.int v :: st)) : Go Q Z B k n h pc Ls (.double y1 :: .double x1 :: st) := fun x T P => by
  subst hp; exact lift (fun t q => XS.dcmpS P.here P.ex rfl (P.d hd) rfl hv q) (r x T P)
theorem Go.ddiv (pc' : Nat) (hp : pc + 1 = pc') {x1 y1 : UInt64} (hd : decode B.by pc = .ok (.ddiv, 1)) (hn : Jvm.Free.Fl.NoNaN64 (FP.ddiv x1 y1)) (r : Go Q Z B k n h pc' Ls (.double (FP.ddiv x1 y1) :: st)) : Go Q Z B k n h pc Ls (.double y1 :: .double x1 :: st) := fun x T P => by
  subst hp; exact lift (fun t q => XS.ddivS P.here P.ex rfl (P.d hd) rfl hn rfl q) (r x T P)
theorem Go.dup (pc' : Nat) (hp : pc + 1 = pc') {v : Value} (hd : decode B.by pc = .ok (.dup, 1)) (hc : v.category = 1) (r : Go Q Z B k n h pc' Ls (v :: v :: st)) : Go Q Z B k n h pc Ls (v :: st) := fun x T P => by
  subst hp; exact lift (fun t q => XS.dup P.here P.ex rfl (P.d hd) rfl hc q) (r x T P)
theorem Go.pop (pc' : Nat) (hp : pc + 1 = pc') {v : Value} (hd : decode B.by pc = .ok (.pop, 1)) (hc : v.category = 1) (r : Go Q Z B k n h pc' Ls (st)) : Go Q Z B k n h pc Ls (v :: st) := fun x T P => by
  subst hp; exact lift (fun t q => XT.pop P.here P.ex rfl (P.d hd) rfl hc q) (r x T P)
theorem Go.dupX1 (pc' : Nat) (hp : pc + 1 = pc') {v w : Value} (hd : decode B.by pc = .ok (.dup_x1, 1)) (hc : v.category = 1) (hc' : w.category = 1) (r : Go Q Z B k n h pc' Ls (v :: w :: v :: st)) : Go Q Z B k n h pc Ls (v :: w :: st) := fun x T P => by
  subst hp; exact lift (fun t q => XT.dupX1 P.here P.ex rfl (P.d hd) rfl hc hc' q) (r x T P)
theorem Go.dup2 (pc' : Nat) (hp : pc + 1 = pc') {v w : Value} (hd : decode B.by pc = .ok (.dup2, 1)) (hc : v.category = 1) (hc' : w.category = 1) (r : Go Q Z B k n h pc' Ls (v :: w :: v :: w :: st)) : Go Q Z B k n h pc Ls (v :: w :: st) := fun x T P => by
  subst hp; exact lift (fun t q => XT.dup2 P.here P.ex rfl (P.d hd) rfl hc hc' q) (r x T P)
theorem Go.dup2L (pc' : Nat) (hp : pc + 1 = pc') {v : Int64} (hd : decode B.by pc = .ok (.dup2, 1))  (r : Go Q Z B k n h pc' Ls (.long v :: .long v :: st)) : Go Q Z B k n h pc Ls (.long v :: st) := fun x T P => by
  subst hp; exact lift (fun t q => XT.dup2L P.here P.ex rfl (P.d hd) rfl q) (r x T P)
theorem Go.iinc (pc' : Nat) (hp : pc + 3 = pc') {i : Nat} {cst : Int} {x1 : Int32} (v : Int32) (hd : decode B.by pc = .ok (.iinc i cst, 3)) (hv : Int32.ofInt cst = v) (hl : Ls[i]? = some (.val (.int x1))) (hl' : storeLocals Ls i (.int (x1 + v)) = some Ls') (r : Go Q Z B k n h pc' Ls' (st)) : Go Q Z B k n h pc Ls (st) := fun x T P => by
  subst hp; exact lift (fun t q => XT.iincV P.here P.ex rfl v (P.d hd) hv hl hl' q) (r x T P)
theorem Go.irem (pc' : Nat) (hp : pc + 1 = pc') {x1 y1 : Int32} (hd : decode B.by pc = .ok (.irem, 1)) (hy : y1 ≠ 0) (r : Go Q Z B k n h pc' Ls (.int (x1 % y1) :: st)) : Go Q Z B k n h pc Ls (.int y1 :: .int x1 :: st) := fun x T P => by
  subst hp; obtain ⟨_, _, _, X, _⟩ := id P; exact lift (fun t q => iremM X P.ex rfl (P.d hd) rfl hy q) (r x T P)
theorem Go.goto (pc' : Nat) {o : Int} (hd : decode B.by pc = .ok (.goto o, 3)) (h0 : 0 ≤ (pc : Int) + o) (hp : ((pc : Int) + o).toNat = pc') (r : Go Q Z B k n h pc' Ls st) : Go Q Z B k n h pc Ls st := fun x T P =>
  lift (fun t q => XS.goto P.here P.ex rfl (pc0 := pc) rfl (P.d hd) h0 hp q) (r x T P)
theorem Go.icmp_lt (pT pF : Nat) {x1 y1 : Int32} {o : Int} (hd : decode B.by pc = .ok (.if_icmp .lt o, 3)) (h0 : 0 ≤ (pc : Int) + o) (hT : ((pc : Int) + o).toNat = pT) (hF : pc + 3 = pF) (rT : x1 < y1 → Go Q Z B k n h pT Ls st) (rF : ¬ x1 < y1 → Go Q Z B k n h pF Ls st) : Go Q Z B k n h pc Ls (.int y1 :: .int x1 :: st) := fun x T P => by
  subst hF
  by_cases c : x1 < y1
  · exact lift (fun t q => XS.icmpYes P.here P.ex rfl (pc0 := pc) rfl (P.d hd) rfl (tlt c).1 h0 hT q) (rT c x T P)
  · exact lift (fun t q => XS.icmpNo P.here P.ex rfl (P.d hd) rfl (flt c).1 q) (rF c x T P)
theorem Go.if_lt (pT pF : Nat) {x1 : Int32} {o : Int} (hd : decode B.by pc = .ok (.ifCond .lt o, 3)) (h0 : 0 ≤ (pc : Int) + o) (hT : ((pc : Int) + o).toNat = pT) (hF : pc + 3 = pF) (rT : x1 < 0 → Go Q Z B k n h pT Ls st) (rF : ¬ x1 < 0 → Go Q Z B k n h pF Ls st) : Go Q Z B k n h pc Ls (.int x1 :: st) := fun x T P => by
  subst hF
  by_cases c : x1 < 0
  · exact lift (fun t q => XS.ifYes P.here P.ex rfl (pc0 := pc) rfl (P.d hd) rfl ((if0 _ _).trans (tlt c).1) h0 hT q) (rT c x T P)
  · exact lift (fun t q => XS.ifNo P.here P.ex rfl (P.d hd) rfl ((if0 _ _).trans (flt c).1) q) (rF c x T P)
theorem Go.icmp_ge (pT pF : Nat) {x1 y1 : Int32} {o : Int} (hd : decode B.by pc = .ok (.if_icmp .ge o, 3)) (h0 : 0 ≤ (pc : Int) + o) (hT : ((pc : Int) + o).toNat = pT) (hF : pc + 3 = pF) (rT : ¬ x1 < y1 → Go Q Z B k n h pT Ls st) (rF : x1 < y1 → Go Q Z B k n h pF Ls st) : Go Q Z B k n h pc Ls (.int y1 :: .int x1 :: st) := fun x T P => by
  subst hF
  by_cases c : ¬ x1 < y1
  · exact lift (fun t q => XS.icmpYes P.here P.ex rfl (pc0 := pc) rfl (P.d hd) rfl (flt c).2.1 h0 hT q) (rT c x T P)
  · replace c := Decidable.not_not.mp c
    exact lift (fun t q => XS.icmpNo P.here P.ex rfl (P.d hd) rfl (tlt c).2.1 q) (rF c x T P)
theorem Go.if_ge (pT pF : Nat) {x1 : Int32} {o : Int} (hd : decode B.by pc = .ok (.ifCond .ge o, 3)) (h0 : 0 ≤ (pc : Int) + o) (hT : ((pc : Int) + o).toNat = pT) (hF : pc + 3 = pF) (rT : ¬ x1 < 0 → Go Q Z B k n h pT Ls st) (rF : x1 < 0 → Go Q Z B k n h pF Ls st) : Go Q Z B k n h pc Ls (.int x1 :: st) := fun x T P => by
  subst hF
  by_cases c : ¬ x1 < 0
  · exact lift (fun t q => XS.ifYes P.here P.ex rfl (pc0 := pc) rfl (P.d hd) rfl ((if0 _ _).trans (flt c).2.1) h0 hT q) (rT c x T P)
  · replace c := Decidable.not_not.mp c
    exact lift (fun t q => XS.ifNo P.here P.ex rfl (P.d hd) rfl ((if0 _ _).trans (tlt c).2.1) q) (rF c x T P)
theorem Go.icmp_gt (pT pF : Nat) {x1 y1 : Int32} {o : Int} (hd : decode B.by pc = .ok (.if_icmp .gt o, 3)) (h0 : 0 ≤ (pc : Int) + o) (hT : ((pc : Int) + o).toNat = pT) (hF : pc + 3 = pF) (rT : y1 < x1 → Go Q Z B k n h pT Ls st) (rF : ¬ y1 < x1 → Go Q Z B k n h pF Ls st) : Go Q Z B k n h pc Ls (.int y1 :: .int x1 :: st) := fun x T P => by
  subst hF
  by_cases c : y1 < x1
  · exact lift (fun t q => XS.icmpYes P.here P.ex rfl (pc0 := pc) rfl (P.d hd) rfl (tlt c).2.2.1 h0 hT q) (rT c x T P)
  · exact lift (fun t q => XS.icmpNo P.here P.ex rfl (P.d hd) rfl (flt c).2.2.1 q) (rF c x T P)
theorem Go.if_gt (pT pF : Nat) {x1 : Int32} {o : Int} (hd : decode B.by pc = .ok (.ifCond .gt o, 3)) (h0 : 0 ≤ (pc : Int) + o) (hT : ((pc : Int) + o).toNat = pT) (hF : pc + 3 = pF) (rT : 0 < x1 → Go Q Z B k n h pT Ls st) (rF : ¬ 0 < x1 → Go Q Z B k n h pF Ls st) : Go Q Z B k n h pc Ls (.int x1 :: st) := fun x T P => by
  subst hF
  by_cases c : 0 < x1
  · exact lift (fun t q => XS.ifYes P.here P.ex rfl (pc0 := pc) rfl (P.d hd) rfl ((if0 _ _).trans (tlt c).2.2.1) h0 hT q) (rT c x T P)
  · exact lift (fun t q => XS.ifNo P.here P.ex rfl (P.d hd) rfl ((if0 _ _).trans (flt c).2.2.1) q) (rF c x T P)
theorem Go.icmp_le (pT pF : Nat) {x1 y1 : Int32} {o : Int} (hd : decode B.by pc = .ok (.if_icmp .le o, 3)) (h0 : 0 ≤ (pc : Int) + o) (hT : ((pc : Int) + o).toNat = pT) (hF : pc + 3 = pF) (rT : ¬ y1 < x1 → Go Q Z B k n h pT Ls st) (rF : y1 < x1 → Go Q Z B k n h pF Ls st) : Go Q Z B k n h pc Ls (.int y1 :: .int x1 :: st) := fun x T P => by
  subst hF
  by_cases c : ¬ y1 < x1
  · exact lift (fun t q => XS.icmpYes P.here P.ex rfl (pc0 := pc) rfl (P.d hd) rfl (flt c).2.2.2 h0 hT q) (rT c x T P)
  · replace c := Decidable.not_not.mp c
    exact lift (fun t q => XS.icmpNo P.here P.ex rfl (P.d hd) rfl (tlt c).2.2.2 q) (rF c x T P)
theorem Go.if_le (pT pF : Nat) {x1 : Int32} {o : Int} (hd : decode B.by pc = .ok (.ifCond .le o, 3)) (h0 : 0 ≤ (pc : Int) + o) (hT : ((pc : Int) + o).toNat = pT) (hF : pc + 3 = pF) (rT : ¬ 0 < x1 → Go Q Z B k n h pT Ls st) (rF : 0 < x1 → Go Q Z B k n h pF Ls st) : Go Q Z B k n h pc Ls (.int x1 :: st) := fun x T P => by
  subst hF
  by_cases c : ¬ 0 < x1
  · exact lift (fun t q => XS.ifYes P.here P.ex rfl (pc0 := pc) rfl (P.d hd) rfl ((if0 _ _).trans (flt c).2.2.2) h0 hT q) (rT c x T P)
  · replace c := Decidable.not_not.mp c
    exact lift (fun t q => XS.ifNo P.here P.ex rfl (P.d hd) rfl ((if0 _ _).trans (tlt c).2.2.2) q) (rF c x T P)
theorem Go.icmp_eq (pT pF : Nat) {x1 y1 : Int32} {o : Int} (hd : decode B.by pc = .ok (.if_icmp .eq o, 3)) (h0 : 0 ≤ (pc : Int) + o) (hT : ((pc : Int) + o).toNat = pT) (hF : pc + 3 = pF) (rT : x1 = y1 → Go Q Z B k n h pT Ls st) (rF : ¬ x1 = y1 → Go Q Z B k n h pF Ls st) : Go Q Z B k n h pc Ls (.int y1 :: .int x1 :: st) := fun x T P => by
  subst hF
  by_cases c : x1 = y1
  · exact lift (fun t q => XS.icmpYes P.here P.ex rfl (pc0 := pc) rfl (P.d hd) rfl (teq c).1 h0 hT q) (rT c x T P)
  · exact lift (fun t q => XS.icmpNo P.here P.ex rfl (P.d hd) rfl (feq c).1 q) (rF c x T P)
theorem Go.if_eq (pT pF : Nat) {x1 : Int32} {o : Int} (hd : decode B.by pc = .ok (.ifCond .eq o, 3)) (h0 : 0 ≤ (pc : Int) + o) (hT : ((pc : Int) + o).toNat = pT) (hF : pc + 3 = pF) (rT : x1 = 0 → Go Q Z B k n h pT Ls st) (rF : ¬ x1 = 0 → Go Q Z B k n h pF Ls st) : Go Q Z B k n h pc Ls (.int x1 :: st) := fun x T P => by
  subst hF
  by_cases c : x1 = 0
  · exact lift (fun t q => XS.ifYes P.here P.ex rfl (pc0 := pc) rfl (P.d hd) rfl ((if0 _ _).trans (teq c).1) h0 hT q) (rT c x T P)
  · exact lift (fun t q => XS.ifNo P.here P.ex rfl (P.d hd) rfl ((if0 _ _).trans (feq c).1) q) (rF c x T P)
theorem Go.icmp_ne (pT pF : Nat) {x1 y1 : Int32} {o : Int} (hd : decode B.by pc = .ok (.if_icmp .ne o, 3)) (h0 : 0 ≤ (pc : Int) + o) (hT : ((pc : Int) + o).toNat = pT) (hF : pc + 3 = pF) (rT : ¬ x1 = y1 → Go Q Z B k n h pT Ls st) (rF : x1 = y1 → Go Q Z B k n h pF Ls st) : Go Q Z B k n h pc Ls (.int y1 :: .int x1 :: st) := fun x T P => by
  subst hF
  by_cases c : ¬ x1 = y1
  · exact lift (fun t q => XS.icmpYes P.here P.ex rfl (pc0 := pc) rfl (P.d hd) rfl (feq c).2 h0 hT q) (rT c x T P)
  · replace c := Decidable.not_not.mp c
    exact lift (fun t q => XS.icmpNo P.here P.ex rfl (P.d hd) rfl (teq c).2 q) (rF c x T P)
theorem Go.if_ne (pT pF : Nat) {x1 : Int32} {o : Int} (hd : decode B.by pc = .ok (.ifCond .ne o, 3)) (h0 : 0 ≤ (pc : Int) + o) (hT : ((pc : Int) + o).toNat = pT) (hF : pc + 3 = pF) (rT : ¬ x1 = 0 → Go Q Z B k n h pT Ls st) (rF : x1 = 0 → Go Q Z B k n h pF Ls st) : Go Q Z B k n h pc Ls (.int x1 :: st) := fun x T P => by
  subst hF
  by_cases c : ¬ x1 = 0
  · exact lift (fun t q => XS.ifYes P.here P.ex rfl (pc0 := pc) rfl (P.d hd) rfl ((if0 _ _).trans (feq c).2) h0 hT q) (rT c x T P)
  · replace c := Decidable.not_not.mp c
    exact lift (fun t q => XS.ifNo P.here P.ex rfl (P.d hd) rfl ((if0 _ _).trans (teq c).2) q) (rF c x T P)
theorem Go.ifnull_r (pF : Nat) {o : Int} {b : Addr} (hd : decode B.by pc = .ok (.ifnull o, 3)) (hF : pc + 3 = pF) (r : Go Q Z B k n h pF Ls st) : Go Q Z B k n h pc Ls (.ref b :: st) := fun x T P => by
  subst hF; exact lift (fun t q => XS.ifnullNo P.here P.ex rfl (P.d hd) rfl q) (r x T P)
theorem Go.ifnull_n (pT : Nat) {o : Int} (hd : decode B.by pc = .ok (.ifnull o, 3)) (h0 : 0 ≤ (pc : Int) + o) (hT : ((pc : Int) + o).toNat = pT) (r : Go Q Z B k n h pT Ls st) : Go Q Z B k n h pc Ls (.null :: st) := fun x T P =>
  lift (fun t q => XS.ifnullYes P.here P.ex rfl (pc0 := pc) rfl (P.d hd) rfl h0 hT q) (r x T P)
theorem Go.ifnonnull_r (pT : Nat) {o : Int} {b : Addr} (hd : decode B.by pc = .ok (.ifnonnull o, 3)) (h0 : 0 ≤ (pc : Int) + o) (hT : ((pc : Int) + o).toNat = pT) (r : Go Q Z B k n h pT Ls st) : Go Q Z B k n h pc Ls (.ref b :: st) := fun x T P =>
  lift (fun t q => XT.ifnonnullYes P.here P.ex rfl (pc0 := pc) rfl (P.d hd) rfl h0 hT q) (r x T P)
theorem Go.ifnonnull_n (pF : Nat) {o : Int} (hd : decode B.by pc = .ok (.ifnonnull o, 3)) (hF : pc + 3 = pF) (r : Go Q Z B k n h pF Ls st) : Go Q Z B k n h pc Ls (.null :: st) := fun x T P => by
  subst hF; exact lift (fun t q => XT.ifnonnullNo P.here P.ex rfl (P.d hd) rfl q) (r x T P)
theorem Go.acmp_eq (pT pF : Nat) {v w : Value} {o : Int} (hd : decode B.by pc = .ok (.if_acmp .eq o, 3)) (h0 : 0 ≤ (pc : Int) + o) (hT : ((pc : Int) + o).toNat = pT) (hF : pc + 3 = pF) (hv : v.isRef = true) (hw : w.isRef = true) (rT : v = w → Go Q Z B k n h pT Ls st) (rF : ¬ v = w → Go Q Z B k n h pF Ls st) : Go Q Z B k n h pc Ls (w :: v :: st) := fun x T P => by
  subst hF
  by_cases c : v = w
  · exact lift (fun t q => XT.acmpYes P.here P.ex rfl (pc0 := pc) rfl (P.d hd) rfl hv hw (XT.aa_eq_t c) h0 hT q) (rT c x T P)
  · exact lift (fun t q => XT.acmpNo P.here P.ex rfl (P.d hd) rfl hv hw (XT.aa_eq_f c) q) (rF c x T P)
theorem Go.acmp_ne (pT pF : Nat) {v w : Value} {o : Int} (hd : decode B.by pc = .ok (.if_acmp .ne o, 3)) (h0 : 0 ≤ (pc : Int) + o) (hT : ((pc : Int) + o).toNat = pT) (hF : pc + 3 = pF) (hv : v.isRef = true) (hw : w.isRef = true) (rT : ¬ v = w → Go Q Z B k n h pT Ls st) (rF : v = w → Go Q Z B k n h pF Ls st) : Go Q Z B k n h pc Ls (w :: v :: st) := fun x T P => by
  subst hF
  by_cases c : ¬ v = w
  · exact lift (fun t q => XT.acmpYes P.here P.ex rfl (pc0 := pc) rfl (P.d hd) rfl hv hw (XT.aa_ne_t c) h0 hT q) (rT c x T P)
  · replace c := Decidable.not_not.mp c
    exact lift (fun t q => XT.acmpNo P.here P.ex rfl (P.d hd) rfl hv hw (XT.aa_ne_f c) q) (rF c x T P)
theorem En.zz (E : En Z x B) : Z.Warmed39 x.s.vm := E.2.2.2.2.2.2.1
theorem En.own (E : En Z x B) : x.s.vm.findClass B.y.cls = some x.m.cls := E.2.2.2.1
theorem En.ml (E : En Z x B) : x.c.maxLocals = B.ml := E.2.2.1
theorem En.rt (E : En Z x B) : x.meth.sig.returnType = B.rt := E.2.2.2.2.2.1
theorem En.nl (E : En Z x B) : x.meth.locks = false := E.2.2.2.2.2.2.2.1
/-! ## constants of the pool -/
theorem Go.ldcI (pc' : Nat) (hp : pc + 2 = pc') {ix : Nat} {v : Int32} (i : Nat) (hd : decode B.by pc = .ok (.ldc ix, 2)) (w : B.tb[i]? = some (.constant B.y.cls ix v)) (r : Go Q Z B k n h pc' Ls (.int v :: st)) : Go Q Z B k n h pc Ls st := fun x T P => by
  subst hp
  obtain ⟨a0, hw⟩ := P.wd.w
  obtain ⟨E, _, _, X, _⟩ := id P
  exact lift (fun t q => X.ldcI P.ex E.own (mv E.zz (hw w)) rfl (P.d hd) q) (r x T P)
theorem Go.ldcWI (pc' : Nat) (hp : pc + 3 = pc') {ix : Nat} {v : Int32} (i : Nat) (hd : decode B.by pc = .ok (.ldc_w ix, 3)) (w : B.tb[i]? = some (.constant B.y.cls ix v)) (r : Go Q Z B k n h pc' Ls (.int v :: st)) : Go Q Z B k n h pc Ls st := fun x T P => by
  subst hp
  obtain ⟨a0, hw⟩ := P.wd.w
  obtain ⟨E, _, _, X, _⟩ := id P
  exact lift (fun t q => X.ldcWI P.ex E.own (mv E.zz (hw w)) rfl (P.d hd) q) (r x T P)
theorem Go.ldc2J (pc' : Nat) (hp : pc + 3 = pc') {ix : Nat} {v : Int64} (i : Nat) (hd : decode B.by pc = .ok (.ldc2_w ix, 3)) (w : B.tb[i]? = some (.constantLong B.y.cls ix v)) (r : Go Q Z B k n h pc' Ls (.long v :: st)) : Go Q Z B k n h pc Ls st := fun x T P => by
  subst hp
  obtain ⟨a0, hw⟩ := P.wd.w
  obtain ⟨E, _, _, X, _⟩ := id P
  exact lift (fun t q => X.ldc2J P.ex E.own (mv E.zz (hw w)) rfl (P.d hd) q) (r x T P)
theorem Go.ldc2D (pc' : Nat) (hp : pc + 3 = pc') {ix : Nat} {v : UInt64} (i : Nat) (hd : decode B.by pc = .ok (.ldc2_w ix, 3)) (w : B.tb[i]? = some (.constantDouble B.y.cls ix v)) (r : Go Q Z B k n h pc' Ls (.double v :: st)) : Go Q Z B k n h pc Ls st := fun x T P => by
  subst hp
  obtain ⟨a0, hw⟩ := P.wd.w
  obtain ⟨E, _, _, X, _⟩ := id P
  exact lift (fun t q => X.ldc2DoubleC P.ex E.own (mv E.zz (hw w)) (g := mkF x.m pc Ls st) rfl (P.d hd) t q) (r x T P)
/-! ## objects -/
theorem store_one {l l' : Array Slot} {i : Nat} {v : Value} {o : Slot} (hold : l[i]? = some o) (ho : One o) (hv : v.category = 1) (hl : l.setIfInBounds i (.val v) = l') : storeLocals l i v = some l' := by
  rw [XS.store1 hold ho hv, hl]
theorem ltN {a : Addr} {m : Nat} (q : @LT.lt Nat instLTNat a m) : @LT.lt Nat instLTNat a m := q
theorem keep_ext (E : Ext h h') : Keep h h' [] := (Keep.refl h []).ext E
theorem keep_wr {a : Addr} {sl : Nat} {v : Value} (W : Wr h h' a sl v) : Keep h h' [a] := Keep.of_wr W
theorem ext_keep {H : Heap} {ws : List Addr} (E : Ext H h) (K : Keep h h' ws) (q : ∀ y ∈ ws, H.size ≤ y) : Ext H h' :=
  ⟨Nat.le_trans E.1 K.1, fun y c r => K.2.1 y c (E.2 y c r) fun z => absurd (Array.getElem?_eq_some_iff.mp r).1 (Nat.not_lt.mpr (q y z))⟩
theorem ge1 {H : Nat} {a : Addr} (q : H ≤ a) : ∀ y ∈ [a], H ≤ y := allS q all0
theorem fr_snoc {K : Nat} {locs : List Loc} {a : Addr} {sl : Nat} (N : Fr K locs) (q : K ≤ a) : Fr K (locs ++ [⟨a, sl⟩]) := N.app fun y hy => by cases List.mem_singleton.mp hy; exact q
theorem Go.newO (pc' : Nat) (hp : pc + 3 = pc') {C : String} {ix sz : Nat} (i1 i2 i3 : Nat) (hd : decode B.by pc = .ok (.new ix, 3)) (w1 : B.tb[i1]? = some (.classLink B.y.cls ix C)) (w2 : B.tb[i2]? = some (.instantiable C sz)) (w3 : B.tb[i3]? = some (.initialized C)) (hc : k + 1 ≤ B.R.cells) (hl : n + sz ≤ B.R.slots)
    (r : ∀ (h' : Heap) (a : Addr), @Eq Nat a h.size → Z.heap.size ≤ a → Keep h h' [] → Exa Z h' a C → (∀ (i : Nat) {O nm d : String} {ty : FieldType}, B.tb[i]? = some (.lays C O nm d) ∨ B.tb[i]? = some (.laysFinal C O nm d) → parseFieldDescriptor d = some ty → Fld Z h' a O nm d (defaultValue ty)) → Go Q Z B (k + 1) (n + sz) h' pc' Ls (.ref a :: st)) : Go Q Z B k n h pc Ls st := fun x T P => by
  subst hp
  obtain ⟨a0, hw⟩ := P.wd.w
  obtain ⟨E, O', locs, X, e, N⟩ := id P
  obtain ⟨T', h', X', e', Ex, A, D, -, s'⟩ := RoadKit.newO X P.ex E.zz E.own (hw w1) (hw w2) (hw w3) e (g := mkF x.m pc Ls st) rfl (P.d hd) hc hl
  exact lift s' (r h' h.size rfl P.le (keep_ext Ex) A (fun i {O nm d ty} q ht => D (q.imp (fun z => hw z) (fun z => hw z)) ht) x T' ⟨E, ⟨Nat.le_trans O'.1 Ex.1, fun y c q => Ex.2 y c (O'.2 y c q)⟩, locs, X', e', N⟩)
theorem Go.getF (pc' : Nat) (hp : pc + 3 = pc') {O nm d : String} {ix : Nat} {a : Addr} {v : Value} (i : Nat) (hd : decode B.by pc = .ok (.getfield ix, 3)) (w : B.tb[i]? = some (.fieldLink B.y.cls ix O nm d)) (F : Fld Z h a O nm d v) (r : Go Q Z B k n h pc' Ls (v :: st)) : Go Q Z B k n h pc Ls (.ref a :: st) := fun x T P => by
  subst hp
  obtain ⟨a0, hw⟩ := P.wd.w
  obtain ⟨E, O', locs, X, e, N⟩ := id P
  obtain ⟨T', X', e', s'⟩ := RoadKit.getF X P.ex E.zz E.own (host := "") (Or.inl (hw w)) Via.refl e F (g := mkF x.m pc Ls (.ref a :: st)) rfl rfl (P.d hd)
  exact lift s' (r x T' ⟨E, O', locs, X', e', N⟩)
theorem Go.getFN (pc' : Nat) (hp : pc + 3 = pc') {O nm d host : String} {ix : Nat} {a : Addr} {v : Value} (i : Nat) (hd : decode B.by pc = .ok (.getfield ix, 3)) (w : B.tb[i]? = some (.fieldLinkNest B.y.cls ix O nm d host)) (F : Fld Z h a O nm d v) (r : Go Q Z B k n h pc' Ls (v :: st)) : Go Q Z B k n h pc Ls (.ref a :: st) := fun x T P => by
  subst hp
  obtain ⟨a0, hw⟩ := P.wd.w
  obtain ⟨E, O', locs, X, e, N⟩ := id P
  obtain ⟨T', X', e', s'⟩ := RoadKit.getF X P.ex E.zz E.own (host := host) (Or.inr (hw w)) Via.refl e F (g := mkF x.m pc Ls (.ref a :: st)) rfl rfl (P.d hd)
  exact lift s' (r x T' ⟨E, O', locs, X', e', N⟩)
theorem Go.getFV (pc' : Nat) (hp : pc + 3 = pc') {R0 O nm d : String} {ix : Nat} {a : Addr} {v : Value} (i j : Nat) (hd : decode B.by pc = .ok (.getfield ix, 3)) (w : B.tb[i]? = some (.fieldLink B.y.cls ix R0 nm d)) (w2 : B.tb[j]? = some (.sameField R0 O nm d)) (F : Fld Z h a O nm d v) (r : Go Q Z B k n h pc' Ls (v :: st)) : Go Q Z B k n h pc Ls (.ref a :: st) := fun x T P => by
  subst hp
  obtain ⟨a0, hw⟩ := P.wd.w
  obtain ⟨E, O', locs, X, e, N⟩ := id P
  obtain ⟨T', X', e', s'⟩ := RoadKit.getF X P.ex E.zz E.own (host := "") (Or.inl (hw w)) (Via.of (hw w2)) e F (g := mkF x.m pc Ls (.ref a :: st)) rfl rfl (P.d hd)
  exact lift s' (r x T' ⟨E, O', locs, X', e', N⟩)
theorem Go.putF (pc' : Nat) (hp : pc + 3 = pc') {C O nm d : String} {ix sz : Nat} {ty : FieldType} {a : Addr} {v v' old : Value} (i1 i2 i3 : Nat) (hd : decode B.by pc = .ok (.putfield ix, 3)) (w1 : B.tb[i1]? = some (.fieldLink B.y.cls ix O nm d)) (F : Fld Z h a O nm d old) (Ea : Exa Z h a C)
    (L : B.tb[i2]? = some (.lays C O nm d) ∨ (B.tb[i2]? = some (.laysFinal C O nm d) ∧ B.y.cls = O ∧ B.y.name = "<init>")) (w3 : B.tb[i3]? = some (.instantiable C sz)) (hty : parseFieldDescriptor d = some ty) (hn : narrow ty v = v') (hf : fits ty v' = true) (ge : Z.heap.size ≤ a)
    (r : ∀ h' : Heap, Keep h h' [a] → Wr h h' a (RoadKit.slotOf Z O nm d) v' → Fld Z h' a O nm d v' → Go Q Z B k n h' pc' Ls st) : Go Q Z B k n h pc Ls (v :: .ref a :: st) := fun x T P => by
  subst hp
  obtain ⟨a0, hw⟩ := P.wd.w
  obtain ⟨E, O', locs, X, e, N⟩ := id P
  obtain ⟨T', h', X', e', W, s'⟩ := putFN X P.ex E.zz E.own (hw w1) Via.refl e F Ea (L.imp (fun z => hw z) (fun z => ⟨hw z.1, z.2.1, E.2.2.2.2.1.trans z.2.2⟩)) (hw w3) hty hn hf (g := mkF x.m pc Ls (v :: .ref a :: st)) rfl rfl (P.d hd)
  exact lift s' (r h' (keep_wr W) W (F.same W) x T' ⟨E, ext_keep O' (keep_wr W) (ge1 ge), _, X', e', fr_snoc N ge⟩)
theorem Go.putFV (pc' : Nat) (hp : pc + 3 = pc') {R0 C O nm d : String} {ix sz : Nat} {ty : FieldType} {a : Addr} {v v' old : Value} (i1 i2 i3 i4 : Nat) (hd : decode B.by pc = .ok (.putfield ix, 3)) (w1 : B.tb[i1]? = some (.fieldLink B.y.cls ix R0 nm d)) (w4 : B.tb[i4]? = some (.sameField R0 O nm d)) (F : Fld Z h a O nm d old) (Ea : Exa Z h a C)
    (L : B.tb[i2]? = some (.lays C O nm d) ∨ (B.tb[i2]? = some (.laysFinal C O nm d) ∧ B.y.cls = O ∧ B.y.name = "<init>")) (w3 : B.tb[i3]? = some (.instantiable C sz)) (hty : parseFieldDescriptor d = some ty) (hn : narrow ty v = v') (hf : fits ty v' = true) (ge : Z.heap.size ≤ a)
    (r : ∀ h' : Heap, Keep h h' [a] → Wr h h' a (RoadKit.slotOf Z O nm d) v' → Fld Z h' a O nm d v' → Go Q Z B k n h' pc' Ls st) : Go Q Z B k n h pc Ls (v :: .ref a :: st) := fun x T P => by
  subst hp
  obtain ⟨a0, hw⟩ := P.wd.w
  obtain ⟨E, O', locs, X, e, N⟩ := id P
  obtain ⟨T', h', X', e', W, s'⟩ := putFN X P.ex E.zz E.own (hw w1) (Via.of (hw w4)) e F Ea (L.imp (fun z => hw z) (fun z => ⟨hw z.1, z.2.1, E.2.2.2.2.1.trans z.2.2⟩)) (hw w3) hty hn hf (g := mkF x.m pc Ls (v :: .ref a :: st)) rfl rfl (P.d hd)
  exact lift s' (r h' (keep_wr W) W (F.same W) x T' ⟨E, ext_keep O' (keep_wr W) (ge1 ge), _, X', e', fr_snoc N ge⟩)
/-- another field of the object that was written -/
theorem Fld.oth {C O nm d O2 nm2 d2 : String} {tb : List Cond} {a b : Addr} {v w : Value} {t t' : FieldType} (hw : Wd Z tb) (F : Fld Z h b O nm d w) (W : Wr h h' a (RoadKit.slotOf Z O2 nm2 d2) v) (i j : Nat) (L1 : tb[i]? = some (.lays C O nm d) ∨ tb[i]? = some (.laysFinal C O nm d)) (L2 : tb[j]? = some (.lays C O2 nm2 d2) ∨ tb[j]? = some (.laysFinal C O2 nm2 d2))
    (hn : nm ≠ nm2) (ht : parseFieldDescriptor d = some t) (ht' : parseFieldDescriptor d2 = some t') : Fld Z h' b O nm d w := by
  obtain ⟨a0, hw⟩ := hw.w
  exact F.other W (Or.inr (RoadKit.slot_ne (a0 := a0) (L1.imp (fun z => hw z) (fun z => hw z)) (L2.imp (fun z => hw z) (fun z => hw z)) hn ht ht'))
theorem Go.getS (pc' : Nat) (hp : pc + 3 = pc') {O nm d : String} {ix : Nat} {v : Value} (i : Nat) (hd : decode B.by pc = .ok (.getstatic ix, 3)) (w : B.tb[i]? = some (.fieldLink B.y.cls ix O nm d)) (F : Sta Z Z.heap O nm d v) (r : Go Q Z B k n h pc' Ls (v :: st)) : Go Q Z B k n h pc Ls st := fun x T P => by
  subst hp
  obtain ⟨a0, hw⟩ := P.wd.w
  obtain ⟨E, O', locs, X, e, N⟩ := id P
  obtain ⟨T', X', e', s'⟩ := RoadKit.getS X P.ex E.zz (host := "") E.own (hw w) Via.refl e (F.ext O') (g := mkF x.m pc Ls st) rfl (P.d hd)
  exact lift s' (r x T' ⟨E, O', locs, X', e', N⟩)
theorem Go.getSN (pc' : Nat) (hp : pc + 3 = pc') {O nm d host : String} {ix : Nat} {v : Value} (i : Nat) (hd : decode B.by pc = .ok (.getstatic ix, 3)) (w : B.tb[i]? = some (.fieldLinkNest B.y.cls ix O nm d host)) (F : Sta Z Z.heap O nm d v) (r : Go Q Z B k n h pc' Ls (v :: st)) : Go Q Z B k n h pc Ls st := fun x T P => by
  subst hp
  obtain ⟨a0, hw⟩ := P.wd.w
  obtain ⟨E, O', locs, X, e, N⟩ := id P
  obtain ⟨T', X', e', s'⟩ := getS2 X P.ex E.zz (host := host) E.own (Or.inr (hw w)) Via.refl e (F.ext O') (g := mkF x.m pc Ls st) rfl (P.d hd)
  exact lift s' (r x T' ⟨E, O', locs, X', e', N⟩)
theorem Go.castY (pc' : Nat) (hp : pc + 3 = pc') {K : String} {ix : Nat} {a : Addr} (i : Nat) (hd : decode B.by pc = .ok (.checkcast ix, 3)) (w : B.tb[i]? = some (.classLink B.y.cls ix K)) (F : Ins Z h a K true) (r : Go Q Z B k n h pc' Ls (.ref a :: st)) : Go Q Z B k n h pc Ls (.ref a :: st) := fun x T P => by
  subst hp
  obtain ⟨a0, hw⟩ := P.wd.w
  obtain ⟨E, O', locs, X, e, N⟩ := id P
  obtain ⟨T', X', e', s'⟩ := RoadKit.castY X P.ex E.zz E.own (hw w) e F (g := mkF x.m pc Ls (.ref a :: st)) rfl rfl (P.d hd)
  exact lift s' (r x T' ⟨E, O', locs, X', e', N⟩)
theorem Go.instY (pc' : Nat) (hp : pc + 3 = pc') {K : String} {ix : Nat} {a : Addr} (i : Nat) (hd : decode B.by pc = .ok (.instanceof ix, 3)) (w : B.tb[i]? = some (.classLink B.y.cls ix K)) (F : Ins Z h a K true) (r : Go Q Z B k n h pc' Ls (.int 1 :: st)) : Go Q Z B k n h pc Ls (.ref a :: st) := fun x T P => by
  subst hp
  obtain ⟨a0, hw⟩ := P.wd.w
  obtain ⟨E, O', locs, X, e, N⟩ := id P
  obtain ⟨T', X', e', s'⟩ := RoadKit.instY X P.ex E.zz E.own (hw w) e F (g := mkF x.m pc Ls (.ref a :: st)) rfl rfl (P.d hd)
  exact lift s' (r x T' ⟨E, O', locs, X', e', N⟩)
theorem Go.instNo (pc' : Nat) (hp : pc + 3 = pc') {C K : String} {ix : Nat} {a : Addr} (i : Nat) (hd : decode B.by pc = .ok (.instanceof ix, 3)) (w : B.tb[i]? = some (.classLink B.y.cls ix K)) (Ea : Exa Z h a C) (F : ∃ c t, Z.vm.findClass C = some c ∧ Z.vm.findClass K = some t ∧ Z.vm.assignable c t = false) (r : Go Q Z B k n h pc' Ls (.int 0 :: st)) : Go Q Z B k n h pc Ls (.ref a :: st) := fun x T P => by
  subst hp
  obtain ⟨a0, hw⟩ := P.wd.w
  obtain ⟨E, O', locs, X, e, N⟩ := id P
  obtain ⟨T', X', e', s'⟩ := RoadKit.instNo X P.ex E.zz E.own (hw w) e Ea F (g := mkF x.m pc Ls (.ref a :: st)) rfl rfl (P.d hd)
  exact lift s' (r x T' ⟨E, O', locs, X', e', N⟩)
theorem Go.initO (pc' : Nat) (hp : pc + 3 = pc') {ix : Nat} {a : Addr} (i1 i2 i3 : Nat) (hd : decode B.by pc = .ok (.invokespecial ix, 3)) (w1 : B.tb[i1]? = some (.methodLink B.y.cls ix Lib.objectInit)) (w2 : B.tb[i2]? = some (.instanceMethod Lib.objectInit)) (w3 : B.tb[i3]? = some (.code Lib.objectInit ⟨#[0xb1]⟩ 1 none)) (hs : Ls.size = B.ml) (hf : 1 ≤ B.R.frames) {W : Nat} (hW : (st.map fun v => v.category).sum ≤ W) (hl : W + 12 ≤ B.R.locals)
    (r : Go Q Z B k n h pc' Ls st) : Go Q Z B k n h pc Ls (.ref a :: st) := fun x T P => by
  subst hp
  obtain ⟨a0, hw⟩ := P.wd.w
  obtain ⟨E, O', locs, X, e, N⟩ := id P
  obtain ⟨T', X', e', s'⟩ := RoadKit.initO X P.ex E.zz E.own (hw w1) (hw w2) (hw w3) e (g := mkF x.m pc Ls (.ref a :: st)) rfl (by rw [E.ml]; exact hs) rfl (P.d hd) hf (W := W) (by show 2 * 0 + _ ≤ _; omega) hl
  exact lift s' (r x T' ⟨E, O', locs, X', e', N⟩)
/-! ## arrays -/
theorem Ary.lt {a : Addr} {ty : FieldType} {vs : List Value} (A : Ary Z h a ty vs) : a < h.size := by obtain ⟨c, A, -⟩ := A; exact A.lt
theorem Ary.len {a : Addr} {ty : FieldType} {vs : List Value} (A : Ary Z h a ty vs) : vs.length < 2 ^ 31 := by obtain ⟨c, -, -, r, -⟩ := A; exact r
theorem len_ofNat {m : Nat} (hm : m < 2 ^ 31) : (Int32.ofNat m).toInt = m := Int32.toInt_ofNat_of_lt hm
theorem ofNat_zero {m : Nat} (hm : m < 2 ^ 31) : Int32.ofNat m = 0 ↔ m = 0 := by
  constructor
  · intro q; have := len_ofNat hm; rw [q] at this; have z : (0 : Int32).toInt = 0 := rfl; omega
  · intro q; subst q; rfl
theorem Ary.keep {a : Addr} {ty : FieldType} {vs : List Value} {ws : List Addr} (A : Ary Z h a ty vs) (K : Keep h h' ws) (q : a ∉ ws) : Ary Z h' a ty vs := by
  obtain ⟨c, A, r⟩ := A; exact ⟨c, ⟨K.2.1 a c A.1 q, A.2⟩, r⟩
theorem Ary.ext {a : Addr} {ty : FieldType} {vs : List Value} (E : Ext h h') (A : Ary Z h a ty vs) : Ary Z h' a ty vs := by
  obtain ⟨c, A, r⟩ := A; exact ⟨c, A.ext E, r⟩
theorem Aov.keep {a : Addr} {C : String} {ws : List Addr} (A : Aov Z h a C) (K : Keep h h' ws) : Aov Z h' a C := by
  obtain ⟨c, A, r⟩ := A; obtain ⟨c', q1, q2, -⟩ := K.2.2 a c A; exact ⟨c', q1, q2 ▸ r⟩
theorem Ins.keep {a : Addr} {C : String} {b : Bool} {ws : List Addr} (A : Ins Z h a C b) (K : Keep h h' ws) : Ins Z h' a C b := by
  obtain ⟨c, cT, A, r1, r2⟩ := A; obtain ⟨c', q1, q2, q3, -⟩ := K.2.2 a c A; exact ⟨c', cT, q1, r1, by rw [q2, q3]; exact r2⟩
theorem Sta.keepO {C nm d : String} {w : Value} (E : Ext Z.heap h) (F : Sta Z Z.heap C nm d w) : Sta Z h C nm d w := F.ext E
theorem ix_in {m : Nat} {j : Int32} (h0 : 0 ≤ j.toInt) (h1 : j.toInt < m) : ¬ (j < 0 ∨ m ≤ j.toNatClampNeg) := by
  intro q
  rcases q with q | q
  · rw [Int32.lt_iff_toInt_lt] at q; have : (0 : Int32).toInt = 0 := rfl; omega
  · have := nat_of (j := j) (by rw [Int32.lt_iff_toInt_lt]; have : (0 : Int32).toInt = 0 := rfl; omega); omega
theorem ix_nat {m : Nat} {j : Int32} (h0 : j.toInt = m) : j.toNatClampNeg = m := by
  have := nat_of (j := j) (by rw [Int32.lt_iff_toInt_lt]; have : (0 : Int32).toInt = 0 := rfl; omega); omega
theorem len_nat {m : Nat} (h : m < 2 ^ 31) : m.toInt32.toInt = m := len_toInt h
theorem slots_at {c : Cell} {vs : List Value} (e : c.slots.toList = vs) (j : Nat) : c.slots[j]? = vs[j]? := by rw [← e]; simp
theorem Go.newA (pc' : Nat) (hp : pc + 2 = pc') {aty : ArrayType} {m : Int32} (i cap N : Nat) (hd : decode B.by pc = .ok (.newarray aty, 2)) (w : B.tb[i]? = some (.arrayClass (newarray.typeOf aty))) (hN : m.toInt = N) (hcap : N ≤ cap) (hb : cap * 8 ≤ 536870912) (hc : k + 1 ≤ B.R.cells) (hl : n + cap ≤ B.R.slots)
    (r : ∀ (h' : Heap) (a : Addr), @Eq Nat a h.size → Z.heap.size ≤ a → Keep h h' [] → Ary Z h' a (newarray.typeOf aty) (List.replicate N (defaultValue (newarray.typeOf aty))) → Exa Z h' a ("[" ++ (newarray.typeOf aty).toString) → Go Q Z B (k + 1) (n + cap) h' pc' Ls (.ref a :: st)) : Go Q Z B k n h pc Ls (.int m :: st) := fun x T P => by
  subst hp
  obtain ⟨a0, hw⟩ := P.wd.w
  obtain ⟨E, O', locs, X, e, N'⟩ := id P
  have hm : ¬ m < 0 := by rw [Int32.lt_iff_toInt_lt]; have : (0 : Int32).toInt = 0 := rfl; omega
  obtain ⟨T', h', cA, X', e', Ex, A, A', s'⟩ := newPE X P.ex E.zz (hw w) e (g := mkF x.m pc Ls (.int m :: st)) rfl (P.d hd) rfl hm (cap := cap) (by rw [ix_nat hN]; exact hcap) hb hc hl rfl
  have hlen : N < 2 ^ 31 := by have := m.toInt_lt; omega
  refine lift s' (r h' h.size rfl P.le (keep_ext Ex) ⟨_, A, ?_, ?_, ?_⟩ A' x T' ⟨E, ⟨Nat.le_trans O'.1 Ex.1, fun y c q => Ex.2 y c (O'.2 y c q)⟩, locs, X', e', N'⟩)
  · show (Array.replicate _ _).toList = _
    rw [ix_nat hN, Array.toList_replicate]
  · rw [List.length_replicate]; exact hlen
  · intro v hv
    rw [List.eq_of_mem_replicate hv]
    cases aty <;> rfl
theorem Go.newR (pc' : Nat) (hp : pc + 3 = pc') {C : String} {ix : Nat} {m : Int32} (i1 i2 cap N : Nat) (hd : decode B.by pc = .ok (.anewarray ix, 3)) (w1 : B.tb[i1]? = some (.classLink B.y.cls ix C)) (w2 : B.tb[i2]? = some (.arrayOver (.object C))) (hN : m.toInt = N) (hcap : N ≤ cap) (hb : cap * 8 ≤ 536870912) (hc : k + 1 ≤ B.R.cells) (hl : n + cap ≤ B.R.slots)
    (r : ∀ (h' : Heap) (a : Addr), @Eq Nat a h.size → Z.heap.size ≤ a → Keep h h' [] → Ary Z h' a (.object C) (List.replicate N .null) → Exa Z h' a ("[" ++ (FieldType.object C).toString) → Aov Z h' a C → Go Q Z B (k + 1) (n + cap) h' pc' Ls (.ref a :: st)) : Go Q Z B k n h pc Ls (.int m :: st) := fun x T P => by
  subst hp
  obtain ⟨a0, hw⟩ := P.wd.w
  obtain ⟨E, O', locs, X, e, N'⟩ := id P
  have hm : ¬ m < 0 := by rw [Int32.lt_iff_toInt_lt]; have : (0 : Int32).toInt = 0 := rfl; omega
  obtain ⟨T', h', cA, X', e', Ex, A, A', O1, s'⟩ := newRE X P.ex E.zz E.own (hw w1) (hw w2) e (g := mkF x.m pc Ls (.int m :: st)) rfl (P.d hd) rfl hm (cap := cap) (by rw [ix_nat hN]; exact hcap) hb hc hl rfl
  have hlen : N < 2 ^ 31 := by have := m.toInt_lt; omega
  refine lift s' (r h' h.size rfl P.le (keep_ext Ex) ⟨_, A, ?_, ?_, ?_⟩ A' ⟨_, A.1, O1⟩ x T' ⟨E, ⟨Nat.le_trans O'.1 Ex.1, fun y c q => Ex.2 y c (O'.2 y c q)⟩, locs, X', e', N'⟩)
  · show (Array.replicate _ _).toList = _
    rw [ix_nat hN, Array.toList_replicate]; rfl
  · rw [List.length_replicate]; exact hlen
  · intro v hv
    rw [List.eq_of_mem_replicate hv]; rfl
theorem Go.alen (pc' : Nat) (hp : pc + 1 = pc') {ty : FieldType} {a : Addr} {vs : List Value} (v : Int32) (hd : decode B.by pc = .ok (.arraylength, 1)) (A : Ary Z h a ty vs) (hv : v.toInt = vs.length) (r : Go Q Z B k n h pc' Ls (.int v :: st)) : Go Q Z B k n h pc Ls (.ref a :: st) := fun x T P => by
  subst hp
  obtain ⟨E, O', locs, X, e, N'⟩ := id P
  obtain ⟨c, A, e1, e2, e3⟩ := A
  have : c.slots.size.toInt32 = v := by
    have q : c.slots.size = vs.length := by rw [← e1]; simp
    apply Int32.toInt_inj.mp
    rw [q, hv, len_toInt e2]
  exact lift (fun t q => X.arraylength P.ex (by rw [e]; exact A.1) (State.isArrayOf_alike E.zz.alike A.2.1) (g := mkF x.m pc Ls (.ref a :: st)) rfl rfl (P.d hd) t (by rw [this]; exact q)) (r x T P)
theorem Go.iaload (pc' : Nat) (hp : pc + 1 = pc') {a : Addr} {vs : List Value} {j : Int32} (v : Int32) (hd : decode B.by pc = .ok (.iaload, 1)) (A : Ary Z h a .int vs) (jn : Nat) (hj : j.toInt = jn) (hv : vs[jn]? = some (.int v)) (r : Go Q Z B k n h pc' Ls (.int v :: st)) : Go Q Z B k n h pc Ls (.int j :: .ref a :: st) := fun x T P => by
  subst hp
  obtain ⟨E, O', locs, X, e, N'⟩ := id P
  obtain ⟨c, A, e1, e2, e3⟩ := A
  have q : c.slots.size = vs.length := by rw [← e1]; simp
  have hlt := (List.getElem?_eq_some_iff.mp hv).1
  exact lift (fun t q' => X.iaload P.ex (j := j) (v := .int v) (by rw [e]; exact A.1) (State.isArrayOf_alike E.zz.alike A.2.1) A.2.2 (ix_in (by omega) (by omega)) (by rw [ix_nat hj, slots_at e1]; exact hv) (g := mkF x.m pc Ls (.int j :: .ref a :: st)) rfl rfl (P.d hd) t q') (r x T P)
theorem Go.laload (pc' : Nat) (hp : pc + 1 = pc') {a : Addr} {vs : List Value} {j : Int32} (v : Int64) (hd : decode B.by pc = .ok (.laload, 1)) (A : Ary Z h a .long vs) (jn : Nat) (hj : j.toInt = jn) (hv : vs[jn]? = some (.long v)) (r : Go Q Z B k n h pc' Ls (.long v :: st)) : Go Q Z B k n h pc Ls (.int j :: .ref a :: st) := fun x T P => by
  subst hp
  obtain ⟨E, O', locs, X, e, N'⟩ := id P
  obtain ⟨c, A, e1, e2, e3⟩ := A
  have q : c.slots.size = vs.length := by rw [← e1]; simp
  have hlt := (List.getElem?_eq_some_iff.mp hv).1
  exact lift (fun t q' => X.laload P.ex (j := j) (v := .long v) (by rw [e]; exact A.1) (State.isArrayOf_alike E.zz.alike A.2.1) A.2.2 (ix_in (by omega) (by omega)) (by rw [ix_nat hj, slots_at e1]; exact hv) (g := mkF x.m pc Ls (.int j :: .ref a :: st)) rfl rfl (P.d hd) t q') (r x T P)
theorem Go.caload (pc' : Nat) (hp : pc + 1 = pc') {a : Addr} {vs : List Value} {j : Int32} (v : Int32) (hd : decode B.by pc = .ok (.caload, 1)) (A : Ary Z h a .char vs) (jn : Nat) (hj : j.toInt = jn) (hv : vs[jn]? = some (.int v)) (r : Go Q Z B k n h pc' Ls (.int v :: st)) : Go Q Z B k n h pc Ls (.int j :: .ref a :: st) := fun x T P => by
  subst hp
  obtain ⟨E, O', locs, X, e, N'⟩ := id P
  obtain ⟨c, A, e1, e2, e3⟩ := A
  have q : c.slots.size = vs.length := by rw [← e1]; simp
  have hlt := (List.getElem?_eq_some_iff.mp hv).1
  exact lift (fun t q' => X.caload P.ex (j := j) (v := .int v) (by rw [e]; exact A.1) (State.isArrayOf_alike E.zz.alike A.2.1) A.2.2 (ix_in (by omega) (by omega)) (by rw [ix_nat hj, slots_at e1]; exact hv) (g := mkF x.m pc Ls (.int j :: .ref a :: st)) rfl rfl (P.d hd) t q') (r x T P)
theorem Go.saload (pc' : Nat) (hp : pc + 1 = pc') {a : Addr} {vs : List Value} {j : Int32} (v : Int32) (hd : decode B.by pc = .ok (.saload, 1)) (A : Ary Z h a .short vs) (jn : Nat) (hj : j.toInt = jn) (hv : vs[jn]? = some (.int v)) (r : Go Q Z B k n h pc' Ls (.int v :: st)) : Go Q Z B k n h pc Ls (.int j :: .ref a :: st) := fun x T P => by
  subst hp
  obtain ⟨E, O', locs, X, e, N'⟩ := id P
  obtain ⟨c, A, e1, e2, e3⟩ := A
  have q : c.slots.size = vs.length := by rw [← e1]; simp
  have hlt := (List.getElem?_eq_some_iff.mp hv).1
  exact lift (fun t q' => X.saload P.ex (j := j) (v := .int v) (by rw [e]; exact A.1) (State.isArrayOf_alike E.zz.alike A.2.1) A.2.2 (ix_in (by omega) (by omega)) (by rw [ix_nat hj, slots_at e1]; exact hv) (g := mkF x.m pc Ls (.int j :: .ref a :: st)) rfl rfl (P.d hd) t q') (r x T P)
theorem Go.baload (pc' : Nat) (hp : pc + 1 = pc') {a : Addr} {vs : List Value} {j : Int32} (v : Int32) (hd : decode B.by pc = .ok (.baload, 1)) (A : Ary Z h a .byte vs) (jn : Nat) (hj : j.toInt = jn) (hv : vs[jn]? = some (.int v)) (r : Go Q Z B k n h pc' Ls (.int v :: st)) : Go Q Z B k n h pc Ls (.int j :: .ref a :: st) := fun x T P => by
  subst hp
  obtain ⟨E, O', locs, X, e, N'⟩ := id P
  obtain ⟨c, A, e1, e2, e3⟩ := A
  have q : c.slots.size = vs.length := by rw [← e1]; simp
  have hlt := (List.getElem?_eq_some_iff.mp hv).1
  exact lift (fun t q' => X.baloadBytes P.ex (j := j) (v := .int v) (by rw [e]; exact A.1) (State.isArrayOf_alike E.zz.alike A.2.1) A.2.2 (ix_in (by omega) (by omega)) (by rw [ix_nat hj, slots_at e1]; exact hv) (g := mkF x.m pc Ls (.int j :: .ref a :: st)) rfl rfl (P.d hd) t q') (r x T P)
theorem Go.zaload (pc' : Nat) (hp : pc + 1 = pc') {a : Addr} {vs : List Value} {j : Int32} (v : Int32) (hd : decode B.by pc = .ok (.baload, 1)) (A : Ary Z h a .boolean vs) (jn : Nat) (hj : j.toInt = jn) (hv : vs[jn]? = some (.int v)) (r : Go Q Z B k n h pc' Ls (.int v :: st)) : Go Q Z B k n h pc Ls (.int j :: .ref a :: st) := fun x T P => by
  subst hp
  obtain ⟨E, O', locs, X, e, N'⟩ := id P
  obtain ⟨c, A, e1, e2, e3⟩ := A
  have q : c.slots.size = vs.length := by rw [← e1]; simp
  have hlt := (List.getElem?_eq_some_iff.mp hv).1
  exact lift (fun t q' => X.baloadBooleans P.ex (j := j) (v := .int v) (by rw [e]; exact A.1) (State.isArrayOf_alike E.zz.alike A.2.1) A.2.2 (ix_in (by omega) (by omega)) (by rw [ix_nat hj, slots_at e1]; exact hv) (g := mkF x.m pc Ls (.int j :: .ref a :: st)) rfl rfl (P.d hd) t q') (r x T P)
theorem Go.aaload (pc' : Nat) (hp : pc + 1 = pc') {ty : FieldType} {a : Addr} {vs : List Value} {j : Int32} (v : Value) (hd : decode B.by pc = .ok (.aaload, 1)) (hty : ty.isReference = true) (A : Ary Z h a ty vs) (jn : Nat) (hj : j.toInt = jn) (hv : vs[jn]? = some v) (r : Go Q Z B k n h pc' Ls (v :: st)) : Go Q Z B k n h pc Ls (.int j :: .ref a :: st) := fun x T P => by
  subst hp
  obtain ⟨E, O', locs, X, e, N'⟩ := id P
  obtain ⟨c, A, e1, e2, e3⟩ := A
  have q : c.slots.size = vs.length := by rw [← e1]; simp
  have hlt := (List.getElem?_eq_some_iff.mp hv).1
  exact lift (fun t q' => X.aaload P.ex (j := j) (v := v) (by rw [e]; exact A.1) (State.isArrayOf_alike E.zz.alike A.2.1) hty A.2.2 (ix_in (by omega) (by omega)) (by rw [ix_nat hj, slots_at e1]; exact hv) (g := mkF x.m pc Ls (.int j :: .ref a :: st)) rfl rfl (P.d hd) t q') (r x T P)
/-- a store into an array -/
theorem Ary.set {a : Addr} {ty : FieldType} {vs : List Value} {j : Nat} {v : Value} {c : Cell} (A : Arr Z h a c ty) (e1 : c.slots.toList = vs) (e2 : vs.length < 2 ^ 31) (e3 : ∀ v ∈ vs, fits ty v = true) (W : Wr h h' a j v) (hv : fits ty v = true) : Ary Z h' a ty (vs.set j v) := by
  refine ⟨c.setSlot j v, A.same W, ?_, by rw [List.length_set]; exact e2, fun w hw => ?_⟩
  · show (c.slots.setIfInBounds j v).toList = _
    rw [Array.toList_setIfInBounds, e1]
  · rcases List.mem_or_eq_of_mem_set hw with q | rfl
    · exact e3 _ q
    · exact hv
theorem Go.stI (pc' : Nat) (hp : pc + 1 = pc') {a : Addr} {vs : List Value} {j : Int32} {v : Int32} (hd : decode B.by pc = .ok (.iastore, 1)) (A : Ary Z h a .int vs) (jn : Nat) (hj : j.toInt = jn) (hlt : jn < vs.length) (ge : Z.heap.size ≤ a)
    (r : ∀ h' : Heap, Keep h h' [a] → Ary Z h' a .int (vs.set jn (.int v)) → Go Q Z B k n h' pc' Ls st) : Go Q Z B k n h pc Ls (.int v :: .int j :: .ref a :: st) := fun x T P => by
  subst hp
  obtain ⟨E, O', locs, X, e, N⟩ := id P
  obtain ⟨c, A, e1, e2, e3⟩ := A
  have q : c.slots.size = vs.length := by rw [← e1]; simp
  obtain ⟨T', h', X', e', W, s'⟩ := RoadKit.stI X P.ex E.zz e A (j := j) (ix_in (by omega) (by omega)) (g := mkF x.m pc Ls (.int v :: .int j :: .ref a :: st)) rfl rfl (P.d hd)
  rw [ix_nat hj] at W
  exact lift s' (r h' (keep_wr W) (Ary.set A e1 e2 e3 W (rfl)) x T' ⟨E, ext_keep O' (keep_wr W) (ge1 ge), _, X', e', fr_snoc N ge⟩)
theorem Go.stJ (pc' : Nat) (hp : pc + 1 = pc') {a : Addr} {vs : List Value} {j : Int32} {v : Int64} (hd : decode B.by pc = .ok (.lastore, 1)) (A : Ary Z h a .long vs) (jn : Nat) (hj : j.toInt = jn) (hlt : jn < vs.length) (ge : Z.heap.size ≤ a)
    (r : ∀ h' : Heap, Keep h h' [a] → Ary Z h' a .long (vs.set jn (.long v)) → Go Q Z B k n h' pc' Ls st) : Go Q Z B k n h pc Ls (.long v :: .int j :: .ref a :: st) := fun x T P => by
  subst hp
  obtain ⟨E, O', locs, X, e, N⟩ := id P
  obtain ⟨c, A, e1, e2, e3⟩ := A
  have q : c.slots.size = vs.length := by rw [← e1]; simp
  obtain ⟨T', h', X', e', W, s'⟩ := RoadKit.stJ X P.ex E.zz e A (j := j) (ix_in (by omega) (by omega)) (g := mkF x.m pc Ls (.long v :: .int j :: .ref a :: st)) rfl rfl (P.d hd)
  rw [ix_nat hj] at W
  exact lift s' (r h' (keep_wr W) (Ary.set A e1 e2 e3 W (rfl)) x T' ⟨E, ext_keep O' (keep_wr W) (ge1 ge), _, X', e', fr_snoc N ge⟩)
theorem Go.stC (pc' : Nat) (hp : pc + 1 = pc') {a : Addr} {vs : List Value} {j : Int32} {v : Int32} (hd : decode B.by pc = .ok (.castore, 1)) (A : Ary Z h a .char vs) (jn : Nat) (hj : j.toInt = jn) (hlt : jn < vs.length) (ge : Z.heap.size ≤ a)
    (r : ∀ h' : Heap, Keep h h' [a] → Ary Z h' a .char (vs.set jn (.int (nar .char v))) → Go Q Z B k n h' pc' Ls st) : Go Q Z B k n h pc Ls (.int v :: .int j :: .ref a :: st) := fun x T P => by
  subst hp
  obtain ⟨E, O', locs, X, e, N⟩ := id P
  obtain ⟨c, A, e1, e2, e3⟩ := A
  have q : c.slots.size = vs.length := by rw [← e1]; simp
  obtain ⟨T', h', X', e', W, s'⟩ := RoadKit.stC X P.ex E.zz e A (j := j) (ix_in (by omega) (by omega)) (g := mkF x.m pc Ls (.int v :: .int j :: .ref a :: st)) rfl rfl (P.d hd)
  rw [ix_nat hj] at W
  exact lift s' (r h' (keep_wr W) (Ary.set A e1 e2 e3 W (fits_nar_char v)) x T' ⟨E, ext_keep O' (keep_wr W) (ge1 ge), _, X', e', fr_snoc N ge⟩)
theorem Go.stS (pc' : Nat) (hp : pc + 1 = pc') {a : Addr} {vs : List Value} {j : Int32} {v : Int32} (hd : decode B.by pc = .ok (.sastore, 1)) (A : Ary Z h a .short vs) (jn : Nat) (hj : j.toInt = jn) (hlt : jn < vs.length) (ge : Z.heap.size ≤ a)
    (r : ∀ h' : Heap, Keep h h' [a] → Ary Z h' a .short (vs.set jn (.int (nar .short v))) → Go Q Z B k n h' pc' Ls st) : Go Q Z B k n h pc Ls (.int v :: .int j :: .ref a :: st) := fun x T P => by
  subst hp
  obtain ⟨E, O', locs, X, e, N⟩ := id P
  obtain ⟨c, A, e1, e2, e3⟩ := A
  have q : c.slots.size = vs.length := by rw [← e1]; simp
  obtain ⟨T', h', X', e', W, s'⟩ := RoadKit.stS X P.ex E.zz e A (j := j) (ix_in (by omega) (by omega)) (g := mkF x.m pc Ls (.int v :: .int j :: .ref a :: st)) rfl rfl (P.d hd)
  rw [ix_nat hj] at W
  exact lift s' (r h' (keep_wr W) (Ary.set A e1 e2 e3 W (fits_nar_short v)) x T' ⟨E, ext_keep O' (keep_wr W) (ge1 ge), _, X', e', fr_snoc N ge⟩)
theorem Go.stB (pc' : Nat) (hp : pc + 1 = pc') {a : Addr} {vs : List Value} {j : Int32} {v : Int32} (hd : decode B.by pc = .ok (.bastore, 1)) (A : Ary Z h a .byte vs) (jn : Nat) (hj : j.toInt = jn) (hlt : jn < vs.length) (ge : Z.heap.size ≤ a)
    (r : ∀ h' : Heap, Keep h h' [a] → Ary Z h' a .byte (vs.set jn (.int (nar .byte v))) → Go Q Z B k n h' pc' Ls st) : Go Q Z B k n h pc Ls (.int v :: .int j :: .ref a :: st) := fun x T P => by
  subst hp
  obtain ⟨E, O', locs, X, e, N⟩ := id P
  obtain ⟨c, A, e1, e2, e3⟩ := A
  have q : c.slots.size = vs.length := by rw [← e1]; simp
  obtain ⟨T', h', X', e', W, s'⟩ := RoadKit.stB X P.ex E.zz e A (j := j) (ix_in (by omega) (by omega)) (g := mkF x.m pc Ls (.int v :: .int j :: .ref a :: st)) rfl rfl (P.d hd)
  rw [ix_nat hj] at W
  exact lift s' (r h' (keep_wr W) (Ary.set A e1 e2 e3 W (fits_nar_byte v)) x T' ⟨E, ext_keep O' (keep_wr W) (ge1 ge), _, X', e', fr_snoc N ge⟩)
theorem Go.stZ (pc' : Nat) (hp : pc + 1 = pc') {a : Addr} {vs : List Value} {j : Int32} {v : Int32} (hd : decode B.by pc = .ok (.bastore, 1)) (A : Ary Z h a .boolean vs) (jn : Nat) (hj : j.toInt = jn) (hlt : jn < vs.length) (ge : Z.heap.size ≤ a)
    (r : ∀ h' : Heap, Keep h h' [a] → Ary Z h' a .boolean (vs.set jn (.int (nar .boolean v))) → Go Q Z B k n h' pc' Ls st) : Go Q Z B k n h pc Ls (.int v :: .int j :: .ref a :: st) := fun x T P => by
  subst hp
  obtain ⟨E, O', locs, X, e, N⟩ := id P
  obtain ⟨c, A, e1, e2, e3⟩ := A
  have q : c.slots.size = vs.length := by rw [← e1]; simp
  obtain ⟨T', h', X', e', W, s'⟩ := RoadKit.stZ X P.ex E.zz e A (j := j) (ix_in (by omega) (by omega)) (g := mkF x.m pc Ls (.int v :: .int j :: .ref a :: st)) rfl rfl (P.d hd)
  rw [ix_nat hj] at W
  exact lift s' (r h' (keep_wr W) (Ary.set A e1 e2 e3 W (fits_nar_bool v)) x T' ⟨E, ext_keep O' (keep_wr W) (ge1 ge), _, X', e', fr_snoc N ge⟩)
theorem Go.stR (pc' : Nat) (hp : pc + 1 = pc') {C : String} {a b : Addr} {vs : List Value} {j : Int32} (hd : decode B.by pc = .ok (.aastore, 1)) (A : Ary Z h a (.object C) vs) (O : Aov Z h a C) (I : Ins Z h b C true) (jn : Nat) (hj : j.toInt = jn) (hlt : jn < vs.length) (ge : Z.heap.size ≤ a)
    (r : ∀ h' : Heap, Keep h h' [a] → Ary Z h' a (.object C) (vs.set jn (.ref b)) → Go Q Z B k n h' pc' Ls st) : Go Q Z B k n h pc Ls (.ref b :: .int j :: .ref a :: st) := fun x T P => by
  subst hp
  obtain ⟨E, O', locs, X, e, N⟩ := id P
  obtain ⟨c, A, e1, e2, e3⟩ := A
  obtain ⟨c', q1, q2⟩ := O
  cases q1.symm.trans A.1
  have q : c.slots.size = vs.length := by rw [← e1]; simp
  obtain ⟨T', h', X', e', W, s'⟩ := RoadKit.stR X P.ex E.zz e A (j := j) (v := .ref b) (ix_in (by omega) (by omega)) rfl (Sto.of A q2 I) (g := mkF x.m pc Ls (.ref b :: .int j :: .ref a :: st)) rfl rfl (P.d hd)
  rw [ix_nat hj] at W
  exact lift s' (r h' (keep_wr W) (Ary.set A e1 e2 e3 W rfl) x T' ⟨E, ext_keep O' (keep_wr W) (ge1 ge), _, X', e', fr_snoc N ge⟩)
/-! ## returns -/
theorem ret_core {v : Option Value} {T : State} {locs : List Loc} {fs : List Frame} (E : En Z x B) (O' : Ext Z.heap h) (e : T.heap = h) (N : Fr Z.heap.size locs) (hk : k ≤ B.R.cells) (hn : n ≤ B.R.slots) (hQ : Q v h)
    (hs : Steps x.p.tables x.e x.below (T.setTop (mkF x.m pc Ls st)) (T.setFrames fs)) (hrun : (T.setFrames fs).status = .running) (hended : Ended (T.setFrames fs) x.below (.returned v)) (hW : x.s.WarmedH (T.setFrames fs).vm) (hsame : x.s.sameButNew ({ T.setFrames fs with vm := x.s.vm } : State) locs k n) : Rn Q Z x B T pc Ls st := by
  subst e
  exact ⟨T.setFrames fs, _, hs, hrun, hended, _, locs, rfl, ⟨hQ, O', N⟩, ⟨_, rfl⟩, hW, hsame.mono hk hn⟩
theorem Go.retV (hd : decode B.by pc = .ok (.return_, 1)) (ht : B.rt = none) (hk : k ≤ B.R.cells) (hn : n ≤ B.R.slots) (hQ : Q none h) : Go Q Z B k n h pc Ls [] := fun x T P => by
  obtain ⟨E, O', locs, X, e, N⟩ := id P
  obtain ⟨fs, hr, hrun, hended, hW, hsame⟩ := X.leave (v := none) (fun _ => rfl) E.nl
  exact ret_core E O' e N hk hn hQ (X.returnOut P.ex (E.rt.trans ht) (P.d hd) hr) hrun hended hW hsame
theorem Go.retI {z : Int32} (hd : decode B.by pc = .ok (.ireturn, 1)) (ht : B.rt = some .int) (hk : k ≤ B.R.cells) (hn : n ≤ B.R.slots) (hQ : Q (some (.int z)) h) : Go Q Z B k n h pc Ls [.int z] := fun x T P => by
  obtain ⟨E, O', locs, X, e, N⟩ := id P
  obtain ⟨fs, hr, hrun, hended, hW, hsame⟩ := X.leave (v := some (.int z)) (fun q => by rw [E.rt, ht] at q; cases q) E.nl
  exact ret_core E O' e N hk hn hQ (X.ireturnOut P.ex (E.rt.trans ht) rfl (Or.inl rfl) (P.d hd) hr) hrun hended hW hsame
theorem Go.retN {z z' : Int32} {t : FieldType} (hd : decode B.by pc = .ok (.ireturn, 1)) (ht : B.rt = some t) (hz : t = .boolean ∨ t = .byte ∨ t = .char ∨ t = .short) (hq : nar t z = z') (hk : k ≤ B.R.cells) (hn : n ≤ B.R.slots) (hQ : Q (some (.int z')) h) : Go Q Z B k n h pc Ls (.int z :: st) := fun x T P => by
  subst hq
  obtain ⟨E, O', locs, X, e, N⟩ := id P
  obtain ⟨fs, hr, hrun, hended, hW, hsame⟩ := X.leave (v := some (.int (nar t z))) (fun q => by rw [E.rt, ht] at q; cases q) E.nl
  exact ret_core E O' e N hk hn hQ (RoadKit.retN X P.ex (E.rt.trans ht) hz (P.d hd) hr) hrun hended hW hsame
theorem Go.retJ {z : Int64} (hd : decode B.by pc = .ok (.lreturn, 1)) (ht : B.rt = some .long) (hk : k ≤ B.R.cells) (hn : n ≤ B.R.slots) (hQ : Q (some (.long z)) h) : Go Q Z B k n h pc Ls [.long z] := fun x T P => by
  obtain ⟨E, O', locs, X, e, N⟩ := id P
  obtain ⟨fs, hr, hrun, hended, hW, hsame⟩ := X.leave (v := some (.long z)) (fun q => by rw [E.rt, ht] at q; cases q) E.nl
  exact ret_core E O' e N hk hn hQ (X.lreturnOut P.ex (E.rt.trans ht) (P.d hd) hr) hrun hended hW hsame
theorem Go.retD {z : UInt64} (hd : decode B.by pc = .ok (.dreturn, 1)) (ht : B.rt = some .double) (hk : k ≤ B.R.cells) (hn : n ≤ B.R.slots) (hQ : Q (some (.double z)) h) : Go Q Z B k n h pc Ls (.double z :: st) := fun x T P => by
  obtain ⟨E, O', locs, X, e, N⟩ := id P
  obtain ⟨fs, hr, hrun, hended, hW, hsame⟩ := X.leave (v := some (.double z)) (fun q => by rw [E.rt, ht] at q; cases q) E.nl
  exact ret_core E O' e N hk hn hQ (retOut X P.ex (i := .dreturn) (E.rt.trans ht) rfl (Or.inr (Or.inr (Or.inl ⟨rfl, rfl, _, rfl⟩))) (P.d hd) hr) hrun hended hW hsame
theorem Go.retA {z : Value} {t : FieldType} (hd : decode B.by pc = .ok (.areturn, 1)) (ht : B.rt = some t) (hr' : t.isReference = true) (hz : z.isRef = true) (hk : k ≤ B.R.cells) (hn : n ≤ B.R.slots) (hQ : Q (some z) h) : Go Q Z B k n h pc Ls [z] := fun x T P => by
  obtain ⟨E, O', locs, X, e, N⟩ := id P
  obtain ⟨fs, hr, hrun, hended, hW, hsame⟩ := X.leave (v := some z) (fun q => by rw [E.rt, ht] at q; cases q) E.nl
  exact ret_core E O' e N hk hn hQ (X.areturnOut P.ex hz (E.rt.trans ht) hr' (P.d hd) hr) hrun hended hW hsame
/-! ## calls -/
theorem Con.back {C : Bd} {as : Array Value} {Qc : Option Value → Heap → Prop} {len W : Nat} (K : Con Z C as h Qc) (P : Sp Z x B T k n h) (i j : Nat) (wc : B.tb[i]? = some (.code C.y C.by C.ml C.rt)) (wz : B.tb[j]? = some (.initialized C.y.cls)) (hf : C.R.frames + 1 ≤ B.R.frames) (hl : W + (C.ml + 11) + C.R.locals ≤ B.R.locals) :
    Back x.l B.R x.p x.e x.below x.s x.args C.y len W (fun A a => a = as ∧ A.U.heap = h ∧ A.cells + C.R.cells ≤ B.R.cells ∧ A.slots + C.R.slots ≤ B.R.slots)
      (fun A _ v D => ∃ L, (Qc v D.U.heap ∧ Ext Z.heap D.U.heap ∧ Fr Z.heap.size L) ∧ D.locs = A.locs ++ L ∧ D.cells = A.cells + C.R.cells ∧ D.slots = A.slots + C.R.slots) := by
  obtain ⟨a0, hw⟩ := P.wd.w
  exact backOf (a0 := a0) (Q := fun v h' L => Qc v h' ∧ Ext Z.heap h' ∧ Fr Z.heap.size L) (K P.old x.l []) P.1.zz (hw wc) (hw wz) hf hl
theorem Go.callS (pc' : Nat) (hp : pc + 3 = pc') {C : Bd} {Qc : Option Value → Heap → Prop} {ix : Nat} (argsL : List Value) {st : List Value} (i1 i2 i3 i4 : Nat) (K : Con Z C argsL.toArray h Qc) (hd : decode B.by pc = .ok (.invokestatic ix, 3)) (w1 : B.tb[i1]? = some (.methodLink B.y.cls ix C.y)) (w2 : B.tb[i2]? = some (.static C.y)) (w3 : B.tb[i3]? = some (.initialized C.y.cls)) (w4 : B.tb[i4]? = some (.code C.y C.by C.ml C.rt))
    (hy : C.y.cls ≠ "java/lang/invoke/MethodHandle" ∧ C.y.cls ≠ "java/lang/invoke/VarHandle") {ps : List FieldType} {rt : Option FieldType} (hpd : parseMethodDescriptor C.y.desc = some ⟨ps, rt⟩) (hlen : argsL.length = ps.length) (hs : Ls.size = B.ml) (hst : st = argsL.reverse ++ rest) {W : Nat} (hW : (rest.map fun v => v.category).sum ≤ W) (hf : C.R.frames + 1 ≤ B.R.frames) (hl : W + (C.ml + 11) + C.R.locals ≤ B.R.locals) (hc : k + C.R.cells ≤ B.R.cells) (hn : n + C.R.slots ≤ B.R.slots)
    (r : ∀ (v : Option Value) (h' : Heap), Qc v h' → Go Q Z B (k + C.R.cells) (n + C.R.slots) h' pc' Ls (v.toList ++ rest)) : Go Q Z B k n h pc Ls st := fun x T P => by
  subst hp hst
  obtain ⟨a0, hw⟩ := P.wd.w
  obtain ⟨E, O', locs, X, e, N⟩ := id P
  obtain ⟨v, vm₁, ⟨T1, L1, k1, n1⟩, -, X1, ⟨Lc, hQ, l1, y1, z1⟩, st1⟩ := Jvm.LawKit.callS X P.ex (y := C.y) E.own (mvT E.zz (hw w1)) (mvT E.zz (hw w2)) (mvT E.zz (hw w3)) (mvT E.zz (hw w4)) hy (K.back (W := W) P i4 i3 w4 w3 hf hl) (g := mkF x.m pc Ls (argsL.reverse ++ rest)) rfl (by rw [E.ml]; exact hs) (argsL := argsL) (rest := rest) (lenOf hpd hlen) rfl (by show 2 * 0 + _ ≤ _; omega) (P.d hd) (fun _ _ => ⟨rfl, e, hc, hn⟩)
  dsimp only [Pt.U, Pt.locs, Pt.cells, Pt.slots] at X1 l1 y1 z1 st1 hQ
  subst l1 y1 z1
  exact lift st1 (r v T1.heap hQ.1 x T1 ⟨E, hQ.2.1, _, X1, rfl, N.app hQ.2.2⟩)
theorem Go.callI (pc' : Nat) (hp : pc + 3 = pc') {C : Bd} {Qc : Option Value → Heap → Prop} {ix : Nat} (a : Addr) (argsL : List Value) {st : List Value} (i1 i2 i3 i4 : Nat) (K : Con Z C (.ref a :: argsL).toArray h Qc) (hd : decode B.by pc = .ok (.invokespecial ix, 3)) (w1 : B.tb[i1]? = some (.methodLink B.y.cls ix C.y)) (w2 : B.tb[i2]? = some (.instanceMethod C.y)) (w3 : B.tb[i3]? = some (.initialized C.y.cls)) (w4 : B.tb[i4]? = some (.code C.y C.by C.ml none)) (hrt : C.rt = none) (hi : C.y.name = "<init>")
    (hy : C.y.cls ≠ "java/lang/invoke/MethodHandle" ∧ C.y.cls ≠ "java/lang/invoke/VarHandle") {ps : List FieldType} {rt : Option FieldType} (hpd : parseMethodDescriptor C.y.desc = some ⟨ps, rt⟩) (hlen : argsL.length = ps.length) (hs : Ls.size = B.ml) (hst : st = argsL.reverse ++ .ref a :: rest) {W : Nat} (hW : (rest.map fun v => v.category).sum ≤ W) (hf : C.R.frames + 1 ≤ B.R.frames) (hl : W + (C.ml + 11) + C.R.locals ≤ B.R.locals) (hc : k + C.R.cells ≤ B.R.cells) (hn : n + C.R.slots ≤ B.R.slots)
    (r : ∀ (v : Option Value) (h' : Heap), Qc v h' → Go Q Z B (k + C.R.cells) (n + C.R.slots) h' pc' Ls (v.toList ++ rest)) : Go Q Z B k n h pc Ls st := fun x T P => by
  subst hp hst
  obtain ⟨a0, hw⟩ := P.wd.w
  obtain ⟨E, O', locs, X, e, N⟩ := id P
  obtain ⟨v, vm₁, ⟨T1, L1, k1, n1⟩, -, X1, ⟨Lc, hQ, l1, y1, z1⟩, st1⟩ := X.specialBack P.ex (y := C.y) hi E.own (mvT E.zz (hw w1)) (mvT E.zz (hw w2)) (mvT E.zz (hw w4)) hy (K.back (W := W) P i4 i3 (by rw [hrt]; exact w4) w3 hf hl) (g := mkF x.m pc Ls (argsL.reverse ++ .ref a :: rest)) rfl (by rw [E.ml]; exact hs) (Steps.refl _) (a := a) (argsL := argsL) (rest := rest) (lenOf hpd hlen) rfl (by show 2 * 0 + _ ≤ _; omega) (P.d hd) (fun _ _ => ⟨rfl, e, hc, hn⟩)
  dsimp only [Pt.U, Pt.locs, Pt.cells, Pt.slots] at X1 l1 y1 z1 st1 hQ
  subst l1 y1 z1
  exact liftS st1 (r v T1.heap hQ.1 x T1 ⟨E, hQ.2.1, _, X1, rfl, N.app hQ.2.2⟩)
theorem Go.callV (pc' : Nat) (hp : pc + 3 = pc') {C : Bd} {Qc : Option Value → Heap → Prop} {ix : Nat} {D : String} (a : Addr) (argsL : List Value) {st : List Value} (i1 i2 i3 i4 i5 i6 : Nat) (K : Con Z C (.ref a :: argsL).toArray h Qc) (Ea : Exa Z h a D) (hd : decode B.by pc = .ok (.invokevirtual ix, 3)) (w1 : B.tb[i1]? = some (.methodLink B.y.cls ix C.y)) (w2 : B.tb[i2]? = some (.declares C.y)) (w3 : B.tb[i3]? = some (.selects D C.y C.y)) (w4 : B.tb[i4]? = some (.instanceMethod C.y)) (w5 : B.tb[i5]? = some (.initialized C.y.cls)) (w6 : B.tb[i6]? = some (.code C.y C.by C.ml C.rt))
    (hy : C.y.cls ≠ "java/lang/invoke/MethodHandle" ∧ C.y.cls ≠ "java/lang/invoke/VarHandle") {ps : List FieldType} {rt : Option FieldType} (hpd : parseMethodDescriptor C.y.desc = some ⟨ps, rt⟩) (hlen : argsL.length = ps.length) (hs : Ls.size = B.ml) (hst : st = argsL.reverse ++ .ref a :: rest) {W : Nat} (hW : (rest.map fun v => v.category).sum ≤ W) (hf : C.R.frames + 1 ≤ B.R.frames) (hl : W + (C.ml + 11) + C.R.locals ≤ B.R.locals) (hc : k + C.R.cells ≤ B.R.cells) (hn : n + C.R.slots ≤ B.R.slots)
    (r : ∀ (v : Option Value) (h' : Heap), Qc v h' → Go Q Z B (k + C.R.cells) (n + C.R.slots) h' pc' Ls (v.toList ++ rest)) : Go Q Z B k n h pc Ls st := fun x T P => by
  subst hp hst
  obtain ⟨a0, hw⟩ := P.wd.w
  obtain ⟨E, O', locs, X, e, N⟩ := id P
  obtain ⟨cq, kq, qa, qb, qc⟩ := isOf E.zz e Ea
  obtain ⟨v, vm₁, ⟨T1, L1, k1, n1⟩, -, X1, ⟨Lc, hQ, l1, y1, z1⟩, st1⟩ := X.virtualBack P.ex (y := C.y) (z := C.y) E.own (mvT E.zz (hw w1)) (mvT E.zz (hw w2)) (notFace_of_selects (args := #[]) (mvT E.zz (hw w3))) (mvT E.zz (hw w3)) (mvT E.zz (hw w4)) hy (K.back (W := W) P i6 i5 w6 w5 hf hl) qa qc (g := mkF x.m pc Ls (argsL.reverse ++ .ref a :: rest)) rfl (by rw [E.ml]; exact hs) (Steps.refl _) (argsL := argsL) (rest := rest) (lenOf hpd hlen) rfl (by show 2 * 0 + _ ≤ _; omega) (P.d hd) (fun _ _ => ⟨rfl, e, hc, hn⟩)
  dsimp only [Pt.U, Pt.locs, Pt.cells, Pt.slots] at X1 l1 y1 z1 st1 hQ
  subst l1 y1 z1
  exact liftS st1 (r v T1.heap hQ.1 x T1 ⟨E, hQ.2.1, _, X1, rfl, N.app hQ.2.2⟩)
theorem Go.callP (pc' : Nat) (hp : pc + 3 = pc') {C : Bd} {Qc : Option Value → Heap → Prop} {ix : Nat} {D : String} (a : Addr) (argsL : List Value) {st : List Value} (i1 i2 i3 i4 i5 i6 : Nat) (K : Con Z C (.ref a :: argsL).toArray h Qc) (Ea : Exa Z h a D) (hd : decode B.by pc = .ok (.invokevirtual ix, 3)) (w1 : B.tb[i1]? = some (.methodLink B.y.cls ix C.y)) (w2 : B.tb[i2]? = some (.instanceMethod C.y)) (w3 : B.tb[i3]? = some (.selects C.y.cls C.y C.y)) (w4 : B.tb[i4]? = some (.privateMethod C.y)) (w5 : B.tb[i5]? = some (.initialized C.y.cls)) (w6 : B.tb[i6]? = some (.code C.y C.by C.ml C.rt))
    (hy : C.y.cls ≠ "java/lang/invoke/MethodHandle" ∧ C.y.cls ≠ "java/lang/invoke/VarHandle") {ps : List FieldType} {rt : Option FieldType} (hpd : parseMethodDescriptor C.y.desc = some ⟨ps, rt⟩) (hlen : argsL.length = ps.length) (hs : Ls.size = B.ml) (hst : st = argsL.reverse ++ .ref a :: rest) {W : Nat} (hW : (rest.map fun v => v.category).sum ≤ W) (hf : C.R.frames + 1 ≤ B.R.frames) (hl : W + (C.ml + 11) + C.R.locals ≤ B.R.locals) (hc : k + C.R.cells ≤ B.R.cells) (hn : n + C.R.slots ≤ B.R.slots)
    (r : ∀ (v : Option Value) (h' : Heap), Qc v h' → Go Q Z B (k + C.R.cells) (n + C.R.slots) h' pc' Ls (v.toList ++ rest)) : Go Q Z B k n h pc Ls st := fun x T P => by
  subst hp hst
  obtain ⟨a0, hw⟩ := P.wd.w
  obtain ⟨E, O', locs, X, e, N⟩ := id P
  obtain ⟨cq, qa, qb⟩ := Ea.cell
  obtain ⟨v, vm₁, ⟨T1, L1, k1, n1⟩, -, X1, ⟨Lc, hQ, l1, y1, z1⟩, st1⟩ := X.privateBack P.ex (y := C.y) E.own (mvT E.zz (hw w1)) (mvT E.zz (hw w2)) (mvT E.zz (hw w3)) (Cond.privateMethod_at (mvP E.zz (hw w4) (args := #[]))) (mvT E.zz (hw w6)) hy (K.back (W := W) P i6 i5 w6 w5 hf hl) (g := mkF x.m pc Ls (argsL.reverse ++ .ref a :: rest)) rfl (by rw [E.ml]; exact hs) (Steps.refl _) (a := a) (by rw [e]; exact qa) qb (argsL := argsL) (rest := rest) (lenOf hpd hlen) rfl (by show 2 * 0 + _ ≤ _; omega) (P.d hd) (fun _ _ => ⟨rfl, e, hc, hn⟩)
  dsimp only [Pt.U, Pt.locs, Pt.cells, Pt.slots] at X1 l1 y1 z1 st1 hQ
  subst l1 y1 z1
  exact liftS st1 (r v T1.heap hQ.1 x T1 ⟨E, hQ.2.1, _, X1, rfl, N.app hQ.2.2⟩)
theorem Go.callF (pc' : Nat) (hp : pc + 5 = pc') {C : Bd} {Qc : Option Value → Heap → Prop} {ix ct : Nat} {y : MethodName} {D : String} (a : Addr) (argsL : List Value) {st : List Value} (i1 i2 i3 i4 i5 i6 i7 i8 i9 i10 : Nat) (K : Con Z C (.ref a :: argsL).toArray h Qc) (Ea : Exa Z h a D) (hd : decode B.by pc = .ok (.invokeinterface ix ct, 5)) (w1 : B.tb[i1]? = some (.methodLink B.y.cls ix y)) (w2 : B.tb[i2]? = some (.declares y)) (w3 : B.tb[i3]? = some (.interfaceMethod y.cls y.cls y.name y.desc)) (w4 : B.tb[i4]? = some (.selects D y C.y)) (w5 : B.tb[i5]? = some (.instanceMethod C.y)) (w6 : B.tb[i6]? = some (.publicMethod C.y)) (w7 : B.tb[i7]? = some (.unhidden D y.name y.desc)) (w8 : B.tb[i8]? = some (.castable D y.cls)) (w9 : B.tb[i9]? = some (.initialized C.y.cls)) (w10 : B.tb[i10]? = some (.code C.y C.by C.ml C.rt)) (hk : ((Cond.interfaceMethod y.cls y.cls y.name y.desc).onTables && (Cond.interfaceMethod y.cls y.cls y.name y.desc).keepsFace) = true)
    (hy : y.cls ≠ "java/lang/invoke/MethodHandle" ∧ y.cls ≠ "java/lang/invoke/VarHandle") {ps : List FieldType} {rt : Option FieldType} (hpd : parseMethodDescriptor y.desc = some ⟨ps, rt⟩) (hlen : argsL.length = ps.length) (hs : Ls.size = B.ml) (hst : st = argsL.reverse ++ .ref a :: rest) {W : Nat} (hW : (rest.map fun v => v.category).sum ≤ W) (hf : C.R.frames + 1 ≤ B.R.frames) (hl : W + (C.ml + 11) + C.R.locals ≤ B.R.locals) (hc : k + C.R.cells ≤ B.R.cells) (hn : n + C.R.slots ≤ B.R.slots)
    (r : ∀ (v : Option Value) (h' : Heap), Qc v h' → Go Q Z B (k + C.R.cells) (n + C.R.slots) h' pc' Ls (v.toList ++ rest)) : Go Q Z B k n h pc Ls st := fun x T P => by
  subst hp hst
  obtain ⟨a0, hw⟩ := P.wd.w
  obtain ⟨E, O', locs, X, e, N⟩ := id P
  obtain ⟨cq, kq, qa, qb, qc⟩ := isOf E.zz e Ea
  obtain ⟨v, vm₁, ⟨T1, L1, k1, n1⟩, -, X1, ⟨Lc, hQ, l1, y1, z1⟩, st1⟩ := X.interfaceBack P.ex (xi := y) (y := C.y) E.own (mvT E.zz (hw w1)) (mvT E.zz (hw w2)) (mvT E.zz (hw w3) hk) (mvT E.zz (hw w4)) (mvT E.zz (hw w5)) (mvT E.zz (hw w6)) (mvT E.zz (hw w7)) (mvT E.zz (hw w8)) hy (K.back (W := W) P i10 i9 w10 w9 hf hl) qa qb qc (g := mkF x.m pc Ls (argsL.reverse ++ .ref a :: rest)) rfl (by rw [E.ml]; exact hs) (Steps.refl _) (argsL := argsL) (rest := rest) (lenOf hpd hlen) rfl (by show 2 * 0 + _ ≤ _; omega) (P.d hd) (fun _ _ => ⟨rfl, e, hc, hn⟩)
  dsimp only [Pt.U, Pt.locs, Pt.cells, Pt.slots] at X1 l1 y1 z1 st1 hQ
  subst l1 y1 z1
  exact liftS st1 (r v T1.heap hQ.1 x T1 ⟨E, hQ.2.1, _, X1, rfl, N.app hQ.2.2⟩)
theorem Go.callVU (pc' : Nat) (hp : pc + 3 = pc') {C : Bd} {Qc : Option Value → Heap → Prop} {ix : Nat} {y : MethodName} {D ow : String} (a : Addr) (argsL : List Value) {st : List Value} (i1 i2 i3 i4 i5 i6 i7 : Nat) (K : Con Z C (.ref a :: argsL).toArray h Qc) (Ea : Exa Z h a D) (hd : decode B.by pc = .ok (.invokevirtual ix, 3)) (w1 : B.tb[i1]? = some (.methodLink B.y.cls ix y)) (w2 : B.tb[i2]? = some (.sameMethod y.cls ow y.name y.desc)) (w3 : B.tb[i3]? = some (.declares ⟨ow, y.name, y.desc⟩)) (w4 : B.tb[i4]? = some (.selects D y C.y)) (w5 : B.tb[i5]? = some (.instanceMethod C.y)) (w6 : B.tb[i6]? = some (.initialized C.y.cls)) (w7 : B.tb[i7]? = some (.code C.y C.by C.ml C.rt))
    (hy : ow ≠ "java/lang/invoke/MethodHandle" ∧ ow ≠ "java/lang/invoke/VarHandle") {ps : List FieldType} {rt : Option FieldType} (hpd : parseMethodDescriptor y.desc = some ⟨ps, rt⟩) (hlen : argsL.length = ps.length) (hs : Ls.size = B.ml) (hst : st = argsL.reverse ++ .ref a :: rest) {W : Nat} (hW : (rest.map fun v => v.category).sum ≤ W) (hf : C.R.frames + 1 ≤ B.R.frames) (hl : W + (C.ml + 11) + C.R.locals ≤ B.R.locals) (hc : k + C.R.cells ≤ B.R.cells) (hn : n + C.R.slots ≤ B.R.slots)
    (r : ∀ (v : Option Value) (h' : Heap), Qc v h' → Go Q Z B (k + C.R.cells) (n + C.R.slots) h' pc' Ls (v.toList ++ rest)) : Go Q Z B k n h pc Ls st := fun x T P => by
  subst hp hst
  obtain ⟨a0, hw⟩ := P.wd.w
  obtain ⟨E, O', locs, X, e, N⟩ := id P
  obtain ⟨cq, kq, qa, qb, qc⟩ := isOf E.zz e Ea
  obtain ⟨v, vm₁, ⟨T1, L1, k1, n1⟩, -, X1, ⟨Lc, hQ, l1, y1, z1⟩, st1⟩ := X.virtualBackUp P.ex (x := y) (y := C.y) E.own (mvT E.zz (hw w1)) (mvT E.zz (hw w2)) (mvT E.zz (hw w3)) hy (mvT E.zz (hw w4)) (mvT E.zz (hw w5)) (K.back (W := W) P i7 i6 w7 w6 hf hl) qa qc (g := mkF x.m pc Ls (argsL.reverse ++ .ref a :: rest)) rfl (by rw [E.ml]; exact hs) (Steps.refl _) (argsL := argsL) (rest := rest) (lenOf hpd hlen) rfl (by show 2 * 0 + _ ≤ _; omega) (P.d hd) (fun _ _ => ⟨rfl, e, hc, hn⟩)
  dsimp only [Pt.U, Pt.locs, Pt.cells, Pt.slots] at X1 l1 y1 z1 st1 hQ
  subst l1 y1 z1
  exact liftS st1 (r v T1.heap hQ.1 x T1 ⟨E, hQ.2.1, _, X1, rfl, N.app hQ.2.2⟩)
/-- the contract of a body with handlers (none of which is reached) -/
def ConW (hs : List (Nat × Nat × Nat × Nat)) (Z : State) (B : Bd) (as : Array Value) (h0 : Heap) (Q : Option Value → Heap → Prop) : Prop :=
  Ext Z.heap h0 → ∀ (l : Launch) (ws : List Cond), MetFree l B.y (head1 (Cond.codeWith B.y B.by B.ml B.rt hs :: ws) B.R) (fun a U => a = as ∧ Z.Warmed39 U.vm ∧ U.heap = h0) (fun _ _ _ _ _ => True)
    (fun _ U o U' => ∃ v L, o = .returned v ∧ (Q v U'.heap ∧ Ext Z.heap U'.heap ∧ Fr Z.heap.size L) ∧ FrameEnd U o U' L B.R.cells B.R.slots)
theorem ConW.mk {hs : List (Nat × Nat × Nat × Nat)} {as : Array Value} {h0 : Heap} (hw : Wd Z B.tb) (hpn : plainName B.y.cls = true) (hef : ∀ m, entryFrame m as B.ml = mkF m 0 Ls [])
    (body : Go Q Z B 0 0 h0 0 Ls []) : ConW hs Z B as h0 Q := by
  intro hE l ws
  refine MetFree.of_bodySF (plainFor_of_name hpn) hisWith ?_
  intro p e s m args below meth c s₁ Bd hml0 hP hK
  obtain ⟨rfl, hZ, hh⟩ := hP
  have X0 : Stand p l e B.R s m args below meth c s₁ [] 0 0 := Stand.of_body Bd
  have e0 : s₁.heap = h0 := by rw [← hh, Bd.state]; rfl
  obtain ⟨t, o, h1, h2, h3, h4⟩ := body (p, l, e, s, m, args, below, meth, c) s₁ ⟨⟨Bd.exec, Bd.bytes, hml0, findClass_of_methodNamed Bd.named, (name_of_methodNamed Bd.named Bd.method).1, Bd.returns, hZ, Bd.notSynchronized, hw⟩, hE, [], X0, e0, Fr.nil _⟩
  exact ⟨t, o, castTop (hef m) h1, h2, h3, h4⟩
theorem ConW.back {hs : List (Nat × Nat × Nat × Nat)} {C : Bd} {as : Array Value} {Qc : Option Value → Heap → Prop} {len W : Nat} (K : ConW hs Z C as h Qc) (P : Sp Z x B T k n h) (i j : Nat) (wc : B.tb[i]? = some (.codeWith C.y C.by C.ml C.rt hs)) (wz : B.tb[j]? = some (.initialized C.y.cls)) (hf : C.R.frames + 1 ≤ B.R.frames) (hl : W + (C.ml + 11) + C.R.locals ≤ B.R.locals) :
    Back x.l B.R x.p x.e x.below x.s x.args C.y len W (fun A a => a = as ∧ A.U.heap = h ∧ A.cells + C.R.cells ≤ B.R.cells ∧ A.slots + C.R.slots ≤ B.R.slots)
      (fun A _ v D => ∃ L, (Qc v D.U.heap ∧ Ext Z.heap D.U.heap ∧ Fr Z.heap.size L) ∧ D.locs = A.locs ++ L ∧ D.cells = A.cells + C.R.cells ∧ D.slots = A.slots + C.R.slots) := by
  obtain ⟨a0, hw⟩ := P.wd.w
  exact backOfWith (a0 := a0) (Q := fun v h' L => Qc v h' ∧ Ext Z.heap h' ∧ Fr Z.heap.size L) (K P.old x.l []) P.1.zz (hw wc) (hw wz) hf hl
theorem Go.callFW (pc' : Nat) (hp : pc + 5 = pc') {hs' : List (Nat × Nat × Nat × Nat)} {C : Bd} {Qc : Option Value → Heap → Prop} {ix ct : Nat} {y : MethodName} {D : String} (a : Addr) (argsL : List Value) {st : List Value} (i1 i2 i3 i4 i5 i6 i7 i8 i9 i10 : Nat) (K : ConW hs' Z C (.ref a :: argsL).toArray h Qc) (Ea : Exa Z h a D) (hd : decode B.by pc = .ok (.invokeinterface ix ct, 5)) (w1 : B.tb[i1]? = some (.methodLink B.y.cls ix y)) (w2 : B.tb[i2]? = some (.declares y)) (w3 : B.tb[i3]? = some (.interfaceMethod y.cls y.cls y.name y.desc)) (w4 : B.tb[i4]? = some (.selects D y C.y)) (w5 : B.tb[i5]? = some (.instanceMethod C.y)) (w6 : B.tb[i6]? = some (.publicMethod C.y)) (w7 : B.tb[i7]? = some (.unhidden D y.name y.desc)) (w8 : B.tb[i8]? = some (.castable D y.cls)) (w9 : B.tb[i9]? = some (.initialized C.y.cls)) (w10 : B.tb[i10]? = some (.codeWith C.y C.by C.ml C.rt hs')) (hk : ((Cond.interfaceMethod y.cls y.cls y.name y.desc).onTables && (Cond.interfaceMethod y.cls y.cls y.name y.desc).keepsFace) = true)
    (hy : y.cls ≠ "java/lang/invoke/MethodHandle" ∧ y.cls ≠ "java/lang/invoke/VarHandle") {ps : List FieldType} {rt : Option FieldType} (hpd : parseMethodDescriptor y.desc = some ⟨ps, rt⟩) (hlen : argsL.length = ps.length) (hs : Ls.size = B.ml) (hst : st = argsL.reverse ++ .ref a :: rest) {W : Nat} (hW : (rest.map fun v => v.category).sum ≤ W) (hf : C.R.frames + 1 ≤ B.R.frames) (hl : W + (C.ml + 11) + C.R.locals ≤ B.R.locals) (hc : k + C.R.cells ≤ B.R.cells) (hn : n + C.R.slots ≤ B.R.slots)
    (r : ∀ (v : Option Value) (h' : Heap), Qc v h' → Go Q Z B (k + C.R.cells) (n + C.R.slots) h' pc' Ls (v.toList ++ rest)) : Go Q Z B k n h pc Ls st := fun x T P => by
  subst hp hst
  obtain ⟨a0, hw⟩ := P.wd.w
  obtain ⟨E, O', locs, X, e, N⟩ := id P
  obtain ⟨cq, kq, qa, qb, qc⟩ := isOf E.zz e Ea
  obtain ⟨v, vm₁, ⟨T1, L1, k1, n1⟩, -, X1, ⟨Lc, hQ, l1, y1, z1⟩, st1⟩ := X.interfaceBack P.ex (xi := y) (y := C.y) E.own (mvT E.zz (hw w1)) (mvT E.zz (hw w2)) (mvT E.zz (hw w3) hk) (mvT E.zz (hw w4)) (mvT E.zz (hw w5)) (mvT E.zz (hw w6)) (mvT E.zz (hw w7)) (mvT E.zz (hw w8)) hy (K.back (W := W) P i10 i9 w10 w9 hf hl) qa qb qc (g := mkF x.m pc Ls (argsL.reverse ++ .ref a :: rest)) rfl (by rw [E.ml]; exact hs) (Steps.refl _) (argsL := argsL) (rest := rest) (lenOf hpd hlen) rfl (by show 2 * 0 + _ ≤ _; omega) (P.d hd) (fun _ _ => ⟨rfl, e, hc, hn⟩)
  dsimp only [Pt.U, Pt.locs, Pt.cells, Pt.slots] at X1 l1 y1 z1 st1 hQ
  subst l1 y1 z1
  exact liftS st1 (r v T1.heap hQ.1 x T1 ⟨E, hQ.2.1, _, X1, rfl, N.app hQ.2.2⟩)
end St
end Jvm.Ow
namespace Jvm.Ow
open Sem ClassFile Op Lib Jvm.Stand Jvm.Free Jvm.LawKit Jvm.RoadKit
section More
variable {Q : Option Value → Heap → Prop} {Z : State} {x : Cx} {B : Bd} {T : State} {k n : Nat} {h h' : Heap} {pc : Nat} {Ls Ls' : Array Slot} {st rest : List Value}
theorem Go.instNull (pc' : Nat) (hp : pc + 3 = pc') {ix : Nat} (hd : decode B.by pc = .ok (.instanceof ix, 3)) (r : Go Q Z B k n h pc' Ls (.int 0 :: st)) : Go Q Z B k n h pc Ls (.null :: st) := fun x T P => by
  subst hp
  obtain ⟨E, O', locs, X, e, N⟩ := id P
  exact lift (fun t q => X.instanceofNull P.ex (g := mkF x.m pc Ls (.null :: st)) rfl rfl (P.d hd) t q) (r x T P)
theorem ary_arv {a : Addr} {c0 : ClassId} {ty : FieldType} {z : Int32} {vs : List Value} {d : Value} (F : Arv Z h a c0 ty z vs d) (hl : z.toNatClampNeg = vs.length) : Ary Z h a ty vs := by
  obtain ⟨c, A, -, S, hz, H, G⟩ := F
  have e : c.slots.toList = vs := by
    apply List.ext_getElem?
    intro i
    rw [Array.getElem?_toList]
    by_cases hi : i < vs.length
    · rw [H i (by omega)]
      simp [List.getD, hi]
    · rw [List.getElem?_eq_none (by omega), Array.getElem?_eq_none (by omega)]
  refine ⟨c, A, e, ?_, fun v hv => ?_⟩
  · rw [← hl]; have := nat_of (j := z) hz; have := z.toInt_lt; omega
  · obtain ⟨i, hi, rfl⟩ := List.mem_iff_getElem.mp hv
    have := G i (by omega)
    simpa [List.getD, hi] using this
theorem Go.grid (pc' : Nat) (hp : pc + 4 = pc') {ad C : String} {ty : FieldType} {ix : Nat} {m1 m2 : Int32} (i1 i2 i3 N M cap : Nat) (hd : decode B.by pc = .ok (.multianewarray ix 2, 4)) (hC : (FieldType.array ty).toString = C) (had : "[" ++ C = ad) (w1 : B.tb[i1]? = some (.classLink B.y.cls ix ad)) (w2 : B.tb[i2]? = some (.arrayOver (.array ty))) (w3 : B.tb[i3]? = some (.arrayClass ty))
    (hN : m1.toInt = N) (hM : m2.toInt = M) (hcap : M ≤ cap) (hb : cap * 8 ≤ 536870912) (hb1 : N ≤ 1000) (hdf : fits ty (defaultValue ty) = true) (hdd : (defaultValue ty).isDefault = true) (hc : k + (1 + N) ≤ B.R.cells) (hl : n + (N + N * cap) ≤ B.R.slots)
    (r : ∀ (h' : Heap) (a : Addr), @Eq Nat a h.size → Z.heap.size ≤ a → Keep h h' [] → Ary Z h' a (.array ty) ((List.range N).map fun j => .ref (a + 1 + j)) → (∀ j, j < N → Ary Z h' (a + 1 + j) ty (List.replicate M (defaultValue ty))) → Go Q Z B (k + (1 + N)) (n + (N + N * cap)) h' pc' Ls (.ref a :: st)) : Go Q Z B k n h pc Ls (.int m2 :: .int m1 :: st) := fun x T P => by
  subst hp
  obtain ⟨a0, hw⟩ := P.wd.w
  obtain ⟨E, O', locs, X, e, N'⟩ := id P
  have z0 : (0 : Int32).toInt = 0 := rfl
  have hm1 : ¬ m1 < 0 := by rw [Int32.lt_iff_toInt_lt]; omega
  have hm2 : ¬ m2 < 0 := by rw [Int32.lt_iff_toInt_lt]; omega
  obtain ⟨T', h', cA, comp, X', e', Ex, A, -, -, R1, s'⟩ := gridM X P.ex E.zz E.own hC had (hw w1) (hw w2) (hw w3) e (g := mkF x.m pc Ls (.int m2 :: .int m1 :: st)) rfl (P.d hd) rfl hm1 hm2 (N := N) (ix_nat hN) rfl (cap := cap) (by rw [ix_nat hM]; exact hcap) hb hb1 hdf hdd hc hl
  have hlen : M < 2 ^ 31 := by have := m2.toInt_lt; omega
  refine lift s' (r h' h.size rfl P.le (keep_ext Ex) ?_ (fun j hj => ?_) x T' ⟨E, ⟨Nat.le_trans O'.1 Ex.1, fun y c q => Ex.2 y c (O'.2 y c q)⟩, locs, X', e', N'⟩)
  · have := ary_arv A (by rw [ix_nat hN]; simp)
    rw [List.map_map] at this
    exact this
  · obtain ⟨A1, -⟩ := R1 j (h.size + 1 + j) (by simp [hj])
    refine ⟨_, A1, ?_, by rw [List.length_replicate]; exact hlen, fun v hv => ?_⟩
    · show (Array.replicate _ _).toList = _
      rw [ix_nat hM, Array.toList_replicate]
    · rw [List.eq_of_mem_replicate hv]; exact hdf
/-- a class right under the root is not assignable to another plain class -/
theorem not_asg {tb : List Cond} (hw : Wd Z tb) {C S K : String} {sz : Nat} (i1 i2 i3 : Nat) (w1 : tb[i1]? = some (.superclass C S)) (w2 : tb[i2]? = some (.noSuperclass S)) (w3 : tb[i3]? = some (.instantiable K sz)) (n1 : C ≠ K) (n2 : S ≠ K) : ∃ c t, Z.vm.findClass C = some c ∧ Z.vm.findClass K = some t ∧ Z.vm.assignable c t = false := by
  obtain ⟨a0, hw⟩ := hw.w
  obtain ⟨c, h0⟩ := found_sup (hw w1)
  obtain ⟨p, k, kp, h1, h2, h3, h4, h5, -, h7⟩ := Cond.superclass_spec h0 (hw w1)
  obtain ⟨c', k', g1, g2, g3, -, -⟩ := Cond.noSuperclass_spec (hw w2)
  cases g1.symm.trans h1
  cases g2.symm.trans h3
  obtain ⟨t, kt, i1, i2, i3, i4, -⟩ := Cond.instantiable_spec (hw w3)
  have ne1 := ids_ne h0 i1 n1
  have ne2 := ids_ne h1 i1 n2
  have hi : kt.isInterface = false := (Bool.or_eq_false_iff.mp i4).1
  refine ⟨c, t, h0, i1, ?_⟩
  show Z.vm.assignableAux (255 + 1) c t = false
  have sub : ∀ fuel, Z.vm.isSubclassAux fuel c t = false := by
    intro fuel
    cases fuel with
    | zero => rfl
    | succ f =>
      cases f with
      | zero => simp [Vm.isSubclassAux, ne1, h2, h4]
      | succ f => simp [Vm.isSubclassAux, ne1, ne2, h2, h4, h3, g3]
  simp [Vm.assignableAux, ne1, h2, i2, h5, i3, hi, Vm.isSubclass, sub]
end More
theorem own_fs {s : State} {args : Array Value} {t : Term} {C n d : String} {a : Addr} {v : Value} (ev : t.eval args s none [] s = some (.ref a)) (ef : (Term.field t C n d).eval args s none [] s = some v) : Fld s s.heap a C n d v := by
  rw [fld_at ev] at ef; exact Fld.start ef
theorem own_fe {s : State} {args : Array Value} {t t2 : Term} {C n d : String} {a b : Addr} (ev : t.eval args s none [] s = some (.ref a)) (eb : t2.eval args s none [] s = some (.ref b)) (hx : (Cond.eq (Term.field t C n d) t2).value args s none s [] = some true) : Fld s s.heap a C n d (.ref b) := by
  refine own_fs ev ?_
  cases hf : (Term.field t C n d).eval args s none [] s with
  | none => simp [Cond.value, hf] at hx
  | some v => cases v <;> simp [Cond.value, hf, eb] at hx ⊢; exact hx
theorem own_ar0 {s : State} {args : Array Value} {t : Term} {ty : FieldType} {a : Addr} (ev : t.eval args s none [] s = some (.ref a)) (hx : (Cond.arrayOf t ty).value args s none s [] = some true) (hl : (Cond.eq (Term.length t) (Term.int 0)).value args s none s [] = some true) : Ary s s.heap a ty [] := by
  obtain ⟨c, A⟩ := Arr.start ev hx
  have hA : s.arrayAt? a = some c := Arr.fin (Vm.Alike.refl _) A
  have e0 : c.slots.size = 0 := by
    by_cases h31 : c.slots.size < 2 ^ 31
    · have e := len_f ev hA h31
      have e2 : (c.slots.size.toInt32 : Int32) = 0 := by simpa [Cond.value, Term.eval, ev, hA, h31] using hl
      exact (ofNat_zero h31).mp e2
    · exfalso
      have e : (Term.length t).eval args s none [] s = none := by simp [Term.eval, ev, hA, h31]
      simp [Cond.value, e] at hl
  exact ⟨c, A, by simpa using e0, by decide, fun v hv => by cases hv⟩
theorem own_na {Z : State} {h : Heap} {tb : List Cond} (hw : Wd Z tb) {C : String} {sz : Nat} (i : Nat) (w : tb[i]? = some (.instantiable C sz)) {a b : Addr} {ty : FieldType} {vs : List Value} (F : Exa Z h a C) (G : Ary Z h b ty vs) : b ≠ a := by
  obtain ⟨a0, hw⟩ := hw.w
  obtain ⟨c, A, -⟩ := G
  exact (ne_arr F (hw w) A).symm
end Jvm.Ow
namespace Jvm.Pilot.@@N@@
open Jvm Jvm.ClassFile Sem Op Lib Jvm.Free Jvm.Stand Jvm.LawKit Jvm.RoadKit Bundle Jvm.Ow Jvm.Pilot.@@N@@.Jvm.D
def Ev0 (Z : State) (el ea em top bot lem non : Addr) : Prop :=
  Sta Z Z.heap "java/util/ImmutableCollections" "EMPTY_LIST" "Ljava/util/ImmutableCollections$ListN;" (.ref el) ∧ Sta Z Z.heap "java/util/ImmutableCollections" "EMPTY" "Ljava/lang/Object;" (.ref em) ∧ Sta Z Z.heap "com/example/subsumer/subsumer/core/Description" "TOP" "Lcom/example/subsumer/subsumer/core/Description;" (.ref top) ∧ Sta Z Z.heap "com/example/subsumer/subsumer/core/Description" "BOTTOM" "Lcom/example/subsumer/subsumer/core/Description;" (.ref bot) ∧ Sta Z Z.heap "com/example/subsumer/subsumer/core/Label" "EMPTY" "Lcom/example/subsumer/subsumer/core/Label;" (.ref lem) ∧ Sta Z Z.heap "com/example/subsumer/subsumer/core/Label" "NONE" "[Ljava/lang/String;" (.ref non) ∧
  Exa Z Z.heap el "java/util/ImmutableCollections$ListN" ∧ Fld Z Z.heap el "java/util/ImmutableCollections$ListN" "elements" "[Ljava/lang/Object;" (.ref ea) ∧ Ary Z Z.heap ea (.object "java/lang/Object") [] ∧
  Exa Z Z.heap top "com/example/subsumer/subsumer/core/Description" ∧ Fld Z Z.heap top "com/example/subsumer/subsumer/core/Description" "label" "Lcom/example/subsumer/subsumer/core/Label;" (.ref lem) ∧ Fld Z Z.heap top "com/example/subsumer/subsumer/core/Description" "existentials" "Ljava/util/List;" (.ref el) ∧ Fld Z Z.heap top "com/example/subsumer/subsumer/core/Description" "universals" "Ljava/util/List;" (.ref el) ∧ Fld Z Z.heap top "com/example/subsumer/subsumer/core/Description" "atLeast" "Ljava/util/List;" (.ref el) ∧ Fld Z Z.heap top "com/example/subsumer/subsumer/core/Description" "atMost" "Ljava/util/List;" (.ref el) ∧
  Exa Z Z.heap bot "com/example/subsumer/subsumer/core/Description" ∧ bot ≠ top ∧ Exa Z Z.heap lem "com/example/subsumer/subsumer/core/Label" ∧ Fld Z Z.heap lem "com/example/subsumer/subsumer/core/Label" "names" "[Ljava/lang/String;" (.ref non) ∧ Fld Z Z.heap lem "com/example/subsumer/subsumer/core/Label" "negated" "[Ljava/lang/String;" (.ref non) ∧ Ary Z Z.heap non (.object "java/lang/String") []
/-- a list: the empty one, or one of the element x -/
def LV (Z : State) (h : Heap) (el em l : Addr) (o : Option Addr) : Prop := (o = none ∧ l = el) ∨ ∃ x, o = some x ∧ Exa Z h l "java/util/ImmutableCollections$List12" ∧ Fld Z h l "java/util/ImmutableCollections$List12" "e0" "Ljava/lang/Object;" (.ref x) ∧ Fld Z h l "java/util/ImmutableCollections$List12" "e1" "Ljava/lang/Object;" (.ref em)
theorem LV.keep {Z : State} {h h' : Heap} {el em l : Addr} {o : Option Addr} {ws : List Addr} (L : LV Z h el em l o) (K : Keep h h' ws) (q : l ∉ ws) : LV Z h' el em l o := by
  rcases L with L | ⟨x, ho, E, F, G⟩
  · exact Or.inl L
  · exact Or.inr ⟨x, ho, E.keep K, F.keep K q, G.keep K q⟩
/-- a restriction's element: its class, its filler's two flags -/
def EV (Z : State) (h : Heap) (C : String) (x : Addr) : Prop := Exa Z h x C ∧ ∃ (d : Addr) (q1 q2 : Int32), Fld Z h x C "filler" "Lcom/example/subsumer/subsumer/core/Description;" (.ref d) ∧ Fld Z h d "com/example/subsumer/subsumer/core/Description" "existentialInside" "Z" (.int q1) ∧ Fld Z h d "com/example/subsumer/subsumer/core/Description" "numberInside" "Z" (.int q2)
theorem EV.keep0 {Z : State} {h h' : Heap} {C : String} {x : Addr} (E : EV Z h C x) (K : Keep h h' []) : EV Z h' C x := by
  obtain ⟨E, d, q1, q2, F, G, H⟩ := E
  exact ⟨E.keep K, d, q1, q2, F.keep K nin0, G.keep K nin0, H.keep K nin0⟩
theorem EV.keep1 {Z : State} {h h' : Heap} {C : String} {x a : Addr} (E : EV Z h C x) (K : Keep h h' [a]) (n1 : C ≠ "com/example/subsumer/subsumer/core/Description") (ha : Exa Z h a "com/example/subsumer/subsumer/core/Description") (hd : ∀ d q, Fld Z h d "com/example/subsumer/subsumer/core/Description" "numberInside" "Z" (.int q) → Fld Z h' d "com/example/subsumer/subsumer/core/Description" "numberInside" "Z" (.int q)) (he : ∀ d q, Fld Z h d "com/example/subsumer/subsumer/core/Description" "existentialInside" "Z" (.int q) → Fld Z h' d "com/example/subsumer/subsumer/core/Description" "existentialInside" "Z" (.int q)) : EV Z h' C x := by
  obtain ⟨E, d, q1, q2, F, G, H⟩ := E
  exact ⟨E.keep K, d, q1, q2, F.keep K (ninS (ne_exa E ha n1) nin0), he _ _ G, hd _ _ H⟩
theorem LV.exa {Z : State} {h : Heap} {el em l x : Addr} (L : LV Z h el em l (some x)) : Exa Z h l "java/util/ImmutableCollections$List12" := by
  rcases L with ⟨q, -⟩ | ⟨y, -, E, -⟩
  · cases q
  · exact E
theorem own_lne {Z : State} {h : Heap} {el ea em top bot lem non l a : Addr} {o : Option Addr} (hv : Ev0 Z el ea em top bot lem non) (L : LV Z h el em l o) (E : Exa Z h a "com/example/subsumer/subsumer/core/Description") (ge : Z.heap.size ≤ a) : l ∉ [a] := by
  refine ninS ?_ nin0
  rcases L with ⟨-, q⟩ | ⟨y, -, F, -⟩
  · have := ltN hv.2.2.2.2.2.2.1.lt
    rw [q]; exact Nat.ne_of_lt (Nat.lt_of_lt_of_le this ge)
  · exact ne_exa F E (by decide)
theorem own_fk {Z : State} {h h' : Heap} {a d : Addr} {C n : String} {q : Int32} (F : Fld Z h d C n "Z" (.int q)) (K : Keep h h' [a]) (F0 : Fld Z h a C n "Z" (.int 0)) (F5 : Fld Z h' a C n "Z" (.int 0)) : Fld Z h' d C n "Z" (.int q) := by
  by_cases e : d = a
  · subst e
    by_cases hq : q = 0
    · rw [hq]; exact F5
    · exact absurd rfl (F.ne F0 (fun z => hq (Value.int.inj z)))
  · exact F.keep K (ninS e nin0)
theorem own_ite0 {P : Prop} [Decidable P] (h : (if P then (1 : Int32) else 0) = 0) : ¬ P := fun p => by rw [if_pos p] at h; exact absurd h (by decide)
theorem own_ite1 {P : Prop} [Decidable P] (h : ¬ (if P then (1 : Int32) else 0) = 0) : P := Decidable.byContradiction fun p => h (if_neg p)
theorem own_c {f v : Int32} (h : (f &&& (255 : Int32)).toUInt32.toUInt16.toUInt32.toInt32 = v) : ¬ (255 : Int32) < v := by
  have h1 : (f &&& (255 : Int32)).toInt = f.toInt % (2 ^ 8 : Nat) := c_mask _ 255 8 (by decide) (by decide)
  have h2 := c_i2c (f &&& (255 : Int32))
  rw [h] at h2
  rw [Int32.lt_iff_toInt_lt]
  have : (255 : Int32).toInt = 255 := rfl
  omega
theorem own_mm {n : Int32} {m : Int32} (h : (n &&& (1073741823 : Int32)) + (1 : Int32) = m) : 1 ≤ m.toInt := by
  have h1 : (n &&& (1073741823 : Int32)).toInt = n.toInt % (2 ^ 30 : Nat) := c_mask _ 1073741823 30 (by decide) (by decide)
  have o : (1 : Int32).toInt = 1 := rfl
  have := Jvm.Free.XT.add32 (x := n &&& (1073741823 : Int32)) (y := 1) ⟨by omega, by omega⟩
  rw [h] at this; omega
theorem own_m1 {n : Int32} {m : Int32} (h : (n &&& (1073741823 : Int32)) + (1 : Int32) = m) : ¬ m < 0 := by
  have := own_mm h; rw [Int32.lt_iff_toInt_lt]; have o : (0 : Int32).toInt = 0 := rfl; omega
theorem own_m0 {n : Int32} {m : Int32} (h : (n &&& (1073741823 : Int32)) + (1 : Int32) = m) : ¬ m = 0 := by
  have := own_mm h; intro q; rw [q] at this; have o : (0 : Int32).toInt = 0 := rfl; omega
theorem own_mx {n : Int32} {m : Int32} (h : n &&& (2147483647 : Int32) = m) : ¬ m < 0 := by
  have h1 : (n &&& (2147483647 : Int32)).toInt = n.toInt % (2 ^ 31 : Nat) := c_mask _ 2147483647 31 (by decide) (by decide)
  rw [h] at h1; rw [Int32.lt_iff_toInt_lt]; have o : (0 : Int32).toInt = 0 := rfl; omega
theorem own_bits (p : Int32) : (p &&& (63 : Int32)) = 0 ↔ (p &&& (1 : Int32) = 0 ∧ p &&& (2 : Int32) = 0 ∧ p &&& (4 : Int32) = 0 ∧ p &&& (8 : Int32) = 0 ∧ p &&& (16 : Int32) = 0 ∧ p &&& (32 : Int32) = 0) := by
  constructor
  · intro h
    have k : ∀ m : Int32, (63 : Int32) &&& m = m → p &&& m = 0 := fun m hm => by rw [← hm, ← Int32.and_assoc, h]; exact Int32.zero_and
    exact ⟨k 1 (by decide), k 2 (by decide), k 4 (by decide), k 8 (by decide), k 16 (by decide), k 32 (by decide)⟩
  · rintro ⟨a, b, c, d, e, f⟩
    have t : ∀ m : Int32, p &&& m = 0 → p.toBitVec &&& m.toBitVec = 0#32 := fun m h => by rw [← Int32.toBitVec_and, h]; rfl
    have a := t _ a; have b := t _ b; have c := t _ c; have d := t _ d; have e := t _ e; have f := t _ f
    apply Int32.toBitVec_inj.mp
    rw [Int32.toBitVec_and]
    have h : (63 : Int32).toBitVec = (1 : Int32).toBitVec ||| ((2 : Int32).toBitVec ||| ((4 : Int32).toBitVec ||| ((8 : Int32).toBitVec ||| ((16 : Int32).toBitVec ||| (32 : Int32).toBitVec)))) := by decide
    rw [h, BitVec.and_or_distrib_left, BitVec.and_or_distrib_left, BitVec.and_or_distrib_left, BitVec.and_or_distrib_left, BitVec.and_or_distrib_left, a, b, c, d, e, f]
    decide
theorem own_z {P : Prop} [Decidable P] {f : Int32} (h : f = if P then 0 else 1) : f = 0 ↔ P := by
  rw [h]; by_cases p : P
  · simp [p]
  · simp only [p, if_false, iff_false]; decide
theorem own_fin {p f0 f1 f2 f3 f4 f5 ex : Int32} {vA vB : List Value} {oE oU oA oM : Option Addr} (h0 : f0 = if p &&& (1 : Int32) = 0 then 0 else 1) (h1 : f1 = if p &&& (2 : Int32) = 0 then 0 else 1) (h2 : f2 = if p &&& (4 : Int32) = 0 then 0 else 1) (h3 : f3 = if p &&& (8 : Int32) = 0 then 0 else 1) (h4 : f4 = if p &&& (16 : Int32) = 0 then 0 else 1) (h5 : f5 = if p &&& (32 : Int32) = 0 then 0 else 1)
    (hA : vA.length = 0 ↔ f0 = 0) (hB : vB.length = 0 ↔ f1 = 0) (hE : oE = none ↔ f2 = 0) (hU : oU = none ↔ f3 = 0) (hL : oA = none ↔ f4 = 0) (hM : oM = none ↔ f5 = 0) (hex : ex = if p &&& (63 : Int32) = 0 then 1 else 0) :
    (if vA.length = 0 ∧ vB.length = 0 ∧ oE = none ∧ oU = none ∧ oA = none ∧ oM = none then 1 else 0) = ex := by
  have key : (vA.length = 0 ∧ vB.length = 0 ∧ oE = none ∧ oU = none ∧ oA = none ∧ oM = none) ↔ (p &&& (63 : Int32)) = 0 := by
    rw [own_bits, hA, hB, hE, hU, hL, hM, own_z h0, own_z h1, own_z h2, own_z h3, own_z h4, own_z h5]
  rw [hex]
  by_cases q : (p &&& (63 : Int32)) = 0
  · rw [if_pos q, if_pos (key.mpr q)]
  · rw [if_neg q, if_neg (fun z => q (key.mp z))]
theorem d26_0 : decode jdk_30_method_1_code 0 = .ok (.aload_n 0, 1) := by decide +kernel
theorem d26_1 : decode jdk_30_method_1_code 1 = .ok (.invokespecial 1, 3) := by decide +kernel
theorem d26_4 : decode jdk_30_method_1_code 4 = .ok (.return_, 1) := by decide +kernel
theorem pd26 : parseMethodDescriptor "()V" = some ⟨[], none⟩ := by decide +kernel
theorem pn26 : plainName "java/lang/Record" = true := by first | (simp [plainName, overriddenIn]; done) | decide +kernel
abbrev B26 : Bd := ((⟨"java/lang/Record", "<init>", "()V"⟩ : MethodName), jdk_30_method_1_code, 1, none, ({ frames := 1, cells := 0, slots := 0, locals := 12 } : Room), tables_1)
theorem ef26 (mid : MethodId) (a : Addr) : entryFrame mid (List.toArray [.ref a]) 1 = mkF mid 0 #[.val (.ref a)] [] := by first | (simp [entryFrame, mkF, argsToLocals, Value.category]; done) | rfl
def Q26 (h0 : Heap) (v : Option Value) (h : Heap) : Prop := v = none ∧ h0 = h
set_option maxRecDepth 65536 in
set_option maxHeartbeats 40000000 in
theorem c26 (Z : State) (hw : Wd Z tables_1) (h0 : Heap) (a : Addr)   : Con Z B26 (List.toArray [.ref a]) h0 (Q26 h0) := by
  refine Con.mk hw pn26 (fun mid => ef26 mid a) (Go.old fun hle' => ?_)
  have hle := hle'.1
  refine Go.aloadN 1 rfl d26_0 rfl rfl ?_
  refine Go.initO 4 rfl 189 20 21 d26_1 rfl rfl rfl rfl (by decide) (W := 0) (Nat.le_of_ble_eq_true rfl) (by decide) ?_
  exact Go.retV d26_4 rfl (by decide) (by decide) ⟨rfl, rfl⟩
theorem d31_0 : decode jdk_22_method_1_code 0 = .ok (.aload_n 0, 1) := by decide +kernel
theorem d31_1 : decode jdk_22_method_1_code 1 = .ok (.invokespecial 1, 3) := by decide +kernel
theorem d31_4 : decode jdk_22_method_1_code 4 = .ok (.return_, 1) := by decide +kernel
theorem pd31 : parseMethodDescriptor "()V" = some ⟨[], none⟩ := by decide +kernel
theorem pn31 : plainName "java/util/AbstractCollection" = true := by first | (simp [plainName, overriddenIn]; done) | decide +kernel
abbrev B31 : Bd := ((⟨"java/util/AbstractCollection", "<init>", "()V"⟩ : MethodName), jdk_22_method_1_code, 1, none, ({ frames := 1, cells := 0, slots := 0, locals := 12 } : Room), tables_1)
theorem ef31 (mid : MethodId) (a : Addr) : entryFrame mid (List.toArray [.ref a]) 1 = mkF mid 0 #[.val (.ref a)] [] := by first | (simp [entryFrame, mkF, argsToLocals, Value.category]; done) | rfl
def Q31 (h0 : Heap) (v : Option Value) (h : Heap) : Prop := v = none ∧ h0 = h
set_option maxRecDepth 65536 in
set_option maxHeartbeats 40000000 in
theorem c31 (Z : State) (hw : Wd Z tables_1) (h0 : Heap) (a : Addr)   : Con Z B31 (List.toArray [.ref a]) h0 (Q31 h0) := by
  refine Con.mk hw pn31 (fun mid => ef31 mid a) (Go.old fun hle' => ?_)
  have hle := hle'.1
  refine Go.aloadN 1 rfl d31_0 rfl rfl ?_
  refine Go.initO 4 rfl 221 20 21 d31_1 rfl rfl rfl rfl (by decide) (W := 0) (Nat.le_of_ble_eq_true rfl) (by decide) ?_
  exact Go.retV d31_4 rfl (by decide) (by decide) ⟨rfl, rfl⟩
theorem d30_0 : decode jdk_47_method_1_code 0 = .ok (.aload_n 0, 1) := by decide +kernel
theorem d30_1 : decode jdk_47_method_1_code 1 = .ok (.invokespecial 1, 3) := by decide +kernel
theorem d30_4 : decode jdk_47_method_1_code 4 = .ok (.return_, 1) := by decide +kernel
theorem pd30 : parseMethodDescriptor "()V" = some ⟨[], none⟩ := by decide +kernel
theorem pn30 : plainName "java/util/ImmutableCollections$AbstractImmutableCollection" = true := by first | (simp [plainName, overriddenIn]; done) | decide +kernel
abbrev B30 : Bd := ((⟨"java/util/ImmutableCollections$AbstractImmutableCollection", "<init>", "()V"⟩ : MethodName), jdk_47_method_1_code, 1, none, ({ frames := 2, cells := 0, slots := 0, locals := 24 } : Room), tables_1)
theorem ef30 (mid : MethodId) (a : Addr) : entryFrame mid (List.toArray [.ref a]) 1 = mkF mid 0 #[.val (.ref a)] [] := by first | (simp [entryFrame, mkF, argsToLocals, Value.category]; done) | rfl
def Q30 (h0 : Heap) (v : Option Value) (h : Heap) : Prop := v = none ∧ h0 = h
set_option maxRecDepth 65536 in
set_option maxHeartbeats 40000000 in
theorem c30 (Z : State) (hw : Wd Z tables_1) (h0 : Heap) (a : Addr)   : Con Z B30 (List.toArray [.ref a]) h0 (Q30 h0) := by
  refine Con.mk hw pn30 (fun mid => ef30 mid a) (Go.old fun hle' => ?_)
  have hle := hle'.1
  refine Go.aloadN 1 rfl d30_0 rfl rfl ?_
  refine Go.callI 4 rfl (C := B31) a [] (rest := []) 215 216 219 220 (c31 Z hw h0 a) d30_1 rfl rfl rfl rfl rfl rfl (by decide) pd31 rfl rfl rfl (W := 0) (Nat.le_of_ble_eq_true rfl) (by decide) (by decide) (by decide) (by decide) fun v1 h2 q3 => ?_
  obtain ⟨rfl, rfl⟩ := q3
  exact Go.retV d30_4 rfl (by decide) (by decide) ⟨rfl, rfl⟩
theorem d29_0 : decode jdk_46_method_1_code 0 = .ok (.aload_n 0, 1) := by decide +kernel
theorem d29_1 : decode jdk_46_method_1_code 1 = .ok (.invokespecial 1, 3) := by decide +kernel
theorem d29_4 : decode jdk_46_method_1_code 4 = .ok (.return_, 1) := by decide +kernel
theorem pd29 : parseMethodDescriptor "()V" = some ⟨[], none⟩ := by decide +kernel
theorem pn29 : plainName "java/util/ImmutableCollections$AbstractImmutableList" = true := by first | (simp [plainName, overriddenIn]; done) | decide +kernel
abbrev B29 : Bd := ((⟨"java/util/ImmutableCollections$AbstractImmutableList", "<init>", "()V"⟩ : MethodName), jdk_46_method_1_code, 1, none, ({ frames := 3, cells := 0, slots := 0, locals := 36 } : Room), tables_1)
theorem ef29 (mid : MethodId) (a : Addr) : entryFrame mid (List.toArray [.ref a]) 1 = mkF mid 0 #[.val (.ref a)] [] := by first | (simp [entryFrame, mkF, argsToLocals, Value.category]; done) | rfl
def Q29 (h0 : Heap) (v : Option Value) (h : Heap) : Prop := v = none ∧ h0 = h
set_option maxRecDepth 65536 in
set_option maxHeartbeats 40000000 in
theorem c29 (Z : State) (hw : Wd Z tables_1) (h0 : Heap) (a : Addr)   : Con Z B29 (List.toArray [.ref a]) h0 (Q29 h0) := by
  refine Con.mk hw pn29 (fun mid => ef29 mid a) (Go.old fun hle' => ?_)
  have hle := hle'.1
  refine Go.aloadN 1 rfl d29_0 rfl rfl ?_
  refine Go.callI 4 rfl (C := B30) a [] (rest := []) 209 210 213 214 (c30 Z hw h0 a) d29_1 rfl rfl rfl rfl rfl rfl (by decide) pd30 rfl rfl rfl (W := 0) (Nat.le_of_ble_eq_true rfl) (by decide) (by decide) (by decide) (by decide) fun v1 h2 q3 => ?_
  obtain ⟨rfl, rfl⟩ := q3
  exact Go.retV d29_4 rfl (by decide) (by decide) ⟨rfl, rfl⟩
theorem d8_0 : decode prog_14_method_1_code 0 = .ok (.aload_n 0, 1) := by decide +kernel
theorem d8_1 : decode prog_14_method_1_code 1 = .ok (.invokespecial 1, 3) := by decide +kernel
theorem d8_4 : decode prog_14_method_1_code 4 = .ok (.aload_n 0, 1) := by decide +kernel
theorem d8_5 : decode prog_14_method_1_code 5 = .ok (.aload_n 1, 1) := by decide +kernel
theorem d8_6 : decode prog_14_method_1_code 6 = .ok (.putfield 7, 3) := by decide +kernel
theorem d8_9 : decode prog_14_method_1_code 9 = .ok (.aload_n 0, 1) := by decide +kernel
theorem d8_10 : decode prog_14_method_1_code 10 = .ok (.aload_n 2, 1) := by decide +kernel
theorem d8_11 : decode prog_14_method_1_code 11 = .ok (.putfield 13, 3) := by decide +kernel
theorem d8_14 : decode prog_14_method_1_code 14 = .ok (.return_, 1) := by decide +kernel
theorem pd8 : parseMethodDescriptor "([Ljava/lang/String;[Ljava/lang/String;)V" = some ⟨[(.array (.object "java/lang/String")), (.array (.object "java/lang/String"))], none⟩ := by decide +kernel
theorem pn8 : plainName "com/example/subsumer/subsumer/core/Label" = true := by first | (simp [plainName, overriddenIn]; done) | decide +kernel
abbrev B8 : Bd := ((⟨"com/example/subsumer/subsumer/core/Label", "<init>", "([Ljava/lang/String;[Ljava/lang/String;)V"⟩ : MethodName), prog_14_method_1_code, 3, none, ({ frames := 1, cells := 0, slots := 0, locals := 12 } : Room), tables_1)
theorem ef8 (mid : MethodId) (a : Addr) (t : Addr) (u : Addr) : entryFrame mid (List.toArray [.ref a, .ref t, .ref u]) 3 = mkF mid 0 #[.val (.ref a), .val (.ref t), .val (.ref u)] [] := by first | (simp [entryFrame, mkF, argsToLocals, Value.category]; done) | rfl
def Q8 (Z : State) (a : Addr) (t : Addr) (u : Addr) (h0 : Heap) (v : Option Value) (h : Heap) : Prop := v = none ∧ Keep h0 h [a] ∧ Fld Z h a "com/example/subsumer/subsumer/core/Label" "names" "[Ljava/lang/String;" (.ref t) ∧ Fld Z h a "com/example/subsumer/subsumer/core/Label" "negated" "[Ljava/lang/String;" (.ref u)
set_option maxRecDepth 65536 in
set_option maxHeartbeats 40000000 in
theorem c8 (Z : State) (hw : Wd Z tables_1) (h0 : Heap) (a : Addr) (t : Addr) (u : Addr)  (hge : Z.heap.size ≤ a) (hE : Exa Z h0 a "com/example/subsumer/subsumer/core/Label") (hF0 : Fld Z h0 a "com/example/subsumer/subsumer/core/Label" "names" "[Ljava/lang/String;" (.null)) (hF1 : Fld Z h0 a "com/example/subsumer/subsumer/core/Label" "negated" "[Ljava/lang/String;" (.null)) : Con Z B8 (List.toArray [.ref a, .ref t, .ref u]) h0 (Q8 Z a t u h0) := by
  refine Con.mk hw pn8 (fun mid => ef8 mid a t u) (Go.old fun hle' => ?_)
  have hle := hle'.1
  refine Go.aloadN 1 rfl d8_0 rfl rfl ?_
  refine Go.initO 4 rfl 47 20 21 d8_1 rfl rfl rfl rfl (by decide) (W := 0) (Nat.le_of_ble_eq_true rfl) (by decide) ?_
  refine Go.aloadN 5 rfl d8_4 rfl rfl ?_
  refine Go.aloadN 6 rfl d8_5 rfl rfl ?_
  refine Go.putF 9 rfl (v' := .ref t) (ty := (.array (.object "java/lang/String"))) 48 49 38 d8_6 rfl hF0 hE (Or.inr ⟨rfl, rfl, rfl⟩) rfl (by decide) rfl rfl hge fun h1 K2 W3 F4 => ?_
  refine Go.aloadN 10 rfl d8_9 rfl rfl ?_
  refine Go.aloadN 11 rfl d8_10 rfl rfl ?_
  have F5 : Fld Z h1 a "com/example/subsumer/subsumer/core/Label" "negated" "[Ljava/lang/String;" (.null) := (Fld.oth hw hF1 W3 51 49 (Or.inr rfl) (Or.inr rfl) (by decide) rfl rfl)
  have F6 : Exa Z h1 a "com/example/subsumer/subsumer/core/Label" := (hE.keep K2)
  refine Go.putF 14 rfl (v' := .ref u) (ty := (.array (.object "java/lang/String"))) 50 51 38 d8_11 rfl F5 F6 (Or.inr ⟨rfl, rfl, rfl⟩) rfl (by decide) rfl rfl hge fun h7 K8 W9 F10 => ?_
  have F11 : Fld Z h7 a "com/example/subsumer/subsumer/core/Label" "names" "[Ljava/lang/String;" (.ref t) := (Fld.oth hw F4 W9 49 51 (Or.inr rfl) (Or.inr rfl) (by decide) rfl rfl)
  exact Go.retV d8_14 rfl (by decide) (by decide) ⟨rfl, (((Keep.refl h0 [a]).trans K2 (by simp)).trans K8 (by simp)), F11, F10⟩
theorem d25_0 : decode prog_12_method_1_code 0 = .ok (.aload_n 0, 1) := by decide +kernel
theorem d25_1 : decode prog_12_method_1_code 1 = .ok (.invokespecial 1, 3) := by decide +kernel
theorem d25_4 : decode prog_12_method_1_code 4 = .ok (.aload_n 0, 1) := by decide +kernel
theorem d25_5 : decode prog_12_method_1_code 5 = .ok (.aload_n 1, 1) := by decide +kernel
theorem d25_6 : decode prog_12_method_1_code 6 = .ok (.putfield 7, 3) := by decide +kernel
theorem d25_9 : decode prog_12_method_1_code 9 = .ok (.aload_n 0, 1) := by decide +kernel
theorem d25_10 : decode prog_12_method_1_code 10 = .ok (.aload_n 2, 1) := by decide +kernel
theorem d25_11 : decode prog_12_method_1_code 11 = .ok (.putfield 13, 3) := by decide +kernel
theorem d25_14 : decode prog_12_method_1_code 14 = .ok (.return_, 1) := by decide +kernel
theorem pd25 : parseMethodDescriptor "(Ljava/lang/String;Lcom/example/subsumer/subsumer/core/Description;)V" = some ⟨[(.object "java/lang/String"), (.object "com/example/subsumer/subsumer/core/Description")], none⟩ := by decide +kernel
theorem pn25 : plainName "com/example/subsumer/subsumer/core/Existential" = true := by first | (simp [plainName, overriddenIn]; done) | decide +kernel
abbrev B25 : Bd := ((⟨"com/example/subsumer/subsumer/core/Existential", "<init>", "(Ljava/lang/String;Lcom/example/subsumer/subsumer/core/Description;)V"⟩ : MethodName), prog_12_method_1_code, 3, none, ({ frames := 2, cells := 0, slots := 0, locals := 24 } : Room), tables_1)
theorem ef25 (mid : MethodId) (a : Addr) (p : Addr) (f : Addr) : entryFrame mid (List.toArray [.ref a, .ref p, .ref f]) 3 = mkF mid 0 #[.val (.ref a), .val (.ref p), .val (.ref f)] [] := by first | (simp [entryFrame, mkF, argsToLocals, Value.category]; done) | rfl
def Q25 (Z : State) (a : Addr) (p : Addr) (f : Addr) (h0 : Heap) (v : Option Value) (h : Heap) : Prop := v = none ∧ Keep h0 h [a] ∧ Fld Z h a "com/example/subsumer/subsumer/core/Existential" "property" "Ljava/lang/String;" (.ref p) ∧ Fld Z h a "com/example/subsumer/subsumer/core/Existential" "filler" "Lcom/example/subsumer/subsumer/core/Description;" (.ref f)
set_option maxRecDepth 65536 in
set_option maxHeartbeats 40000000 in
theorem c25 (Z : State) (hw : Wd Z tables_1) (h0 : Heap) (a : Addr) (p : Addr) (f : Addr)  (hge : Z.heap.size ≤ a) (hE : Exa Z h0 a "com/example/subsumer/subsumer/core/Existential") (hF0 : Fld Z h0 a "com/example/subsumer/subsumer/core/Existential" "property" "Ljava/lang/String;" (.null)) (hF1 : Fld Z h0 a "com/example/subsumer/subsumer/core/Existential" "filler" "Lcom/example/subsumer/subsumer/core/Description;" (.null)) : Con Z B25 (List.toArray [.ref a, .ref p, .ref f]) h0 (Q25 Z a p f h0) := by
  refine Con.mk hw pn25 (fun mid => ef25 mid a p f) (Go.old fun hle' => ?_)
  have hle := hle'.1
  refine Go.aloadN 1 rfl d25_0 rfl rfl ?_
  refine Go.callI 4 rfl (C := B26) a [] (rest := []) 184 185 187 188 (c26 Z hw h0 a) d25_1 rfl rfl rfl rfl rfl rfl (by decide) pd26 rfl rfl rfl (W := 0) (Nat.le_of_ble_eq_true rfl) (by decide) (by decide) (by decide) (by decide) fun v1 h2 q3 => ?_
  obtain ⟨rfl, rfl⟩ := q3
  refine Go.aloadN 5 rfl d25_4 rfl rfl ?_
  refine Go.aloadN 6 rfl d25_5 rfl rfl ?_
  refine Go.putF 9 rfl (v' := .ref p) (ty := (.object "java/lang/String")) 190 191 179 d25_6 rfl hF0 hE (Or.inr ⟨rfl, rfl, rfl⟩) rfl (by decide) rfl rfl hge fun h4 K5 W6 F7 => ?_
  refine Go.aloadN 10 rfl d25_9 rfl rfl ?_
  refine Go.aloadN 11 rfl d25_10 rfl rfl ?_
  have F8 : Fld Z h4 a "com/example/subsumer/subsumer/core/Existential" "filler" "Lcom/example/subsumer/subsumer/core/Description;" (.null) := (Fld.oth hw hF1 W6 193 191 (Or.inr rfl) (Or.inr rfl) (by decide) rfl rfl)
  have F9 : Exa Z h4 a "com/example/subsumer/subsumer/core/Existential" := (hE.keep K5)
  refine Go.putF 14 rfl (v' := .ref f) (ty := (.object "com/example/subsumer/subsumer/core/Description")) 192 193 179 d25_11 rfl F8 F9 (Or.inr ⟨rfl, rfl, rfl⟩) rfl (by decide) rfl rfl hge fun h10 K11 W12 F13 => ?_
  have F14 : Fld Z h10 a "com/example/subsumer/subsumer/core/Existential" "property" "Ljava/lang/String;" (.ref p) := (Fld.oth hw F7 W12 191 193 (Or.inr rfl) (Or.inr rfl) (by decide) rfl rfl)
  exact Go.retV d25_14 rfl (by decide) (by decide) ⟨rfl, (((Keep.refl h0 [a]).trans K5 (by simp)).trans K11 (by simp)), F14, F13⟩
theorem d43_0 : decode prog_1_method_1_code 0 = .ok (.aload_n 0, 1) := by decide +kernel
theorem d43_1 : decode prog_1_method_1_code 1 = .ok (.invokespecial 1, 3) := by decide +kernel
theorem d43_4 : decode prog_1_method_1_code 4 = .ok (.aload_n 0, 1) := by decide +kernel
theorem d43_5 : decode prog_1_method_1_code 5 = .ok (.aload_n 1, 1) := by decide +kernel
theorem d43_6 : decode prog_1_method_1_code 6 = .ok (.putfield 7, 3) := by decide +kernel
theorem d43_9 : decode prog_1_method_1_code 9 = .ok (.aload_n 0, 1) := by decide +kernel
theorem d43_10 : decode prog_1_method_1_code 10 = .ok (.iload_n 2, 1) := by decide +kernel
theorem d43_11 : decode prog_1_method_1_code 11 = .ok (.putfield 13, 3) := by decide +kernel
theorem d43_14 : decode prog_1_method_1_code 14 = .ok (.return_, 1) := by decide +kernel
theorem pd43 : parseMethodDescriptor "(Ljava/lang/String;I)V" = some ⟨[(.object "java/lang/String"), .int], none⟩ := by decide +kernel
theorem pn43 : plainName "com/example/subsumer/subsumer/core/AtLeast" = true := by first | (simp [plainName, overriddenIn]; done) | decide +kernel
abbrev B43 : Bd := ((⟨"com/example/subsumer/subsumer/core/AtLeast", "<init>", "(Ljava/lang/String;I)V"⟩ : MethodName), prog_1_method_1_code, 3, none, ({ frames := 2, cells := 0, slots := 0, locals := 24 } : Room), tables_1)
theorem ef43 (mid : MethodId) (a : Addr) (p : Addr) (m : Int32) : entryFrame mid (List.toArray [.ref a, .ref p, .int m]) 3 = mkF mid 0 #[.val (.ref a), .val (.ref p), .val (.int m)] [] := by first | (simp [entryFrame, mkF, argsToLocals, Value.category]; done) | rfl
def Q43 (Z : State) (a : Addr) (p : Addr) (m : Int32) (h0 : Heap) (v : Option Value) (h : Heap) : Prop := v = none ∧ Keep h0 h [a] ∧ Fld Z h a "com/example/subsumer/subsumer/core/AtLeast" "property" "Ljava/lang/String;" (.ref p) ∧ Fld Z h a "com/example/subsumer/subsumer/core/AtLeast" "number" "I" (.int m)
set_option maxRecDepth 65536 in
set_option maxHeartbeats 40000000 in
theorem c43 (Z : State) (hw : Wd Z tables_1) (h0 : Heap) (a : Addr) (p : Addr) (m : Int32)  (hge : Z.heap.size ≤ a) (hE : Exa Z h0 a "com/example/subsumer/subsumer/core/AtLeast") (hF0 : Fld Z h0 a "com/example/subsumer/subsumer/core/AtLeast" "property" "Ljava/lang/String;" (.null)) (hF1 : Fld Z h0 a "com/example/subsumer/subsumer/core/AtLeast" "number" "I" (.int (0 : Int32))) : Con Z B43 (List.toArray [.ref a, .ref p, .int m]) h0 (Q43 Z a p m h0) := by
  refine Con.mk hw pn43 (fun mid => ef43 mid a p m) (Go.old fun hle' => ?_)
  have hle := hle'.1
  refine Go.aloadN 1 rfl d43_0 rfl rfl ?_
  refine Go.callI 4 rfl (C := B26) a [] (rest := []) 302 185 187 188 (c26 Z hw h0 a) d43_1 rfl rfl rfl rfl rfl rfl (by decide) pd26 rfl rfl rfl (W := 0) (Nat.le_of_ble_eq_true rfl) (by decide) (by decide) (by decide) (by decide) fun v1 h2 q3 => ?_
  obtain ⟨rfl, rfl⟩ := q3
  refine Go.aloadN 5 rfl d43_4 rfl rfl ?_
  refine Go.aloadN 6 rfl d43_5 rfl rfl ?_
  refine Go.putF 9 rfl (v' := .ref p) (ty := (.object "java/lang/String")) 303 304 297 d43_6 rfl hF0 hE (Or.inr ⟨rfl, rfl, rfl⟩) rfl (by decide) rfl rfl hge fun h4 K5 W6 F7 => ?_
  refine Go.aloadN 10 rfl d43_9 rfl rfl ?_
  refine Go.iloadN 11 rfl d43_10 rfl ?_
  have F8 : Fld Z h4 a "com/example/subsumer/subsumer/core/AtLeast" "number" "I" (.int (0 : Int32)) := (Fld.oth hw hF1 W6 306 304 (Or.inr rfl) (Or.inr rfl) (by decide) rfl rfl)
  have F9 : Exa Z h4 a "com/example/subsumer/subsumer/core/AtLeast" := (hE.keep K5)
  refine Go.putF 14 rfl (v' := .int m) (ty := .int) 305 306 297 d43_11 rfl F8 F9 (Or.inr ⟨rfl, rfl, rfl⟩) rfl (by decide) rfl rfl hge fun h10 K11 W12 F13 => ?_
  have F14 : Fld Z h10 a "com/example/subsumer/subsumer/core/AtLeast" "property" "Ljava/lang/String;" (.ref p) := (Fld.oth hw F7 W12 304 306 (Or.inr rfl) (Or.inr rfl) (by decide) rfl rfl)
  exact Go.retV d43_14 rfl (by decide) (by decide) ⟨rfl, (((Keep.refl h0 [a]).trans K5 (by simp)).trans K11 (by simp)), F14, F13⟩
theorem d38_0 : decode prog_34_method_1_code 0 = .ok (.aload_n 0, 1) := by decide +kernel
theorem d38_1 : decode prog_34_method_1_code 1 = .ok (.invokespecial 1, 3) := by decide +kernel
theorem d38_4 : decode prog_34_method_1_code 4 = .ok (.aload_n 0, 1) := by decide +kernel
theorem d38_5 : decode prog_34_method_1_code 5 = .ok (.aload_n 1, 1) := by decide +kernel
theorem d38_6 : decode prog_34_method_1_code 6 = .ok (.putfield 7, 3) := by decide +kernel
theorem d38_9 : decode prog_34_method_1_code 9 = .ok (.aload_n 0, 1) := by decide +kernel
theorem d38_10 : decode prog_34_method_1_code 10 = .ok (.aload_n 2, 1) := by decide +kernel
theorem d38_11 : decode prog_34_method_1_code 11 = .ok (.putfield 13, 3) := by decide +kernel
theorem d38_14 : decode prog_34_method_1_code 14 = .ok (.return_, 1) := by decide +kernel
theorem pd38 : parseMethodDescriptor "(Ljava/lang/String;Lcom/example/subsumer/subsumer/core/Description;)V" = some ⟨[(.object "java/lang/String"), (.object "com/example/subsumer/subsumer/core/Description")], none⟩ := by decide +kernel
theorem pn38 : plainName "com/example/subsumer/subsumer/core/Universal" = true := by first | (simp [plainName, overriddenIn]; done) | decide +kernel
abbrev B38 : Bd := ((⟨"com/example/subsumer/subsumer/core/Universal", "<init>", "(Ljava/lang/String;Lcom/example/subsumer/subsumer/core/Description;)V"⟩ : MethodName), prog_34_method_1_code, 3, none, ({ frames := 2, cells := 0, slots := 0, locals := 24 } : Room), tables_1)
theorem ef38 (mid : MethodId) (a : Addr) (p : Addr) (f : Addr) : entryFrame mid (List.toArray [.ref a, .ref p, .ref f]) 3 = mkF mid 0 #[.val (.ref a), .val (.ref p), .val (.ref f)] [] := by first | (simp [entryFrame, mkF, argsToLocals, Value.category]; done) | rfl
def Q38 (Z : State) (a : Addr) (p : Addr) (f : Addr) (h0 : Heap) (v : Option Value) (h : Heap) : Prop := v = none ∧ Keep h0 h [a] ∧ Fld Z h a "com/example/subsumer/subsumer/core/Universal" "property" "Ljava/lang/String;" (.ref p) ∧ Fld Z h a "com/example/subsumer/subsumer/core/Universal" "filler" "Lcom/example/subsumer/subsumer/core/Description;" (.ref f)
set_option maxRecDepth 65536 in
set_option maxHeartbeats 40000000 in
theorem c38 (Z : State) (hw : Wd Z tables_1) (h0 : Heap) (a : Addr) (p : Addr) (f : Addr)  (hge : Z.heap.size ≤ a) (hE : Exa Z h0 a "com/example/subsumer/subsumer/core/Universal") (hF0 : Fld Z h0 a "com/example/subsumer/subsumer/core/Universal" "property" "Ljava/lang/String;" (.null)) (hF1 : Fld Z h0 a "com/example/subsumer/subsumer/core/Universal" "filler" "Lcom/example/subsumer/subsumer/core/Description;" (.null)) : Con Z B38 (List.toArray [.ref a, .ref p, .ref f]) h0 (Q38 Z a p f h0) := by
  refine Con.mk hw pn38 (fun mid => ef38 mid a p f) (Go.old fun hle' => ?_)
  have hle := hle'.1
  refine Go.aloadN 1 rfl d38_0 rfl rfl ?_
  refine Go.callI 4 rfl (C := B26) a [] (rest := []) 274 185 187 188 (c26 Z hw h0 a) d38_1 rfl rfl rfl rfl rfl rfl (by decide) pd26 rfl rfl rfl (W := 0) (Nat.le_of_ble_eq_true rfl) (by decide) (by decide) (by decide) (by decide) fun v1 h2 q3 => ?_
  obtain ⟨rfl, rfl⟩ := q3
  refine Go.aloadN 5 rfl d38_4 rfl rfl ?_
  refine Go.aloadN 6 rfl d38_5 rfl rfl ?_
  refine Go.putF 9 rfl (v' := .ref p) (ty := (.object "java/lang/String")) 275 276 269 d38_6 rfl hF0 hE (Or.inr ⟨rfl, rfl, rfl⟩) rfl (by decide) rfl rfl hge fun h4 K5 W6 F7 => ?_
  refine Go.aloadN 10 rfl d38_9 rfl rfl ?_
  refine Go.aloadN 11 rfl d38_10 rfl rfl ?_
  have F8 : Fld Z h4 a "com/example/subsumer/subsumer/core/Universal" "filler" "Lcom/example/subsumer/subsumer/core/Description;" (.null) := (Fld.oth hw hF1 W6 278 276 (Or.inr rfl) (Or.inr rfl) (by decide) rfl rfl)
  have F9 : Exa Z h4 a "com/example/subsumer/subsumer/core/Universal" := (hE.keep K5)
  refine Go.putF 14 rfl (v' := .ref f) (ty := (.object "com/example/subsumer/subsumer/core/Description")) 277 278 269 d38_11 rfl F8 F9 (Or.inr ⟨rfl, rfl, rfl⟩) rfl (by decide) rfl rfl hge fun h10 K11 W12 F13 => ?_
  have F14 : Fld Z h10 a "com/example/subsumer/subsumer/core/Universal" "property" "Ljava/lang/String;" (.ref p) := (Fld.oth hw F7 W12 276 278 (Or.inr rfl) (Or.inr rfl) (by decide) rfl rfl)
  exact Go.retV d38_14 rfl (by decide) (by decide) ⟨rfl, (((Keep.refl h0 [a]).trans K5 (by simp)).trans K11 (by simp)), F14, F13⟩
theorem d45_0 : decode prog_2_method_1_code 0 = .ok (.aload_n 0, 1) := by decide +kernel
theorem d45_1 : decode prog_2_method_1_code 1 = .ok (.invokespecial 1, 3) := by decide +kernel
theorem d45_4 : decode prog_2_method_1_code 4 = .ok (.aload_n 0, 1) := by decide +kernel
theorem d45_5 : decode prog_2_method_1_code 5 = .ok (.aload_n 1, 1) := by decide +kernel
theorem d45_6 : decode prog_2_method_1_code 6 = .ok (.putfield 7, 3) := by decide +kernel
theorem d45_9 : decode prog_2_method_1_code 9 = .ok (.aload_n 0, 1) := by decide +kernel
theorem d45_10 : decode prog_2_method_1_code 10 = .ok (.iload_n 2, 1) := by decide +kernel
theorem d45_11 : decode prog_2_method_1_code 11 = .ok (.putfield 13, 3) := by decide +kernel
theorem d45_14 : decode prog_2_method_1_code 14 = .ok (.return_, 1) := by decide +kernel
theorem pd45 : parseMethodDescriptor "(Ljava/lang/String;I)V" = some ⟨[(.object "java/lang/String"), .int], none⟩ := by decide +kernel
theorem pn45 : plainName "com/example/subsumer/subsumer/core/AtMost" = true := by first | (simp [plainName, overriddenIn]; done) | decide +kernel
abbrev B45 : Bd := ((⟨"com/example/subsumer/subsumer/core/AtMost", "<init>", "(Ljava/lang/String;I)V"⟩ : MethodName), prog_2_method_1_code, 3, none, ({ frames := 2, cells := 0, slots := 0, locals := 24 } : Room), tables_1)
theorem ef45 (mid : MethodId) (a : Addr) (p : Addr) (m : Int32) : entryFrame mid (List.toArray [.ref a, .ref p, .int m]) 3 = mkF mid 0 #[.val (.ref a), .val (.ref p), .val (.int m)] [] := by first | (simp [entryFrame, mkF, argsToLocals, Value.category]; done) | rfl
def Q45 (Z : State) (a : Addr) (p : Addr) (m : Int32) (h0 : Heap) (v : Option Value) (h : Heap) : Prop := v = none ∧ Keep h0 h [a] ∧ Fld Z h a "com/example/subsumer/subsumer/core/AtMost" "property" "Ljava/lang/String;" (.ref p) ∧ Fld Z h a "com/example/subsumer/subsumer/core/AtMost" "number" "I" (.int m)
set_option maxRecDepth 65536 in
set_option maxHeartbeats 40000000 in
theorem c45 (Z : State) (hw : Wd Z tables_1) (h0 : Heap) (a : Addr) (p : Addr) (m : Int32)  (hge : Z.heap.size ≤ a) (hE : Exa Z h0 a "com/example/subsumer/subsumer/core/AtMost") (hF0 : Fld Z h0 a "com/example/subsumer/subsumer/core/AtMost" "property" "Ljava/lang/String;" (.null)) (hF1 : Fld Z h0 a "com/example/subsumer/subsumer/core/AtMost" "number" "I" (.int (0 : Int32))) : Con Z B45 (List.toArray [.ref a, .ref p, .int m]) h0 (Q45 Z a p m h0) := by
  refine Con.mk hw pn45 (fun mid => ef45 mid a p m) (Go.old fun hle' => ?_)
  have hle := hle'.1
  refine Go.aloadN 1 rfl d45_0 rfl rfl ?_
  refine Go.callI 4 rfl (C := B26) a [] (rest := []) 317 185 187 188 (c26 Z hw h0 a) d45_1 rfl rfl rfl rfl rfl rfl (by decide) pd26 rfl rfl rfl (W := 0) (Nat.le_of_ble_eq_true rfl) (by decide) (by decide) (by decide) (by decide) fun v1 h2 q3 => ?_
  obtain ⟨rfl, rfl⟩ := q3
  refine Go.aloadN 5 rfl d45_4 rfl rfl ?_
  refine Go.aloadN 6 rfl d45_5 rfl rfl ?_
  refine Go.putF 9 rfl (v' := .ref p) (ty := (.object "java/lang/String")) 318 319 312 d45_6 rfl hF0 hE (Or.inr ⟨rfl, rfl, rfl⟩) rfl (by decide) rfl rfl hge fun h4 K5 W6 F7 => ?_
  refine Go.aloadN 10 rfl d45_9 rfl rfl ?_
  refine Go.iloadN 11 rfl d45_10 rfl ?_
  have F8 : Fld Z h4 a "com/example/subsumer/subsumer/core/AtMost" "number" "I" (.int (0 : Int32)) := (Fld.oth hw hF1 W6 321 319 (Or.inr rfl) (Or.inr rfl) (by decide) rfl rfl)
  have F9 : Exa Z h4 a "com/example/subsumer/subsumer/core/AtMost" := (hE.keep K5)
  refine Go.putF 14 rfl (v' := .int m) (ty := .int) 320 321 312 d45_11 rfl F8 F9 (Or.inr ⟨rfl, rfl, rfl⟩) rfl (by decide) rfl rfl hge fun h10 K11 W12 F13 => ?_
  have F14 : Fld Z h10 a "com/example/subsumer/subsumer/core/AtMost" "property" "Ljava/lang/String;" (.ref p) := (Fld.oth hw F7 W12 319 321 (Or.inr rfl) (Or.inr rfl) (by decide) rfl rfl)
  exact Go.retV d45_14 rfl (by decide) (by decide) ⟨rfl, (((Keep.refl h0 [a]).trans K5 (by simp)).trans K11 (by simp)), F14, F13⟩
theorem d39_0 : decode prog_34_method_6_code 0 = .ok (.aload_n 0, 1) := by decide +kernel
theorem d39_1 : decode prog_34_method_6_code 1 = .ok (.getfield 13, 3) := by decide +kernel
theorem d39_4 : decode prog_34_method_6_code 4 = .ok (.areturn, 1) := by decide +kernel
theorem pd39 : parseMethodDescriptor "()Lcom/example/subsumer/subsumer/core/Description;" = some ⟨[], some (.object "com/example/subsumer/subsumer/core/Description")⟩ := by decide +kernel
theorem pn39 : plainName "com/example/subsumer/subsumer/core/Universal" = true := by first | (simp [plainName, overriddenIn]; done) | decide +kernel
abbrev B39 : Bd := ((⟨"com/example/subsumer/subsumer/core/Universal", "filler", "()Lcom/example/subsumer/subsumer/core/Description;"⟩ : MethodName), prog_34_method_6_code, 1, (some (.object "com/example/subsumer/subsumer/core/Description")), ({ frames := 0, cells := 0, slots := 0, locals := 0 } : Room), tables_1)
theorem ef39 (mid : MethodId) (a : Addr) : entryFrame mid (List.toArray [.ref a]) 1 = mkF mid 0 #[.val (.ref a)] [] := by first | (simp [entryFrame, mkF, argsToLocals, Value.category]; done) | rfl
def Q39 (r : Addr) (h0 : Heap) (v : Option Value) (h : Heap) : Prop := v = some (.ref r) ∧ h0 = h
set_option maxRecDepth 65536 in
set_option maxHeartbeats 40000000 in
theorem c39 (Z : State) (hw : Wd Z tables_1) (h0 : Heap) (a : Addr) (r : Addr) (hF : Fld Z h0 a "com/example/subsumer/subsumer/core/Universal" "filler" "Lcom/example/subsumer/subsumer/core/Description;" (.ref r)) : Con Z B39 (List.toArray [.ref a]) h0 (Q39 r h0) := by
  refine Con.mk hw pn39 (fun mid => ef39 mid a) (Go.old fun hle' => ?_)
  have hle := hle'.1
  refine Go.aloadN 1 rfl d39_0 rfl rfl ?_
  refine Go.getF 4 rfl (v := .ref r) 277 d39_1 rfl hF ?_
  exact Go.retA d39_4 rfl rfl rfl (by decide) (by decide) ⟨rfl, rfl⟩
theorem d36_0 : decode prog_12_method_6_code 0 = .ok (.aload_n 0, 1) := by decide +kernel
theorem d36_1 : decode prog_12_method_6_code 1 = .ok (.getfield 13, 3) := by decide +kernel
theorem d36_4 : decode prog_12_method_6_code 4 = .ok (.areturn, 1) := by decide +kernel
theorem pd36 : parseMethodDescriptor "()Lcom/example/subsumer/subsumer/core/Description;" = some ⟨[], some (.object "com/example/subsumer/subsumer/core/Description")⟩ := by decide +kernel
theorem pn36 : plainName "com/example/subsumer/subsumer/core/Existential" = true := by first | (simp [plainName, overriddenIn]; done) | decide +kernel
abbrev B36 : Bd := ((⟨"com/example/subsumer/subsumer/core/Existential", "filler", "()Lcom/example/subsumer/subsumer/core/Description;"⟩ : MethodName), prog_12_method_6_code, 1, (some (.object "com/example/subsumer/subsumer/core/Description")), ({ frames := 0, cells := 0, slots := 0, locals := 0 } : Room), tables_1)
theorem ef36 (mid : MethodId) (a : Addr) : entryFrame mid (List.toArray [.ref a]) 1 = mkF mid 0 #[.val (.ref a)] [] := by first | (simp [entryFrame, mkF, argsToLocals, Value.category]; done) | rfl
def Q36 (r : Addr) (h0 : Heap) (v : Option Value) (h : Heap) : Prop := v = some (.ref r) ∧ h0 = h
set_option maxRecDepth 65536 in
set_option maxHeartbeats 40000000 in
theorem c36 (Z : State) (hw : Wd Z tables_1) (h0 : Heap) (a : Addr) (r : Addr) (hF : Fld Z h0 a "com/example/subsumer/subsumer/core/Existential" "filler" "Lcom/example/subsumer/subsumer/core/Description;" (.ref r)) : Con Z B36 (List.toArray [.ref a]) h0 (Q36 r h0) := by
  refine Con.mk hw pn36 (fun mid => ef36 mid a) (Go.old fun hle' => ?_)
  have hle := hle'.1
  refine Go.aloadN 1 rfl d36_0 rfl rfl ?_
  refine Go.getF 4 rfl (v := .ref r) 192 d36_1 rfl hF ?_
  exact Go.retA d36_4 rfl rfl rfl (by decide) (by decide) ⟨rfl, rfl⟩
theorem d32_0 : decode jdk_31_method_10_code 0 = .ok (.aload_n 0, 1) := by decide +kernel
theorem d32_1 : decode jdk_31_method_10_code 1 = .ok (.ifnonnull 11, 3) := by decide +kernel
theorem d32_12 : decode jdk_31_method_10_code 12 = .ok (.aload_n 0, 1) := by decide +kernel
theorem d32_13 : decode jdk_31_method_10_code 13 = .ok (.areturn, 1) := by decide +kernel
theorem pd32 : parseMethodDescriptor "(Ljava/lang/Object;)Ljava/lang/Object;" = some ⟨[(.object "java/lang/Object")], some (.object "java/lang/Object")⟩ := by decide +kernel
theorem pn32 : plainName "java/util/Objects" = true := by first | (simp [plainName, overriddenIn]; done) | decide +kernel
abbrev B32 : Bd := ((⟨"java/util/Objects", "requireNonNull", "(Ljava/lang/Object;)Ljava/lang/Object;"⟩ : MethodName), jdk_31_method_10_code, 1, (some (.object "java/lang/Object")), ({ frames := 0, cells := 0, slots := 0, locals := 0 } : Room), tables_1)
theorem ef32 (mid : MethodId) (a : Addr) : entryFrame mid (List.toArray [.ref a]) 1 = mkF mid 0 #[.val (.ref a)] [] := by first | (simp [entryFrame, mkF, argsToLocals, Value.category]; done) | rfl
def Q32 (a : Addr) (h0 : Heap) (v : Option Value) (h : Heap) : Prop := v = some (.ref a) ∧ h0 = h
set_option maxRecDepth 65536 in
set_option maxHeartbeats 40000000 in
theorem c32 (Z : State) (hw : Wd Z tables_1) (h0 : Heap) (a : Addr)   : Con Z B32 (List.toArray [.ref a]) h0 (Q32 a h0) := by
  refine Con.mk hw pn32 (fun mid => ef32 mid a) (Go.old fun hle' => ?_)
  have hle := hle'.1
  refine Go.aloadN 1 rfl d32_0 rfl rfl ?_
  refine Go.ifnonnull_r 12 d32_1 (by decide) rfl ?_
  refine Go.aloadN 13 rfl d32_12 rfl rfl ?_
  exact Go.retA d32_13 rfl rfl rfl (by decide) (by decide) ⟨rfl, rfl⟩
theorem d9_0 : decode jdk_40_method_36_code 0 = .ok (.getstatic 90, 3) := by decide +kernel
theorem d9_3 : decode jdk_40_method_36_code 3 = .ok (.areturn, 1) := by decide +kernel
theorem pd9 : parseMethodDescriptor "()Ljava/util/List;" = some ⟨[], some (.object "java/util/List")⟩ := by decide +kernel
theorem pn9 : plainName "java/util/List" = true := by first | (simp [plainName, overriddenIn]; done) | decide +kernel
abbrev B9 : Bd := ((⟨"java/util/List", "of", "()Ljava/util/List;"⟩ : MethodName), jdk_40_method_36_code, 0, (some (.object "java/util/List")), ({ frames := 0, cells := 0, slots := 0, locals := 0 } : Room), tables_1)
theorem ef9 (mid : MethodId)  : entryFrame mid (List.toArray []) 0 = mkF mid 0 #[] [] := by first | (simp [entryFrame, mkF, argsToLocals, Value.category]; done) | rfl
def Q9 (el : Addr) (h0 : Heap) (v : Option Value) (h : Heap) : Prop := v = some (.ref el) ∧ h0 = h
set_option maxRecDepth 65536 in
set_option maxHeartbeats 40000000 in
theorem c9 (Z : State) (hw : Wd Z tables_1) (h0 : Heap)  (el : Addr) (ea : Addr) (em : Addr) (top : Addr) (bot : Addr) (lem : Addr) (non : Addr) (hv : Ev0 Z el ea em top bot lem non) : Con Z B9 (List.toArray []) h0 (Q9 el h0) := by
  refine Con.mk hw pn9 (fun mid => ef9 mid ) (Go.old fun hle' => ?_)
  have hle := hle'.1
  obtain ⟨hSel, hSem, hStop, hSbot, hSlem, hSnon, hEel, hFel, hAea, hEtop, hTl, hTe, hTu, hTa, hTm, hEbot, hnbt, hElem, hLn, hLg, hAnon⟩ := id hv
  refine Go.getS 3 rfl (v := .ref el) 56 d9_0 rfl hSel ?_
  exact Go.retA d9_3 rfl rfl rfl (by decide) (by decide) ⟨rfl, rfl⟩
theorem d28_0 : decode jdk_44_method_1_code 0 = .ok (.aload_n 0, 1) := by decide +kernel
theorem d28_1 : decode jdk_44_method_1_code 1 = .ok (.invokespecial 1, 3) := by decide +kernel
theorem d28_4 : decode jdk_44_method_1_code 4 = .ok (.aload_n 0, 1) := by decide +kernel
theorem d28_5 : decode jdk_44_method_1_code 5 = .ok (.aload_n 1, 1) := by decide +kernel
theorem d28_6 : decode jdk_44_method_1_code 6 = .ok (.invokestatic 7, 3) := by decide +kernel
theorem d28_9 : decode jdk_44_method_1_code 9 = .ok (.putfield 13, 3) := by decide +kernel
theorem d28_12 : decode jdk_44_method_1_code 12 = .ok (.aload_n 0, 1) := by decide +kernel
theorem d28_13 : decode jdk_44_method_1_code 13 = .ok (.getstatic 19, 3) := by decide +kernel
theorem d28_16 : decode jdk_44_method_1_code 16 = .ok (.putfield 24, 3) := by decide +kernel
theorem d28_19 : decode jdk_44_method_1_code 19 = .ok (.return_, 1) := by decide +kernel
theorem pd28 : parseMethodDescriptor "(Ljava/lang/Object;)V" = some ⟨[(.object "java/lang/Object")], none⟩ := by decide +kernel
theorem pn28 : plainName "java/util/ImmutableCollections$List12" = true := by first | (simp [plainName, overriddenIn]; done) | decide +kernel
abbrev B28 : Bd := ((⟨"java/util/ImmutableCollections$List12", "<init>", "(Ljava/lang/Object;)V"⟩ : MethodName), jdk_44_method_1_code, 2, none, ({ frames := 4, cells := 0, slots := 0, locals := 48 } : Room), tables_1)
theorem ef28 (mid : MethodId) (a : Addr) (x : Addr) : entryFrame mid (List.toArray [.ref a, .ref x]) 2 = mkF mid 0 #[.val (.ref a), .val (.ref x)] [] := by first | (simp [entryFrame, mkF, argsToLocals, Value.category]; done) | rfl
def Q28 (Z : State) (a : Addr) (x : Addr) (em : Addr) (h0 : Heap) (v : Option Value) (h : Heap) : Prop := v = none ∧ Keep h0 h [a] ∧ Fld Z h a "java/util/ImmutableCollections$List12" "e0" "Ljava/lang/Object;" (.ref x) ∧ Fld Z h a "java/util/ImmutableCollections$List12" "e1" "Ljava/lang/Object;" (.ref em)
set_option maxRecDepth 65536 in
set_option maxHeartbeats 40000000 in
theorem c28 (Z : State) (hw : Wd Z tables_1) (h0 : Heap) (a : Addr) (x : Addr) (em : Addr) (el : Addr) (ea : Addr) (top : Addr) (bot : Addr) (lem : Addr) (non : Addr) (hv : Ev0 Z el ea em top bot lem non) (hge : Z.heap.size ≤ a) (hE : Exa Z h0 a "java/util/ImmutableCollections$List12") (hF0 : Fld Z h0 a "java/util/ImmutableCollections$List12" "e0" "Ljava/lang/Object;" (.null)) (hF1 : Fld Z h0 a "java/util/ImmutableCollections$List12" "e1" "Ljava/lang/Object;" (.null)) : Con Z B28 (List.toArray [.ref a, .ref x]) h0 (Q28 Z a x em h0) := by
  refine Con.mk hw pn28 (fun mid => ef28 mid a x) (Go.old fun hle' => ?_)
  have hle := hle'.1
  obtain ⟨hSel, hSem, hStop, hSbot, hSlem, hSnon, hEel, hFel, hAea, hEtop, hTl, hTe, hTu, hTa, hTm, hEbot, hnbt, hElem, hLn, hLg, hAnon⟩ := id hv
  refine Go.aloadN 1 rfl d28_0 rfl rfl ?_
  refine Go.callI 4 rfl (C := B29) a [] (rest := []) 204 205 94 208 (c29 Z hw h0 a) d28_1 rfl rfl rfl rfl rfl rfl (by decide) pd29 rfl rfl rfl (W := 0) (Nat.le_of_ble_eq_true rfl) (by decide) (by decide) (by decide) (by decide) fun v1 h2 q3 => ?_
  obtain ⟨rfl, rfl⟩ := q3
  refine Go.aloadN 5 rfl d28_4 rfl rfl ?_
  refine Go.aloadN 6 rfl d28_5 rfl rfl ?_
  refine Go.callS 9 rfl (C := B32) [.ref x] (rest := [.ref a]) 222 223 224 225 (c32 Z hw h0 x) d28_6 rfl rfl rfl rfl (by decide) pd32 rfl rfl rfl (W := 1) (Nat.le_of_ble_eq_true rfl) (by decide) (by decide) (by decide) (by decide) fun v4 h5 q6 => ?_
  obtain ⟨rfl, rfl⟩ := q6
  refine Go.putF 12 rfl (v' := .ref x) (ty := (.object "java/lang/Object")) 226 227 198 d28_9 rfl hF0 hE (Or.inr ⟨rfl, rfl, rfl⟩) rfl (by decide) rfl rfl hge fun h7 K8 W9 F10 => ?_
  refine Go.aloadN 13 rfl d28_12 rfl rfl ?_
  refine Go.getSN 16 rfl (v := .ref em) 228 d28_13 rfl hSem ?_
  have F11 : Fld Z h7 a "java/util/ImmutableCollections$List12" "e1" "Ljava/lang/Object;" (.null) := (Fld.oth hw hF1 W9 230 227 (Or.inr rfl) (Or.inr rfl) (by decide) rfl rfl)
  have F12 : Exa Z h7 a "java/util/ImmutableCollections$List12" := (hE.keep K8)
  refine Go.putF 19 rfl (v' := .ref em) (ty := (.object "java/lang/Object")) 229 230 198 d28_16 rfl F11 F12 (Or.inr ⟨rfl, rfl, rfl⟩) rfl (by decide) rfl rfl hge fun h13 K14 W15 F16 => ?_
  have F17 : Fld Z h13 a "java/util/ImmutableCollections$List12" "e0" "Ljava/lang/Object;" (.ref x) := (Fld.oth hw F10 W15 227 230 (Or.inr rfl) (Or.inr rfl) (by decide) rfl rfl)
  exact Go.retV d28_19 rfl (by decide) (by decide) ⟨rfl, (((Keep.refl h0 [a]).trans K8 (by simp)).trans K14 (by simp)), F17, F16⟩
theorem d27_0 : decode jdk_40_method_37_code 0 = .ok (.new 96, 3) := by decide +kernel
theorem d27_3 : decode jdk_40_method_37_code 3 = .ok (.dup, 1) := by decide +kernel
theorem d27_4 : decode jdk_40_method_37_code 4 = .ok (.aload_n 0, 1) := by decide +kernel
theorem d27_5 : decode jdk_40_method_37_code 5 = .ok (.invokespecial 98, 3) := by decide +kernel
theorem d27_8 : decode jdk_40_method_37_code 8 = .ok (.areturn, 1) := by decide +kernel
theorem pd27 : parseMethodDescriptor "(Ljava/lang/Object;)Ljava/util/List;" = some ⟨[(.object "java/lang/Object")], some (.object "java/util/List")⟩ := by decide +kernel
theorem pn27 : plainName "java/util/List" = true := by first | (simp [plainName, overriddenIn]; done) | decide +kernel
abbrev B27 : Bd := ((⟨"java/util/List", "of", "(Ljava/lang/Object;)Ljava/util/List;"⟩ : MethodName), jdk_40_method_37_code, 1, (some (.object "java/util/List")), ({ frames := 5, cells := 1, slots := 2, locals := 62 } : Room), tables_1)
theorem ef27 (mid : MethodId) (x : Addr) : entryFrame mid (List.toArray [.ref x]) 1 = mkF mid 0 #[.val (.ref x)] [] := by first | (simp [entryFrame, mkF, argsToLocals, Value.category]; done) | rfl
def Q27 (Z : State) (el : Addr) (em : Addr) (x : Addr) (h0 : Heap) (v : Option Value) (h : Heap) : Prop := ∃ l, v = some (.ref l) ∧ h0.size ≤ l ∧ Keep h0 h [] ∧ LV Z h el em l (some x)
set_option maxRecDepth 65536 in
set_option maxHeartbeats 40000000 in
theorem c27 (Z : State) (hw : Wd Z tables_1) (h0 : Heap) (x : Addr) (el : Addr) (em : Addr) (ea : Addr) (top : Addr) (bot : Addr) (lem : Addr) (non : Addr) (hv : Ev0 Z el ea em top bot lem non) : Con Z B27 (List.toArray [.ref x]) h0 (Q27 Z el em x h0) := by
  refine Con.mk hw pn27 (fun mid => ef27 mid x) (Go.old fun hle' => ?_)
  have hle := hle'.1
  obtain ⟨hSel, hSem, hStop, hSbot, hSlem, hSnon, hEel, hFel, hAea, hEtop, hTl, hTe, hTu, hTa, hTm, hEbot, hnbt, hElem, hLn, hLg, hAnon⟩ := id hv
  refine Go.newO 3 rfl 197 198 199 d27_0 rfl rfl rfl (by decide) (by decide) fun h2 a1 g3 z4 K5 E6 D7 => ?_
  refine Go.dup 4 rfl d27_3 rfl ?_
  refine Go.aloadN 5 rfl d27_4 rfl rfl ?_
  refine Go.callI 8 rfl (C := B28) a1 [.ref x] (rest := [.ref a1]) 200 201 199 203 (c28 Z hw h2 a1 x em el ea top bot lem non hv z4 E6 (D7 227 (Or.inr rfl) (ty := (.object "java/lang/Object")) (by decide) : Fld Z h2 a1 "java/util/ImmutableCollections$List12" "e0" "Ljava/lang/Object;" (.null)) (D7 230 (Or.inr rfl) (ty := (.object "java/lang/Object")) (by decide) : Fld Z h2 a1 "java/util/ImmutableCollections$List12" "e1" "Ljava/lang/Object;" (.null))) d27_5 rfl rfl rfl rfl rfl rfl (by decide) pd28 rfl rfl rfl (W := 1) (Nat.le_of_ble_eq_true rfl) (by decide) (by decide) (by decide) (by decide) fun v8 h9 q10 => ?_
  obtain ⟨rfl, K11, F12, F13⟩ := q10
  have F14 : Exa Z h9 a1 "java/util/ImmutableCollections$List12" := (E6.keep K11)
  exact Go.retA d27_8 rfl rfl rfl (by decide) (by decide) ⟨a1, rfl, Nat.le_of_eq g3.symm, (((Keep.refl h0 []).trans K5 all0).trans K11 (allS (Or.inr (by have := K5.1; have := g3; omega)) all0)), Or.inr ⟨x, rfl, F14, F12, F13⟩⟩
theorem d12_0 : decode jdk_45_method_2_code 0 = .ok (.aload_n 0, 1) := by decide +kernel
theorem d12_1 : decode jdk_45_method_2_code 1 = .ok (.getfield 7, 3) := by decide +kernel
theorem d12_4 : decode jdk_45_method_2_code 4 = .ok (.arraylength, 1) := by decide +kernel
theorem d12_5 : decode jdk_45_method_2_code 5 = .ok (.ifCond .ne 7, 3) := by decide +kernel
theorem d12_8 : decode jdk_45_method_2_code 8 = .ok (.iconst 1, 1) := by decide +kernel
theorem d12_9 : decode jdk_45_method_2_code 9 = .ok (.goto 4, 3) := by decide +kernel
theorem d12_12 : decode jdk_45_method_2_code 12 = .ok (.iconst 0, 1) := by decide +kernel
theorem d12_13 : decode jdk_45_method_2_code 13 = .ok (.ireturn, 1) := by decide +kernel
theorem pd12 : parseMethodDescriptor "()Z" = some ⟨[], some .boolean⟩ := by decide +kernel
theorem pn12 : plainName "java/util/ImmutableCollections$ListN" = true := by first | (simp [plainName, overriddenIn]; done) | decide +kernel
abbrev B12 : Bd := ((⟨"java/util/ImmutableCollections$ListN", "isEmpty", "()Z"⟩ : MethodName), jdk_45_method_2_code, 1, (some .boolean), ({ frames := 0, cells := 0, slots := 0, locals := 0 } : Room), tables_1)
theorem ef12 (mid : MethodId) (a : Addr) : entryFrame mid (List.toArray [.ref a]) 1 = mkF mid 0 #[.val (.ref a)] [] := by first | (simp [entryFrame, mkF, argsToLocals, Value.category]; done) | rfl
def Q12 (h0 : Heap) (v : Option Value) (h : Heap) : Prop := v = some (.int 1) ∧ h0 = h
set_option maxRecDepth 65536 in
set_option maxHeartbeats 40000000 in
theorem c12 (Z : State) (hw : Wd Z tables_1) (h0 : Heap) (a : Addr)  (ea : Addr) (hF : Fld Z h0 a "java/util/ImmutableCollections$ListN" "elements" "[Ljava/lang/Object;" (.ref ea)) (hA : Ary Z h0 ea (.object "java/lang/Object") []) : Con Z B12 (List.toArray [.ref a]) h0 (Q12 h0) := by
  refine Con.mk hw pn12 (fun mid => ef12 mid a) (Go.old fun hle' => ?_)
  have hle := hle'.1
  refine Go.aloadN 1 rfl d12_0 rfl rfl ?_
  refine Go.getF 4 rfl (v := .ref ea) 85 d12_1 rfl hF ?_
  refine Go.alen 5 rfl (0 : Int32) d12_4 hA rfl ?_
  refine Go.if_ne 12 8 d12_5 (by decide) rfl rfl (fun (b1 : ¬ (0 : Int32) = 0) => ?_) (fun (b1 : (0 : Int32) = 0) => ?_)
  · exact absurd rfl b1
  · refine Go.iconst 9 rfl (1 : Int32) d12_8 rfl ?_
    refine Go.goto 13 d12_9 (by decide) (by decide) ?_
    exact Go.retN (t := .boolean) (z' := (1 : Int32)) d12_13 rfl (by decide) rfl (by decide) (by decide) ⟨rfl, rfl⟩
theorem d33_0 : decode jdk_44_method_4_code 0 = .ok (.iconst 0, 1) := by decide +kernel
theorem d33_1 : decode jdk_44_method_4_code 1 = .ok (.ireturn, 1) := by decide +kernel
theorem pd33 : parseMethodDescriptor "()Z" = some ⟨[], some .boolean⟩ := by decide +kernel
theorem pn33 : plainName "java/util/ImmutableCollections$List12" = true := by first | (simp [plainName, overriddenIn]; done) | decide +kernel
abbrev B33 : Bd := ((⟨"java/util/ImmutableCollections$List12", "isEmpty", "()Z"⟩ : MethodName), jdk_44_method_4_code, 1, (some .boolean), ({ frames := 0, cells := 0, slots := 0, locals := 0 } : Room), tables_1)
theorem ef33 (mid : MethodId) (a : Addr) : entryFrame mid (List.toArray [.ref a]) 1 = mkF mid 0 #[.val (.ref a)] [] := by first | (simp [entryFrame, mkF, argsToLocals, Value.category]; done) | rfl
def Q33 (h0 : Heap) (v : Option Value) (h : Heap) : Prop := v = some (.int 0) ∧ h0 = h
set_option maxRecDepth 65536 in
set_option maxHeartbeats 40000000 in
theorem c33 (Z : State) (hw : Wd Z tables_1) (h0 : Heap) (a : Addr)   : Con Z B33 (List.toArray [.ref a]) h0 (Q33 h0) := by
  refine Con.mk hw pn33 (fun mid => ef33 mid a) (Go.old fun hle' => ?_)
  have hle := hle'.1
  refine Go.iconst 1 rfl (0 : Int32) d33_0 rfl ?_
  exact Go.retN (t := .boolean) (z' := (0 : Int32)) d33_1 rfl (by decide) rfl (by decide) (by decide) ⟨rfl, rfl⟩
theorem d14_0 : decode jdk_45_method_3_code 0 = .ok (.aload_n 0, 1) := by decide +kernel
theorem d14_1 : decode jdk_45_method_3_code 1 = .ok (.getfield 7, 3) := by decide +kernel
theorem d14_4 : decode jdk_45_method_3_code 4 = .ok (.arraylength, 1) := by decide +kernel
theorem d14_5 : decode jdk_45_method_3_code 5 = .ok (.ireturn, 1) := by decide +kernel
theorem pd14 : parseMethodDescriptor "()I" = some ⟨[], some .int⟩ := by decide +kernel
theorem pn14 : plainName "java/util/ImmutableCollections$ListN" = true := by first | (simp [plainName, overriddenIn]; done) | decide +kernel
abbrev B14 : Bd := ((⟨"java/util/ImmutableCollections$ListN", "size", "()I"⟩ : MethodName), jdk_45_method_3_code, 1, (some .int), ({ frames := 0, cells := 0, slots := 0, locals := 0 } : Room), tables_1)
theorem ef14 (mid : MethodId) (a : Addr) : entryFrame mid (List.toArray [.ref a]) 1 = mkF mid 0 #[.val (.ref a)] [] := by first | (simp [entryFrame, mkF, argsToLocals, Value.category]; done) | rfl
def Q14 (h0 : Heap) (v : Option Value) (h : Heap) : Prop := v = some (.int 0) ∧ h0 = h
set_option maxRecDepth 65536 in
set_option maxHeartbeats 40000000 in
theorem c14 (Z : State) (hw : Wd Z tables_1) (h0 : Heap) (a : Addr)  (ea : Addr) (hF : Fld Z h0 a "java/util/ImmutableCollections$ListN" "elements" "[Ljava/lang/Object;" (.ref ea)) (hA : Ary Z h0 ea (.object "java/lang/Object") []) : Con Z B14 (List.toArray [.ref a]) h0 (Q14 h0) := by
  refine Con.mk hw pn14 (fun mid => ef14 mid a) (Go.old fun hle' => ?_)
  have hle := hle'.1
  refine Go.aloadN 1 rfl d14_0 rfl rfl ?_
  refine Go.getF 4 rfl (v := .ref ea) 85 d14_1 rfl hF ?_
  refine Go.alen 5 rfl (0 : Int32) d14_4 hA rfl ?_
  exact Go.retI d14_5 rfl (by decide) (by decide) ⟨rfl, rfl⟩
theorem d34_0 : decode jdk_44_method_3_code 0 = .ok (.aload_n 0, 1) := by decide +kernel
theorem d34_1 : decode jdk_44_method_3_code 1 = .ok (.getfield 24, 3) := by decide +kernel
theorem d34_4 : decode jdk_44_method_3_code 4 = .ok (.getstatic 19, 3) := by decide +kernel
theorem d34_7 : decode jdk_44_method_3_code 7 = .ok (.if_acmp .eq 7, 3) := by decide +kernel
theorem d34_10 : decode jdk_44_method_3_code 10 = .ok (.iconst 2, 1) := by decide +kernel
theorem d34_11 : decode jdk_44_method_3_code 11 = .ok (.goto 4, 3) := by decide +kernel
theorem d34_14 : decode jdk_44_method_3_code 14 = .ok (.iconst 1, 1) := by decide +kernel
theorem d34_15 : decode jdk_44_method_3_code 15 = .ok (.ireturn, 1) := by decide +kernel
theorem pd34 : parseMethodDescriptor "()I" = some ⟨[], some .int⟩ := by decide +kernel
theorem pn34 : plainName "java/util/ImmutableCollections$List12" = true := by first | (simp [plainName, overriddenIn]; done) | decide +kernel
abbrev B34 : Bd := ((⟨"java/util/ImmutableCollections$List12", "size", "()I"⟩ : MethodName), jdk_44_method_3_code, 1, (some .int), ({ frames := 0, cells := 0, slots := 0, locals := 0 } : Room), tables_1)
theorem ef34 (mid : MethodId) (a : Addr) : entryFrame mid (List.toArray [.ref a]) 1 = mkF mid 0 #[.val (.ref a)] [] := by first | (simp [entryFrame, mkF, argsToLocals, Value.category]; done) | rfl
def Q34 (h0 : Heap) (v : Option Value) (h : Heap) : Prop := v = some (.int 1) ∧ h0 = h
set_option maxRecDepth 65536 in
set_option maxHeartbeats 40000000 in
theorem c34 (Z : State) (hw : Wd Z tables_1) (h0 : Heap) (a : Addr)  (el : Addr) (ea : Addr) (em : Addr) (top : Addr) (bot : Addr) (lem : Addr) (non : Addr) (hv : Ev0 Z el ea em top bot lem non) (hF1 : Fld Z h0 a "java/util/ImmutableCollections$List12" "e1" "Ljava/lang/Object;" (.ref em)) : Con Z B34 (List.toArray [.ref a]) h0 (Q34 h0) := by
  refine Con.mk hw pn34 (fun mid => ef34 mid a) (Go.old fun hle' => ?_)
  have hle := hle'.1
  obtain ⟨hSel, hSem, hStop, hSbot, hSlem, hSnon, hEel, hFel, hAea, hEtop, hTl, hTe, hTu, hTa, hTm, hEbot, hnbt, hElem, hLn, hLg, hAnon⟩ := id hv
  refine Go.aloadN 1 rfl d34_0 rfl rfl ?_
  refine Go.getF 4 rfl (v := .ref em) 229 d34_1 rfl hF1 ?_
  refine Go.getSN 7 rfl (v := .ref em) 228 d34_4 rfl hSem ?_
  refine Go.acmp_eq 14 10 d34_7 (by decide) rfl rfl rfl rfl (fun (b1 : (.ref em : Value) = .ref em) => ?_) (fun (b1 : ¬ (.ref em : Value) = .ref em) => ?_)
  · refine Go.iconst 15 rfl (1 : Int32) d34_14 rfl ?_
    exact Go.retI d34_15 rfl (by decide) (by decide) ⟨rfl, rfl⟩
  · exact absurd rfl b1
theorem d15_0 : decode jdk_53_method_1_code 0 = .ok (.aload_n 0, 1) := by decide +kernel
theorem d15_1 : decode jdk_53_method_1_code 1 = .ok (.invokespecial 1, 3) := by decide +kernel
theorem d15_4 : decode jdk_53_method_1_code 4 = .ok (.aload_n 0, 1) := by decide +kernel
theorem d15_5 : decode jdk_53_method_1_code 5 = .ok (.aload_n 1, 1) := by decide +kernel
theorem d15_6 : decode jdk_53_method_1_code 6 = .ok (.putfield 7, 3) := by decide +kernel
theorem d15_9 : decode jdk_53_method_1_code 9 = .ok (.aload_n 0, 1) := by decide +kernel
theorem d15_10 : decode jdk_53_method_1_code 10 = .ok (.iload_n 2, 1) := by decide +kernel
theorem d15_11 : decode jdk_53_method_1_code 11 = .ok (.putfield 13, 3) := by decide +kernel
theorem d15_14 : decode jdk_53_method_1_code 14 = .ok (.aload_n 0, 1) := by decide +kernel
theorem d15_15 : decode jdk_53_method_1_code 15 = .ok (.iconst 0, 1) := by decide +kernel
theorem d15_16 : decode jdk_53_method_1_code 16 = .ok (.putfield 17, 3) := by decide +kernel
theorem d15_19 : decode jdk_53_method_1_code 19 = .ok (.aload_n 0, 1) := by decide +kernel
theorem d15_20 : decode jdk_53_method_1_code 20 = .ok (.iconst 0, 1) := by decide +kernel
theorem d15_21 : decode jdk_53_method_1_code 21 = .ok (.putfield 20, 3) := by decide +kernel
theorem d15_24 : decode jdk_53_method_1_code 24 = .ok (.return_, 1) := by decide +kernel
theorem pd15 : parseMethodDescriptor "(Ljava/util/List;I)V" = some ⟨[(.object "java/util/List"), .int], none⟩ := by decide +kernel
theorem pn15 : plainName "java/util/ImmutableCollections$ListItr" = true := by first | (simp [plainName, overriddenIn]; done) | decide +kernel
abbrev B15 : Bd := ((⟨"java/util/ImmutableCollections$ListItr", "<init>", "(Ljava/util/List;I)V"⟩ : MethodName), jdk_53_method_1_code, 3, none, ({ frames := 1, cells := 0, slots := 0, locals := 12 } : Room), tables_1)
theorem ef15 (mid : MethodId) (a : Addr) (l : Addr) (s : Int32) : entryFrame mid (List.toArray [.ref a, .ref l, .int s]) 3 = mkF mid 0 #[.val (.ref a), .val (.ref l), .val (.int s)] [] := by first | (simp [entryFrame, mkF, argsToLocals, Value.category]; done) | rfl
def Q15 (Z : State) (a : Addr) (l : Addr) (s : Int32) (h0 : Heap) (v : Option Value) (h : Heap) : Prop := v = none ∧ Keep h0 h [a] ∧ Fld Z h a "java/util/ImmutableCollections$ListItr" "list" "Ljava/util/List;" (.ref l) ∧ Fld Z h a "java/util/ImmutableCollections$ListItr" "size" "I" (.int s) ∧ Fld Z h a "java/util/ImmutableCollections$ListItr" "cursor" "I" (.int (0 : Int32)) ∧ Fld Z h a "java/util/ImmutableCollections$ListItr" "isListIterator" "Z" (.int (0 : Int32))
set_option maxRecDepth 65536 in
set_option maxHeartbeats 40000000 in
theorem c15 (Z : State) (hw : Wd Z tables_1) (h0 : Heap) (a : Addr) (l : Addr) (s : Int32)  (hge : Z.heap.size ≤ a) (hE : Exa Z h0 a "java/util/ImmutableCollections$ListItr") (hF0 : Fld Z h0 a "java/util/ImmutableCollections$ListItr" "list" "Ljava/util/List;" (.null)) (hF1 : Fld Z h0 a "java/util/ImmutableCollections$ListItr" "size" "I" (.int (0 : Int32))) (hF2 : Fld Z h0 a "java/util/ImmutableCollections$ListItr" "cursor" "I" (.int (0 : Int32))) (hF3 : Fld Z h0 a "java/util/ImmutableCollections$ListItr" "isListIterator" "Z" (.int (0 : Int32))) : Con Z B15 (List.toArray [.ref a, .ref l, .int s]) h0 (Q15 Z a l s h0) := by
  refine Con.mk hw pn15 (fun mid => ef15 mid a l s) (Go.old fun hle' => ?_)
  have hle := hle'.1
  refine Go.aloadN 1 rfl d15_0 rfl rfl ?_
  refine Go.initO 4 rfl 109 20 21 d15_1 rfl rfl rfl rfl (by decide) (W := 0) (Nat.le_of_ble_eq_true rfl) (by decide) ?_
  refine Go.aloadN 5 rfl d15_4 rfl rfl ?_
  refine Go.aloadN 6 rfl d15_5 rfl rfl ?_
  refine Go.putF 9 rfl (v' := .ref l) (ty := (.object "java/util/List")) 110 111 97 d15_6 rfl hF0 hE (Or.inr ⟨rfl, rfl, rfl⟩) rfl (by decide) rfl rfl hge fun h1 K2 W3 F4 => ?_
  refine Go.aloadN 10 rfl d15_9 rfl rfl ?_
  refine Go.iloadN 11 rfl d15_10 rfl ?_
  have F5 : Fld Z h1 a "java/util/ImmutableCollections$ListItr" "size" "I" (.int (0 : Int32)) := (Fld.oth hw hF1 W3 113 111 (Or.inr rfl) (Or.inr rfl) (by decide) rfl rfl)
  have F6 : Exa Z h1 a "java/util/ImmutableCollections$ListItr" := (hE.keep K2)
  refine Go.putF 14 rfl (v' := .int s) (ty := .int) 112 113 97 d15_11 rfl F5 F6 (Or.inr ⟨rfl, rfl, rfl⟩) rfl (by decide) rfl rfl hge fun h7 K8 W9 F10 => ?_
  refine Go.aloadN 15 rfl d15_14 rfl rfl ?_
  refine Go.iconst 16 rfl (0 : Int32) d15_15 rfl ?_
  have F11 : Fld Z h7 a "java/util/ImmutableCollections$ListItr" "cursor" "I" (.int (0 : Int32)) := (Fld.oth hw (Fld.oth hw hF2 W3 115 111 (Or.inl rfl) (Or.inr rfl) (by decide) rfl rfl) W9 115 113 (Or.inl rfl) (Or.inr rfl) (by decide) rfl rfl)
  have F12 : Exa Z h7 a "java/util/ImmutableCollections$ListItr" := (F6.keep K8)
  refine Go.putF 19 rfl (v' := .int (0 : Int32)) (ty := .int) 114 115 97 d15_16 rfl F11 F12 (Or.inl rfl) rfl (by decide) rfl rfl hge fun h13 K14 W15 F16 => ?_
  refine Go.aloadN 20 rfl d15_19 rfl rfl ?_
  refine Go.iconst 21 rfl (0 : Int32) d15_20 rfl ?_
  have F17 : Fld Z h13 a "java/util/ImmutableCollections$ListItr" "isListIterator" "Z" (.int (0 : Int32)) := (Fld.oth hw (Fld.oth hw (Fld.oth hw hF3 W3 117 111 (Or.inr rfl) (Or.inr rfl) (by decide) rfl rfl) W9 117 113 (Or.inr rfl) (Or.inr rfl) (by decide) rfl rfl) W15 117 115 (Or.inr rfl) (Or.inl rfl) (by decide) rfl rfl)
  have F18 : Exa Z h13 a "java/util/ImmutableCollections$ListItr" := (F12.keep K14)
  refine Go.putF 24 rfl (v' := .int (0 : Int32)) (ty := .boolean) 116 117 97 d15_21 rfl F17 F18 (Or.inr ⟨rfl, rfl, rfl⟩) rfl (by decide) rfl rfl hge fun h19 K20 W21 F22 => ?_
  have F23 : Fld Z h19 a "java/util/ImmutableCollections$ListItr" "list" "Ljava/util/List;" (.ref l) := (Fld.oth hw (Fld.oth hw (Fld.oth hw F4 W9 111 113 (Or.inr rfl) (Or.inr rfl) (by decide) rfl rfl) W15 111 115 (Or.inr rfl) (Or.inl rfl) (by decide) rfl rfl) W21 111 117 (Or.inr rfl) (Or.inr rfl) (by decide) rfl rfl)
  have F24 : Fld Z h19 a "java/util/ImmutableCollections$ListItr" "size" "I" (.int s) := (Fld.oth hw (Fld.oth hw F10 W15 113 115 (Or.inr rfl) (Or.inl rfl) (by decide) rfl rfl) W21 113 117 (Or.inr rfl) (Or.inr rfl) (by decide) rfl rfl)
  have F25 : Fld Z h19 a "java/util/ImmutableCollections$ListItr" "cursor" "I" (.int (0 : Int32)) := (Fld.oth hw F16 W21 115 117 (Or.inl rfl) (Or.inr rfl) (by decide) rfl rfl)
  exact Go.retV d15_24 rfl (by decide) (by decide) ⟨rfl, (((((Keep.refl h0 [a]).trans K2 (by simp)).trans K8 (by simp)).trans K14 (by simp)).trans K20 (by simp)), F23, F24, F25, F22⟩
theorem d16_0 : decode jdk_53_method_3_code 0 = .ok (.aload_n 0, 1) := by decide +kernel
theorem d16_1 : decode jdk_53_method_3_code 1 = .ok (.getfield 17, 3) := by decide +kernel
theorem d16_4 : decode jdk_53_method_3_code 4 = .ok (.aload_n 0, 1) := by decide +kernel
theorem d16_5 : decode jdk_53_method_3_code 5 = .ok (.getfield 13, 3) := by decide +kernel
theorem d16_8 : decode jdk_53_method_3_code 8 = .ok (.if_icmp .eq 7, 3) := by decide +kernel
theorem d16_11 : decode jdk_53_method_3_code 11 = .ok (.iconst 1, 1) := by decide +kernel
theorem d16_12 : decode jdk_53_method_3_code 12 = .ok (.goto 4, 3) := by decide +kernel
theorem d16_15 : decode jdk_53_method_3_code 15 = .ok (.iconst 0, 1) := by decide +kernel
theorem d16_16 : decode jdk_53_method_3_code 16 = .ok (.ireturn, 1) := by decide +kernel
theorem pd16 : parseMethodDescriptor "()Z" = some ⟨[], some .boolean⟩ := by decide +kernel
theorem pn16 : plainName "java/util/ImmutableCollections$ListItr" = true := by first | (simp [plainName, overriddenIn]; done) | decide +kernel
abbrev B16 : Bd := ((⟨"java/util/ImmutableCollections$ListItr", "hasNext", "()Z"⟩ : MethodName), jdk_53_method_3_code, 1, (some .boolean), ({ frames := 0, cells := 0, slots := 0, locals := 0 } : Room), tables_1)
theorem ef16 (mid : MethodId) (a : Addr) : entryFrame mid (List.toArray [.ref a]) 1 = mkF mid 0 #[.val (.ref a)] [] := by first | (simp [entryFrame, mkF, argsToLocals, Value.category]; done) | rfl
def Q16 (cu : Int32) (sz : Int32) (h0 : Heap) (v : Option Value) (h : Heap) : Prop := v = some (.int (if cu = sz then 0 else 1)) ∧ h0 = h
set_option maxRecDepth 65536 in
set_option maxHeartbeats 40000000 in
theorem c16 (Z : State) (hw : Wd Z tables_1) (h0 : Heap) (a : Addr) (cu : Int32) (sz : Int32) (hC : Fld Z h0 a "java/util/ImmutableCollections$ListItr" "cursor" "I" (.int cu)) (hZ : Fld Z h0 a "java/util/ImmutableCollections$ListItr" "size" "I" (.int sz)) : Con Z B16 (List.toArray [.ref a]) h0 (Q16 cu sz h0) := by
  refine Con.mk hw pn16 (fun mid => ef16 mid a) (Go.old fun hle' => ?_)
  have hle := hle'.1
  refine Go.aloadN 1 rfl d16_0 rfl rfl ?_
  refine Go.getF 4 rfl (v := .int cu) 114 d16_1 rfl hC ?_
  refine Go.aloadN 5 rfl d16_4 rfl rfl ?_
  refine Go.getF 8 rfl (v := .int sz) 112 d16_5 rfl hZ ?_
  refine Go.icmp_eq 15 11 d16_8 (by decide) rfl rfl (fun (b1 : cu = sz) => ?_) (fun (b1 : ¬ cu = sz) => ?_)
  · refine Go.iconst 16 rfl (0 : Int32) d16_15 rfl ?_
    exact Go.retN (t := .boolean) (z' := (0 : Int32)) d16_16 rfl (by decide) rfl (by decide) (by decide) ⟨by rw [if_pos b1], rfl⟩
  · refine Go.iconst 12 rfl (1 : Int32) d16_11 rfl ?_
    refine Go.goto 16 d16_12 (by decide) (by decide) ?_
    exact Go.retN (t := .boolean) (z' := (1 : Int32)) d16_16 rfl (by decide) rfl (by decide) (by decide) ⟨by rw [if_neg b1], rfl⟩
theorem d13_0 : decode jdk_46_method_10_code 0 = .ok (.new 61, 3) := by decide +kernel
theorem d13_3 : decode jdk_46_method_10_code 3 = .ok (.dup, 1) := by decide +kernel
theorem d13_4 : decode jdk_46_method_10_code 4 = .ok (.aload_n 0, 1) := by decide +kernel
theorem d13_5 : decode jdk_46_method_10_code 5 = .ok (.aload_n 0, 1) := by decide +kernel
theorem d13_6 : decode jdk_46_method_10_code 6 = .ok (.invokevirtual 13, 3) := by decide +kernel
theorem d13_9 : decode jdk_46_method_10_code 9 = .ok (.invokespecial 63, 3) := by decide +kernel
theorem d13_12 : decode jdk_46_method_10_code 12 = .ok (.areturn, 1) := by decide +kernel
theorem pd13 : parseMethodDescriptor "()Ljava/util/Iterator;" = some ⟨[], some (.object "java/util/Iterator")⟩ := by decide +kernel
theorem pn13 : plainName "java/util/ImmutableCollections$AbstractImmutableList" = true := by first | (simp [plainName, overriddenIn]; done) | decide +kernel
abbrev B13 : Bd := ((⟨"java/util/ImmutableCollections$AbstractImmutableList", "iterator", "()Ljava/util/Iterator;"⟩ : MethodName), jdk_46_method_10_code, 1, (some (.object "java/util/Iterator")), ({ frames := 2, cells := 1, slots := 4, locals := 27 } : Room), tables_1)
theorem ef13n (mid : MethodId) (a : Addr) : entryFrame mid (List.toArray [.ref a]) 1 = mkF mid 0 #[.val (.ref a)] [] := by first | (simp [entryFrame, mkF, argsToLocals, Value.category]; done) | rfl
def Q13n (Z : State) (a : Addr) (h0 : Heap) (v : Option Value) (h : Heap) : Prop := ∃ it, v = some (.ref it) ∧ h0.size ≤ it ∧ Keep h0 h [] ∧ Exa Z h it "java/util/ImmutableCollections$ListItr" ∧ Fld Z h it "java/util/ImmutableCollections$ListItr" "list" "Ljava/util/List;" (.ref a) ∧ Fld Z h it "java/util/ImmutableCollections$ListItr" "size" "I" (.int (0 : Int32)) ∧ Fld Z h it "java/util/ImmutableCollections$ListItr" "cursor" "I" (.int (0 : Int32))
set_option maxRecDepth 65536 in
set_option maxHeartbeats 40000000 in
theorem c13n (Z : State) (hw : Wd Z tables_1) (h0 : Heap) (a : Addr)  (el : Addr) (ea : Addr) (em : Addr) (top : Addr) (bot : Addr) (lem : Addr) (non : Addr) (hv : Ev0 Z el ea em top bot lem non) (hE : Exa Z h0 a "java/util/ImmutableCollections$ListN") (hF : Fld Z h0 a "java/util/ImmutableCollections$ListN" "elements" "[Ljava/lang/Object;" (.ref ea)) (hA : Ary Z h0 ea (.object "java/lang/Object") []) : Con Z B13 (List.toArray [.ref a]) h0 (Q13n Z a h0) := by
  refine Con.mk hw pn13 (fun mid => ef13n mid a) (Go.old fun hle' => ?_)
  have hle := hle'.1
  obtain ⟨hSel, hSem, hStop, hSbot, hSlem, hSnon, hEel, hFel, hAea, hEtop, hTl, hTe, hTu, hTa, hTm, hEbot, hnbt, hElem, hLn, hLg, hAnon⟩ := id hv
  refine Go.newO 3 rfl 96 97 98 d13_0 rfl rfl rfl (by decide) (by decide) fun h2 a1 g3 z4 K5 E6 D7 => ?_
  refine Go.dup 4 rfl d13_3 rfl ?_
  refine Go.aloadN 5 rfl d13_4 rfl rfl ?_
  refine Go.aloadN 6 rfl d13_5 rfl rfl ?_
  have F8 : Fld Z h2 a "java/util/ImmutableCollections$ListN" "elements" "[Ljava/lang/Object;" (.ref ea) := (hF.keep K5 nin0)
  have F9 : Ary Z h2 ea (.object "java/lang/Object") [] := (hA.keep K5 nin0)
  have F13 : Exa Z h2 a "java/util/ImmutableCollections$ListN" := (hE.keep K5)
  refine Go.callVU 9 rfl (C := B14) (y := ⟨"java/util/ImmutableCollections$AbstractImmutableList", "size", "()I"⟩) (ow := "java/util/AbstractCollection") a [] (rest := [.ref a, .ref a1, .ref a1]) 99 100 101 102 103 83 104 (c14 Z hw h2 a ea F8 F9) F13 d13_6 rfl rfl rfl rfl rfl rfl rfl (by decide) pd14 rfl rfl rfl (W := 3) (Nat.le_of_ble_eq_true rfl) (by decide) (by decide) (by decide) (by decide) fun v10 h11 q12 => ?_
  obtain ⟨rfl, rfl⟩ := q12
  refine Go.callI 12 rfl (C := B15) a1 [.ref a, .int (0 : Int32)] (rest := [.ref a1]) 105 106 98 108 (c15 Z hw h2 a1 a (0 : Int32) z4 E6 (D7 111 (Or.inr rfl) (ty := (.object "java/util/List")) (by decide) : Fld Z h2 a1 "java/util/ImmutableCollections$ListItr" "list" "Ljava/util/List;" (.null)) (D7 113 (Or.inr rfl) (ty := .int) (by decide) : Fld Z h2 a1 "java/util/ImmutableCollections$ListItr" "size" "I" (.int (0 : Int32))) (D7 115 (Or.inl rfl) (ty := .int) (by decide) : Fld Z h2 a1 "java/util/ImmutableCollections$ListItr" "cursor" "I" (.int (0 : Int32))) (D7 117 (Or.inr rfl) (ty := .boolean) (by decide) : Fld Z h2 a1 "java/util/ImmutableCollections$ListItr" "isListIterator" "Z" (.int (0 : Int32)))) d13_9 rfl rfl rfl rfl rfl rfl (by decide) pd15 rfl rfl rfl (W := 1) (Nat.le_of_ble_eq_true rfl) (by decide) (by decide) (by decide) (by decide) fun v14 h15 q16 => ?_
  obtain ⟨rfl, K17, F18, F19, F20, F21⟩ := q16
  have F22 : Exa Z h15 a1 "java/util/ImmutableCollections$ListItr" := (E6.keep K17)
  exact Go.retA d13_12 rfl rfl rfl (by decide) (by decide) ⟨a1, rfl, Nat.le_of_eq g3.symm, (((Keep.refl h0 []).trans K5 all0).trans K17 (allS (Or.inr (by have := K5.1; have := g3; omega)) all0)), F22, F18, F19, F20⟩
theorem ef13t (mid : MethodId) (a : Addr) : entryFrame mid (List.toArray [.ref a]) 1 = mkF mid 0 #[.val (.ref a)] [] := by first | (simp [entryFrame, mkF, argsToLocals, Value.category]; done) | rfl
def Q13t (Z : State) (a : Addr) (h0 : Heap) (v : Option Value) (h : Heap) : Prop := ∃ it, v = some (.ref it) ∧ h0.size ≤ it ∧ Keep h0 h [] ∧ Exa Z h it "java/util/ImmutableCollections$ListItr" ∧ Fld Z h it "java/util/ImmutableCollections$ListItr" "list" "Ljava/util/List;" (.ref a) ∧ Fld Z h it "java/util/ImmutableCollections$ListItr" "size" "I" (.int (1 : Int32)) ∧ Fld Z h it "java/util/ImmutableCollections$ListItr" "cursor" "I" (.int (0 : Int32))
set_option maxRecDepth 65536 in
set_option maxHeartbeats 40000000 in
theorem c13t (Z : State) (hw : Wd Z tables_1) (h0 : Heap) (a : Addr)  (el : Addr) (ea : Addr) (em : Addr) (top : Addr) (bot : Addr) (lem : Addr) (non : Addr) (hv : Ev0 Z el ea em top bot lem non) (hE : Exa Z h0 a "java/util/ImmutableCollections$List12") (hF1 : Fld Z h0 a "java/util/ImmutableCollections$List12" "e1" "Ljava/lang/Object;" (.ref em)) : Con Z B13 (List.toArray [.ref a]) h0 (Q13t Z a h0) := by
  refine Con.mk hw pn13 (fun mid => ef13t mid a) (Go.old fun hle' => ?_)
  have hle := hle'.1
  obtain ⟨hSel, hSem, hStop, hSbot, hSlem, hSnon, hEel, hFel, hAea, hEtop, hTl, hTe, hTu, hTa, hTm, hEbot, hnbt, hElem, hLn, hLg, hAnon⟩ := id hv
  refine Go.newO 3 rfl 96 97 98 d13_0 rfl rfl rfl (by decide) (by decide) fun h2 a1 g3 z4 K5 E6 D7 => ?_
  refine Go.dup 4 rfl d13_3 rfl ?_
  refine Go.aloadN 5 rfl d13_4 rfl rfl ?_
  refine Go.aloadN 6 rfl d13_5 rfl rfl ?_
  have F8 : Fld Z h2 a "java/util/ImmutableCollections$List12" "e1" "Ljava/lang/Object;" (.ref em) := (hF1.keep K5 nin0)
  have F12 : Exa Z h2 a "java/util/ImmutableCollections$List12" := (hE.keep K5)
  refine Go.callVU 9 rfl (C := B34) (y := ⟨"java/util/ImmutableCollections$AbstractImmutableList", "size", "()I"⟩) (ow := "java/util/AbstractCollection") a [] (rest := [.ref a, .ref a1, .ref a1]) 99 100 101 239 240 199 241 (c34 Z hw h2 a el ea em top bot lem non hv F8) F12 d13_6 rfl rfl rfl rfl rfl rfl rfl (by decide) pd34 rfl rfl rfl (W := 3) (Nat.le_of_ble_eq_true rfl) (by decide) (by decide) (by decide) (by decide) fun v9 h10 q11 => ?_
  obtain ⟨rfl, rfl⟩ := q11
  refine Go.callI 12 rfl (C := B15) a1 [.ref a, .int (1 : Int32)] (rest := [.ref a1]) 105 106 98 108 (c15 Z hw h2 a1 a (1 : Int32) z4 E6 (D7 111 (Or.inr rfl) (ty := (.object "java/util/List")) (by decide) : Fld Z h2 a1 "java/util/ImmutableCollections$ListItr" "list" "Ljava/util/List;" (.null)) (D7 113 (Or.inr rfl) (ty := .int) (by decide) : Fld Z h2 a1 "java/util/ImmutableCollections$ListItr" "size" "I" (.int (0 : Int32))) (D7 115 (Or.inl rfl) (ty := .int) (by decide) : Fld Z h2 a1 "java/util/ImmutableCollections$ListItr" "cursor" "I" (.int (0 : Int32))) (D7 117 (Or.inr rfl) (ty := .boolean) (by decide) : Fld Z h2 a1 "java/util/ImmutableCollections$ListItr" "isListIterator" "Z" (.int (0 : Int32)))) d13_9 rfl rfl rfl rfl rfl rfl (by decide) pd15 rfl rfl rfl (W := 1) (Nat.le_of_ble_eq_true rfl) (by decide) (by decide) (by decide) (by decide) fun v13 h14 q15 => ?_
  obtain ⟨rfl, K16, F17, F18, F19, F20⟩ := q15
  have F21 : Exa Z h14 a1 "java/util/ImmutableCollections$ListItr" := (E6.keep K16)
  exact Go.retA d13_12 rfl rfl rfl (by decide) (by decide) ⟨a1, rfl, Nat.le_of_eq g3.symm, (((Keep.refl h0 []).trans K5 all0).trans K16 (allS (Or.inr (by have := K5.1; have := g3; omega)) all0)), F21, F17, F18, F19⟩
theorem d35_0 : decode jdk_44_method_5_code 0 = .ok (.iload_n 1, 1) := by decide +kernel
theorem d35_1 : decode jdk_44_method_5_code 1 = .ok (.ifCond .ne 8, 3) := by decide +kernel
theorem d35_4 : decode jdk_44_method_5_code 4 = .ok (.aload_n 0, 1) := by decide +kernel
theorem d35_5 : decode jdk_44_method_5_code 5 = .ok (.getfield 13, 3) := by decide +kernel
theorem d35_8 : decode jdk_44_method_5_code 8 = .ok (.areturn, 1) := by decide +kernel
theorem pd35 : parseMethodDescriptor "(I)Ljava/lang/Object;" = some ⟨[.int], some (.object "java/lang/Object")⟩ := by decide +kernel
theorem pn35 : plainName "java/util/ImmutableCollections$List12" = true := by first | (simp [plainName, overriddenIn]; done) | decide +kernel
abbrev B35 : Bd := ((⟨"java/util/ImmutableCollections$List12", "get", "(I)Ljava/lang/Object;"⟩ : MethodName), jdk_44_method_5_code, 2, (some (.object "java/lang/Object")), ({ frames := 0, cells := 0, slots := 0, locals := 0 } : Room), tables_1)
theorem ef35 (mid : MethodId) (a : Addr) : entryFrame mid (List.toArray [.ref a, .int (0 : Int32)]) 2 = mkF mid 0 #[.val (.ref a), .val (.int (0 : Int32))] [] := by first | (simp [entryFrame, mkF, argsToLocals, Value.category]; done) | rfl
def Q35 (x : Addr) (h0 : Heap) (v : Option Value) (h : Heap) : Prop := v = some (.ref x) ∧ h0 = h
set_option maxRecDepth 65536 in
set_option maxHeartbeats 40000000 in
theorem c35 (Z : State) (hw : Wd Z tables_1) (h0 : Heap) (a : Addr) (x : Addr) (hF : Fld Z h0 a "java/util/ImmutableCollections$List12" "e0" "Ljava/lang/Object;" (.ref x)) : Con Z B35 (List.toArray [.ref a, .int (0 : Int32)]) h0 (Q35 x h0) := by
  refine Con.mk hw pn35 (fun mid => ef35 mid a) (Go.old fun hle' => ?_)
  have hle := hle'.1
  refine Go.iloadN 1 rfl d35_0 rfl ?_
  refine Go.if_ne 9 4 d35_1 (by decide) rfl rfl (fun (b1 : ¬ (0 : Int32) = 0) => ?_) (fun (b1 : (0 : Int32) = 0) => ?_)
  · exact absurd rfl b1
  · refine Go.aloadN 5 rfl d35_4 rfl rfl ?_
    refine Go.getF 8 rfl (v := .ref x) 226 d35_5 rfl hF ?_
    exact Go.retA d35_8 rfl rfl rfl (by decide) (by decide) ⟨rfl, rfl⟩
theorem d46_0 : decode jdk_53_method_4_code 0 = .ok (.aload_n 0, 1) := by decide +kernel
theorem d46_1 : decode jdk_53_method_4_code 1 = .ok (.getfield 17, 3) := by decide +kernel
theorem d46_4 : decode jdk_53_method_4_code 4 = .ok (.istore_n 1, 1) := by decide +kernel
theorem d46_5 : decode jdk_53_method_4_code 5 = .ok (.aload_n 0, 1) := by decide +kernel
theorem d46_6 : decode jdk_53_method_4_code 6 = .ok (.getfield 7, 3) := by decide +kernel
theorem d46_9 : decode jdk_53_method_4_code 9 = .ok (.iload_n 1, 1) := by decide +kernel
theorem d46_10 : decode jdk_53_method_4_code 10 = .ok (.invokeinterface 24 2, 5) := by decide +kernel
theorem d46_15 : decode jdk_53_method_4_code 15 = .ok (.astore_n 2, 1) := by decide +kernel
theorem d46_16 : decode jdk_53_method_4_code 16 = .ok (.aload_n 0, 1) := by decide +kernel
theorem d46_17 : decode jdk_53_method_4_code 17 = .ok (.iload_n 1, 1) := by decide +kernel
theorem d46_18 : decode jdk_53_method_4_code 18 = .ok (.iconst 1, 1) := by decide +kernel
theorem d46_19 : decode jdk_53_method_4_code 19 = .ok (.iadd, 1) := by decide +kernel
theorem d46_20 : decode jdk_53_method_4_code 20 = .ok (.putfield 17, 3) := by decide +kernel
theorem d46_23 : decode jdk_53_method_4_code 23 = .ok (.aload_n 2, 1) := by decide +kernel
theorem d46_24 : decode jdk_53_method_4_code 24 = .ok (.areturn, 1) := by decide +kernel
theorem pd46 : parseMethodDescriptor "()Ljava/lang/Object;" = some ⟨[], some (.object "java/lang/Object")⟩ := by decide +kernel
theorem pn46 : plainName "java/util/ImmutableCollections$ListItr" = true := by first | (simp [plainName, overriddenIn]; done) | decide +kernel
abbrev B46 : Bd := ((⟨"java/util/ImmutableCollections$ListItr", "next", "()Ljava/lang/Object;"⟩ : MethodName), jdk_53_method_4_code, 3, (some (.object "java/lang/Object")), ({ frames := 1, cells := 0, slots := 0, locals := 13 } : Room), tables_1)
theorem ef46 (mid : MethodId) (a : Addr) : entryFrame mid (List.toArray [.ref a]) 3 = mkF mid 0 #[.val (.ref a), .unset, .unset] [] := by first | (simp [entryFrame, mkF, argsToLocals, Value.category]; done) | rfl
def Q46 (Z : State) (a : Addr) (x : Addr) (sz : Int32) (h0 : Heap) (v : Option Value) (h : Heap) : Prop := v = some (.ref x) ∧ Keep h0 h [a] ∧ Fld Z h a "java/util/ImmutableCollections$ListItr" "size" "I" (.int sz) ∧ Fld Z h a "java/util/ImmutableCollections$ListItr" "cursor" "I" (.int (1 : Int32))
set_option maxRecDepth 65536 in
set_option maxHeartbeats 40000000 in
theorem c46 (Z : State) (hw : Wd Z tables_1) (h0 : Heap) (a : Addr) (x : Addr) (sz : Int32) (l : Addr) (hge : Z.heap.size ≤ a) (hE : Exa Z h0 a "java/util/ImmutableCollections$ListItr") (hF_list : Fld Z h0 a "java/util/ImmutableCollections$ListItr" "list" "Ljava/util/List;" (.ref l)) (hF_size : Fld Z h0 a "java/util/ImmutableCollections$ListItr" "size" "I" (.int sz)) (hF_cursor : Fld Z h0 a "java/util/ImmutableCollections$ListItr" "cursor" "I" (.int (0 : Int32))) (hL : Exa Z h0 l "java/util/ImmutableCollections$List12") (hX : Fld Z h0 l "java/util/ImmutableCollections$List12" "e0" "Ljava/lang/Object;" (.ref x)) : ConW [(0, 24, 25, 30)] Z B46 (List.toArray [.ref a]) h0 (Q46 Z a x sz h0) := by
  refine ConW.mk hw pn46 (fun mid => ef46 mid a) (Go.old fun hle' => ?_)
  have hle := hle'.1
  refine Go.aloadN 1 rfl d46_0 rfl rfl ?_
  refine Go.getF 4 rfl (v := .int (0 : Int32)) 114 d46_1 rfl hF_cursor ?_
  refine Go.istoreN 5 rfl d46_4 (Ls' := #[.val (.ref a), .val (.int (0 : Int32)), .unset]) rfl ?_
  refine Go.aloadN 6 rfl d46_5 rfl rfl ?_
  refine Go.getF 9 rfl (v := .ref l) 110 d46_6 rfl hF_list ?_
  refine Go.iloadN 10 rfl d46_9 rfl ?_
  refine Go.callF 15 rfl (C := B35) (y := ⟨"java/util/List", "get", "(I)Ljava/lang/Object;"⟩) l [.int (0 : Int32)] (rest := []) 250 251 252 253 254 255 256 235 199 257 (c35 Z hw h0 l x hX) hL d46_10 rfl rfl rfl rfl rfl rfl rfl rfl rfl rfl rfl (by decide) pd35 rfl rfl rfl (W := 0) (Nat.le_of_ble_eq_true rfl) (by decide) (by decide) (by decide) (by decide) fun v1 h2 q3 => ?_
  obtain ⟨rfl, rfl⟩ := q3
  refine Go.astoreN 16 rfl d46_15 rfl (Ls' := #[.val (.ref a), .val (.int (0 : Int32)), .val (.ref x)]) rfl ?_
  refine Go.aloadN 17 rfl d46_16 rfl rfl ?_
  refine Go.iloadN 18 rfl d46_17 rfl ?_
  refine Go.iconst 19 rfl (1 : Int32) d46_18 rfl ?_
  refine Go.iadd 20 rfl d46_19 ?_
  refine Go.putF 23 rfl (v' := .int ((0 : Int32) + (1 : Int32))) (ty := .int) 114 115 97 d46_20 rfl hF_cursor hE (Or.inl rfl) rfl (by decide) rfl rfl hge fun h4 K5 W6 F7 => ?_
  refine Go.aloadN 24 rfl d46_23 rfl rfl ?_
  have F8 : Fld Z h4 a "java/util/ImmutableCollections$ListItr" "size" "I" (.int sz) := (Fld.oth hw hF_size W6 113 115 (Or.inr rfl) (Or.inl rfl) (by decide) rfl rfl)
  exact Go.retA d46_24 rfl rfl rfl (by decide) (by decide) ⟨rfl, ((Keep.refl h0 [a]).trans K5 (by simp)), F8, F7⟩
theorem d11_0 : decode prog_3_method_2_code 0 = .ok (.aload_n 0, 1) := by decide +kernel
theorem d11_1 : decode prog_3_method_2_code 1 = .ok (.invokespecial 13, 3) := by decide +kernel
theorem d11_4 : decode prog_3_method_2_code 4 = .ok (.aload_n 0, 1) := by decide +kernel
theorem d11_5 : decode prog_3_method_2_code 5 = .ok (.aload_n 1, 1) := by decide +kernel
theorem d11_6 : decode prog_3_method_2_code 6 = .ok (.putfield 18, 3) := by decide +kernel
theorem d11_9 : decode prog_3_method_2_code 9 = .ok (.aload_n 0, 1) := by decide +kernel
theorem d11_10 : decode prog_3_method_2_code 10 = .ok (.aload_n 2, 1) := by decide +kernel
theorem d11_11 : decode prog_3_method_2_code 11 = .ok (.putfield 22, 3) := by decide +kernel
theorem d11_14 : decode prog_3_method_2_code 14 = .ok (.aload_n 0, 1) := by decide +kernel
theorem d11_15 : decode prog_3_method_2_code 15 = .ok (.aload_n 3, 1) := by decide +kernel
theorem d11_16 : decode prog_3_method_2_code 16 = .ok (.putfield 26, 3) := by decide +kernel
theorem d11_19 : decode prog_3_method_2_code 19 = .ok (.aload_n 0, 1) := by decide +kernel
theorem d11_20 : decode prog_3_method_2_code 20 = .ok (.aload 4, 2) := by decide +kernel
theorem d11_22 : decode prog_3_method_2_code 22 = .ok (.putfield 29, 3) := by decide +kernel
theorem d11_25 : decode prog_3_method_2_code 25 = .ok (.aload_n 0, 1) := by decide +kernel
theorem d11_26 : decode prog_3_method_2_code 26 = .ok (.aload 5, 2) := by decide +kernel
theorem d11_28 : decode prog_3_method_2_code 28 = .ok (.putfield 32, 3) := by decide +kernel
theorem d11_31 : decode prog_3_method_2_code 31 = .ok (.aload_n 2, 1) := by decide +kernel
theorem d11_32 : decode prog_3_method_2_code 32 = .ok (.invokeinterface 35 1, 5) := by decide +kernel
theorem d11_37 : decode prog_3_method_2_code 37 = .ok (.ifCond .ne 7, 3) := by decide +kernel
theorem d11_40 : decode prog_3_method_2_code 40 = .ok (.iconst 1, 1) := by decide +kernel
theorem d11_41 : decode prog_3_method_2_code 41 = .ok (.goto 4, 3) := by decide +kernel
theorem d11_44 : decode prog_3_method_2_code 44 = .ok (.iconst 0, 1) := by decide +kernel
theorem d11_45 : decode prog_3_method_2_code 45 = .ok (.istore 6, 2) := by decide +kernel
theorem d11_47 : decode prog_3_method_2_code 47 = .ok (.aload 4, 2) := by decide +kernel
theorem d11_49 : decode prog_3_method_2_code 49 = .ok (.invokeinterface 35 1, 5) := by decide +kernel
theorem d11_54 : decode prog_3_method_2_code 54 = .ok (.ifCond .eq 13, 3) := by decide +kernel
theorem d11_57 : decode prog_3_method_2_code 57 = .ok (.aload 5, 2) := by decide +kernel
theorem d11_59 : decode prog_3_method_2_code 59 = .ok (.invokeinterface 35 1, 5) := by decide +kernel
theorem d11_64 : decode prog_3_method_2_code 64 = .ok (.ifCond .ne 7, 3) := by decide +kernel
theorem d11_67 : decode prog_3_method_2_code 67 = .ok (.iconst 1, 1) := by decide +kernel
theorem d11_68 : decode prog_3_method_2_code 68 = .ok (.goto 4, 3) := by decide +kernel
theorem d11_71 : decode prog_3_method_2_code 71 = .ok (.iconst 0, 1) := by decide +kernel
theorem d11_72 : decode prog_3_method_2_code 72 = .ok (.istore 7, 2) := by decide +kernel
theorem d11_74 : decode prog_3_method_2_code 74 = .ok (.aload_n 2, 1) := by decide +kernel
theorem d11_75 : decode prog_3_method_2_code 75 = .ok (.invokeinterface 39 1, 5) := by decide +kernel
theorem d11_80 : decode prog_3_method_2_code 80 = .ok (.astore 8, 2) := by decide +kernel
theorem d11_82 : decode prog_3_method_2_code 82 = .ok (.aload 8, 2) := by decide +kernel
theorem d11_84 : decode prog_3_method_2_code 84 = .ok (.invokeinterface 43 1, 5) := by decide +kernel
theorem d11_89 : decode prog_3_method_2_code 89 = .ok (.ifCond .eq 31, 3) := by decide +kernel
theorem d11_92 : decode prog_3_method_2_code 92 = .ok (.aload 8, 2) := by decide +kernel
theorem d11_94 : decode prog_3_method_2_code 94 = .ok (.invokeinterface 48 1, 5) := by decide +kernel
theorem d11_99 : decode prog_3_method_2_code 99 = .ok (.checkcast 52, 3) := by decide +kernel
theorem d11_102 : decode prog_3_method_2_code 102 = .ok (.astore 9, 2) := by decide +kernel
theorem d11_104 : decode prog_3_method_2_code 104 = .ok (.iload 7, 2) := by decide +kernel
theorem d11_106 : decode prog_3_method_2_code 106 = .ok (.aload 9, 2) := by decide +kernel
theorem d11_108 : decode prog_3_method_2_code 108 = .ok (.invokevirtual 54, 3) := by decide +kernel
theorem d11_111 : decode prog_3_method_2_code 111 = .ok (.getfield 58, 3) := by decide +kernel
theorem d11_114 : decode prog_3_method_2_code 114 = .ok (.ior, 1) := by decide +kernel
theorem d11_115 : decode prog_3_method_2_code 115 = .ok (.istore 7, 2) := by decide +kernel
theorem d11_117 : decode prog_3_method_2_code 117 = .ok (.goto (-35), 3) := by decide +kernel
theorem d11_120 : decode prog_3_method_2_code 120 = .ok (.aload_n 3, 1) := by decide +kernel
theorem d11_121 : decode prog_3_method_2_code 121 = .ok (.invokeinterface 39 1, 5) := by decide +kernel
theorem d11_126 : decode prog_3_method_2_code 126 = .ok (.astore 8, 2) := by decide +kernel
theorem d11_128 : decode prog_3_method_2_code 128 = .ok (.aload 8, 2) := by decide +kernel
theorem d11_130 : decode prog_3_method_2_code 130 = .ok (.invokeinterface 43 1, 5) := by decide +kernel
theorem d11_135 : decode prog_3_method_2_code 135 = .ok (.ifCond .eq 44, 3) := by decide +kernel
theorem d11_138 : decode prog_3_method_2_code 138 = .ok (.aload 8, 2) := by decide +kernel
theorem d11_140 : decode prog_3_method_2_code 140 = .ok (.invokeinterface 48 1, 5) := by decide +kernel
theorem d11_145 : decode prog_3_method_2_code 145 = .ok (.checkcast 62, 3) := by decide +kernel
theorem d11_148 : decode prog_3_method_2_code 148 = .ok (.astore 9, 2) := by decide +kernel
theorem d11_150 : decode prog_3_method_2_code 150 = .ok (.iload 6, 2) := by decide +kernel
theorem d11_152 : decode prog_3_method_2_code 152 = .ok (.aload 9, 2) := by decide +kernel
theorem d11_154 : decode prog_3_method_2_code 154 = .ok (.invokevirtual 64, 3) := by decide +kernel
theorem d11_157 : decode prog_3_method_2_code 157 = .ok (.getfield 65, 3) := by decide +kernel
theorem d11_160 : decode prog_3_method_2_code 160 = .ok (.ior, 1) := by decide +kernel
theorem d11_161 : decode prog_3_method_2_code 161 = .ok (.istore 6, 2) := by decide +kernel
theorem d11_163 : decode prog_3_method_2_code 163 = .ok (.iload 7, 2) := by decide +kernel
theorem d11_165 : decode prog_3_method_2_code 165 = .ok (.aload 9, 2) := by decide +kernel
theorem d11_167 : decode prog_3_method_2_code 167 = .ok (.invokevirtual 64, 3) := by decide +kernel
theorem d11_170 : decode prog_3_method_2_code 170 = .ok (.getfield 58, 3) := by decide +kernel
theorem d11_173 : decode prog_3_method_2_code 173 = .ok (.ior, 1) := by decide +kernel
theorem d11_174 : decode prog_3_method_2_code 174 = .ok (.istore 7, 2) := by decide +kernel
theorem d11_176 : decode prog_3_method_2_code 176 = .ok (.goto (-48), 3) := by decide +kernel
theorem d11_179 : decode prog_3_method_2_code 179 = .ok (.aload_n 0, 1) := by decide +kernel
theorem d11_180 : decode prog_3_method_2_code 180 = .ok (.iload 6, 2) := by decide +kernel
theorem d11_182 : decode prog_3_method_2_code 182 = .ok (.putfield 65, 3) := by decide +kernel
theorem d11_185 : decode prog_3_method_2_code 185 = .ok (.aload_n 0, 1) := by decide +kernel
theorem d11_186 : decode prog_3_method_2_code 186 = .ok (.iload 7, 2) := by decide +kernel
theorem d11_188 : decode prog_3_method_2_code 188 = .ok (.putfield 58, 3) := by decide +kernel
theorem d11_191 : decode prog_3_method_2_code 191 = .ok (.return_, 1) := by decide +kernel
theorem pd11 : parseMethodDescriptor "(Lcom/example/subsumer/subsumer/core/Label;Ljava/util/List;Ljava/util/List;Ljava/util/List;Ljava/util/List;)V" = some ⟨[(.object "com/example/subsumer/subsumer/core/Label"), (.object "java/util/List"), (.object "java/util/List"), (.object "java/util/List"), (.object "java/util/List")], none⟩ := by decide +kernel
theorem pn11 : plainName "com/example/subsumer/subsumer/core/Description" = true := by first | (simp [plainName, overriddenIn]; done) | decide +kernel
abbrev B11 : Bd := ((⟨"com/example/subsumer/subsumer/core/Description", "<init>", "(Lcom/example/subsumer/subsumer/core/Label;Ljava/util/List;Ljava/util/List;Ljava/util/List;Ljava/util/List;)V"⟩ : MethodName), prog_3_method_2_code, 10, none, ({ frames := 3, cells := 2, slots := 8, locals := 39 } : Room), tables_1)
theorem ef11 (mid : MethodId) (a : Addr) (lb : Addr) (ex : Addr) (un : Addr) (al : Addr) (am : Addr) : entryFrame mid (List.toArray [.ref a, .ref lb, .ref ex, .ref un, .ref al, .ref am]) 10 = mkF mid 0 #[.val (.ref a), .val (.ref lb), .val (.ref ex), .val (.ref un), .val (.ref al), .val (.ref am), .unset, .unset, .unset, .unset] [] := by first | (simp [entryFrame, mkF, argsToLocals, Value.category]; done) | rfl
def Q11 (Z : State) (a : Addr) (lb : Addr) (ex : Addr) (un : Addr) (al : Addr) (am : Addr) (h0 : Heap) (v : Option Value) (h : Heap) : Prop := v = none ∧ Keep h0 h [a] ∧ Fld Z h a "com/example/subsumer/subsumer/core/Description" "label" "Lcom/example/subsumer/subsumer/core/Label;" (.ref lb) ∧ Fld Z h a "com/example/subsumer/subsumer/core/Description" "existentials" "Ljava/util/List;" (.ref ex) ∧ Fld Z h a "com/example/subsumer/subsumer/core/Description" "universals" "Ljava/util/List;" (.ref un) ∧ Fld Z h a "com/example/subsumer/subsumer/core/Description" "atLeast" "Ljava/util/List;" (.ref al) ∧ Fld Z h a "com/example/subsumer/subsumer/core/Description" "atMost" "Ljava/util/List;" (.ref am) ∧ ∃ q1 q2 : Int32, Fld Z h a "com/example/subsumer/subsumer/core/Description" "existentialInside" "Z" (.int q1) ∧ Fld Z h a "com/example/subsumer/subsumer/core/Description" "numberInside" "Z" (.int q2)
set_option maxRecDepth 65536 in
set_option maxHeartbeats 40000000 in
theorem c11 (Z : State) (hw : Wd Z tables_1) (h0 : Heap) (a : Addr) (lb : Addr) (ex : Addr) (un : Addr) (al : Addr) (am : Addr)  (el : Addr) (ea : Addr) (em : Addr) (top : Addr) (bot : Addr) (lem : Addr) (non : Addr) (hv : Ev0 Z el ea em top bot lem non) (hge : Z.heap.size ≤ a) (hE : Exa Z h0 a "com/example/subsumer/subsumer/core/Description") (hF_label : Fld Z h0 a "com/example/subsumer/subsumer/core/Description" "label" "Lcom/example/subsumer/subsumer/core/Label;" (.null)) (hF_existentials : Fld Z h0 a "com/example/subsumer/subsumer/core/Description" "existentials" "Ljava/util/List;" (.null)) (hF_universals : Fld Z h0 a "com/example/subsumer/subsumer/core/Description" "universals" "Ljava/util/List;" (.null)) (hF_atLeast : Fld Z h0 a "com/example/subsumer/subsumer/core/Description" "atLeast" "Ljava/util/List;" (.null)) (hF_atMost : Fld Z h0 a "com/example/subsumer/subsumer/core/Description" "atMost" "Ljava/util/List;" (.null)) (hF_existentialInside : Fld Z h0 a "com/example/subsumer/subsumer/core/Description" "existentialInside" "Z" (.int (0 : Int32))) (hF_numberInside : Fld Z h0 a "com/example/subsumer/subsumer/core/Description" "numberInside" "Z" (.int (0 : Int32))) (oex : Option Addr) (hEx : LV Z h0 el em ex oex) (oun : Option Addr) (hUn : LV Z h0 el em un oun) (oal : Option Addr) (hAl : LV Z h0 el em al oal) (oam : Option Addr) (hAm : LV Z h0 el em am oam) (hEx' : ∀ x, oex = some x → EV Z h0 "com/example/subsumer/subsumer/core/Existential" x) (hUn' : ∀ x, oun = some x → EV Z h0 "com/example/subsumer/subsumer/core/Universal" x) : Con Z B11 (List.toArray [.ref a, .ref lb, .ref ex, .ref un, .ref al, .ref am]) h0 (Q11 Z a lb ex un al am h0) := by
  refine Con.mk hw pn11 (fun mid => ef11 mid a lb ex un al am) (Go.old fun hle' => ?_)
  have hle := hle'.1
  obtain ⟨hSel, hSem, hStop, hSbot, hSlem, hSnon, hEel, hFel, hAea, hEtop, hTl, hTe, hTu, hTa, hTm, hEbot, hnbt, hElem, hLn, hLg, hAnon⟩ := id hv
  refine Go.aloadN 1 rfl d11_0 rfl rfl ?_
  refine Go.initO 4 rfl 64 20 21 d11_1 rfl rfl rfl rfl (by decide) (W := 0) (Nat.le_of_ble_eq_true rfl) (by decide) ?_
  refine Go.aloadN 5 rfl d11_4 rfl rfl ?_
  refine Go.aloadN 6 rfl d11_5 rfl rfl ?_
  refine Go.putF 9 rfl (v' := .ref lb) (ty := (.object "com/example/subsumer/subsumer/core/Label")) 65 66 36 d11_6 rfl hF_label hE (Or.inr ⟨rfl, rfl, rfl⟩) rfl (by decide) rfl rfl hge fun h1 K2 W3 F4 => ?_
  refine Go.aloadN 10 rfl d11_9 rfl rfl ?_
  refine Go.aloadN 11 rfl d11_10 rfl rfl ?_
  have F5 : Fld Z h1 a "com/example/subsumer/subsumer/core/Description" "existentials" "Ljava/util/List;" (.null) := (Fld.oth hw hF_existentials W3 68 66 (Or.inr rfl) (Or.inr rfl) (by decide) rfl rfl)
  have F6 : Exa Z h1 a "com/example/subsumer/subsumer/core/Description" := (hE.keep K2)
  refine Go.putF 14 rfl (v' := .ref ex) (ty := (.object "java/util/List")) 67 68 36 d11_11 rfl F5 F6 (Or.inr ⟨rfl, rfl, rfl⟩) rfl (by decide) rfl rfl hge fun h7 K8 W9 F10 => ?_
  refine Go.aloadN 15 rfl d11_14 rfl rfl ?_
  refine Go.aloadN 16 rfl d11_15 rfl rfl ?_
  have F11 : Fld Z h7 a "com/example/subsumer/subsumer/core/Description" "universals" "Ljava/util/List;" (.null) := (Fld.oth hw (Fld.oth hw hF_universals W3 70 66 (Or.inr rfl) (Or.inr rfl) (by decide) rfl rfl) W9 70 68 (Or.inr rfl) (Or.inr rfl) (by decide) rfl rfl)
  have F12 : Exa Z h7 a "com/example/subsumer/subsumer/core/Description" := (F6.keep K8)
  refine Go.putF 19 rfl (v' := .ref un) (ty := (.object "java/util/List")) 69 70 36 d11_16 rfl F11 F12 (Or.inr ⟨rfl, rfl, rfl⟩) rfl (by decide) rfl rfl hge fun h13 K14 W15 F16 => ?_
  refine Go.aloadN 20 rfl d11_19 rfl rfl ?_
  refine Go.aload 22 rfl d11_20 rfl rfl ?_
  have F17 : Fld Z h13 a "com/example/subsumer/subsumer/core/Description" "atLeast" "Ljava/util/List;" (.null) := (Fld.oth hw (Fld.oth hw (Fld.oth hw hF_atLeast W3 72 66 (Or.inr rfl) (Or.inr rfl) (by decide) rfl rfl) W9 72 68 (Or.inr rfl) (Or.inr rfl) (by decide) rfl rfl) W15 72 70 (Or.inr rfl) (Or.inr rfl) (by decide) rfl rfl)
  have F18 : Exa Z h13 a "com/example/subsumer/subsumer/core/Description" := (F12.keep K14)
  refine Go.putF 25 rfl (v' := .ref al) (ty := (.object "java/util/List")) 71 72 36 d11_22 rfl F17 F18 (Or.inr ⟨rfl, rfl, rfl⟩) rfl (by decide) rfl rfl hge fun h19 K20 W21 F22 => ?_
  refine Go.aloadN 26 rfl d11_25 rfl rfl ?_
  refine Go.aload 28 rfl d11_26 rfl rfl ?_
  have F23 : Fld Z h19 a "com/example/subsumer/subsumer/core/Description" "atMost" "Ljava/util/List;" (.null) := (Fld.oth hw (Fld.oth hw (Fld.oth hw (Fld.oth hw hF_atMost W3 74 66 (Or.inr rfl) (Or.inr rfl) (by decide) rfl rfl) W9 74 68 (Or.inr rfl) (Or.inr rfl) (by decide) rfl rfl) W15 74 70 (Or.inr rfl) (Or.inr rfl) (by decide) rfl rfl) W21 74 72 (Or.inr rfl) (Or.inr rfl) (by decide) rfl rfl)
  have F24 : Exa Z h19 a "com/example/subsumer/subsumer/core/Description" := (F18.keep K20)
  refine Go.putF 31 rfl (v' := .ref am) (ty := (.object "java/util/List")) 73 74 36 d11_28 rfl F23 F24 (Or.inr ⟨rfl, rfl, rfl⟩) rfl (by decide) rfl rfl hge fun h25 K26 W27 F28 => ?_
  have K29 : Keep h0 h25 [a] := ((((((Keep.refl h0 [a]).trans K2 (by simp)).trans K8 (by simp)).trans K14 (by simp)).trans K20 (by simp)).trans K26 (by simp))
  have Vex : LV Z h25 el em ex oex := hEx.keep K29 (own_lne hv hEx hE hge)
  have Vun : LV Z h25 el em un oun := hUn.keep K29 (own_lne hv hUn hE hge)
  have Val : LV Z h25 el em al oal := hAl.keep K29 (own_lne hv hAl hE hge)
  have Vam : LV Z h25 el em am oam := hAm.keep K29 (own_lne hv hAm hE hge)
  have F30 : Fld Z h25 a "com/example/subsumer/subsumer/core/Description" "numberInside" "Z" (.int (0 : Int32)) := (Fld.oth hw (Fld.oth hw (Fld.oth hw (Fld.oth hw (Fld.oth hw hF_numberInside W3 130 66 (Or.inr rfl) (Or.inr rfl) (by decide) rfl rfl) W9 130 68 (Or.inr rfl) (Or.inr rfl) (by decide) rfl rfl) W15 130 70 (Or.inr rfl) (Or.inr rfl) (by decide) rfl rfl) W21 130 72 (Or.inr rfl) (Or.inr rfl) (by decide) rfl rfl) W27 130 74 (Or.inr rfl) (Or.inr rfl) (by decide) rfl rfl)
  have F31 : Fld Z h25 a "com/example/subsumer/subsumer/core/Description" "existentialInside" "Z" (.int (0 : Int32)) := (Fld.oth hw (Fld.oth hw (Fld.oth hw (Fld.oth hw (Fld.oth hw hF_existentialInside W3 128 66 (Or.inr rfl) (Or.inr rfl) (by decide) rfl rfl) W9 128 68 (Or.inr rfl) (Or.inr rfl) (by decide) rfl rfl) W15 128 70 (Or.inr rfl) (Or.inr rfl) (by decide) rfl rfl) W21 128 72 (Or.inr rfl) (Or.inr rfl) (by decide) rfl rfl) W27 128 74 (Or.inr rfl) (Or.inr rfl) (by decide) rfl rfl)
  have Wex : ∀ x, oex = some x → EV Z h25 "com/example/subsumer/subsumer/core/Existential" x := fun x hx => (hEx' x hx).keep1 K29 (by decide) hE (fun _ _ F => own_fk F K29 hF_numberInside F30) (fun _ _ F => own_fk F K29 hF_existentialInside F31)
  have Wun : ∀ x, oun = some x → EV Z h25 "com/example/subsumer/subsumer/core/Universal" x := fun x hx => (hUn' x hx).keep1 K29 (by decide) hE (fun _ _ F => own_fk F K29 hF_numberInside F30) (fun _ _ F => own_fk F K29 hF_existentialInside F31)
  refine Go.aloadN 32 rfl d11_31 rfl rfl ?_
  refine Go.joinI (pcJ := 37) (LsJ := #[.val (.ref a), .val (.ref lb), .val (.ref ex), .val (.ref un), .val (.ref al), .val (.ref am), .unset, .unset, .unset, .unset]) (stJ := []) (fun v => v = if oex = none then 1 else 0) (fun J => ?_) (fun e32 he33 => ?_)
  · refine Go.old fun x34 => ?_
    rcases Vex with ⟨ho, hl⟩ | ⟨y, ho, E, F0, F1⟩
    · refine Go.callF 37 rfl (C := B12) (y := ⟨"java/util/List", "isEmpty", "()Z"⟩) ex [] (rest := []) 75 76 77 78 79 80 81 82 83 84 (c12 Z hw h25 ex ea (hl ▸ hFel.ext x34) (hAea.ext x34)) (hl ▸ hEel.ext x34) d11_32 rfl rfl rfl rfl rfl rfl rfl rfl rfl rfl rfl (by decide) pd12 rfl rfl rfl (W := 0) (Nat.le_of_ble_eq_true rfl) (by decide) (by decide) (by decide) (by decide) fun v35 h36 q37 => ?_
      obtain ⟨rfl, rfl⟩ := q37
      exact J _ (by simp [ho])
    · refine Go.callF 37 rfl (C := B33) (y := ⟨"java/util/List", "isEmpty", "()Z"⟩) ex [] (rest := []) 75 76 77 231 232 233 234 235 199 236 (c33 Z hw h25 ex) E d11_32 rfl rfl rfl rfl rfl rfl rfl rfl rfl rfl rfl (by decide) pd33 rfl rfl rfl (W := 0) (Nat.le_of_ble_eq_true rfl) (by decide) (by decide) (by decide) (by decide) fun v38 h39 q40 => ?_
      obtain ⟨rfl, rfl⟩ := q40
      exact J _ (by simp [ho])
  · refine Go.joinI (pcJ := 45) (LsJ := #[.val (.ref a), .val (.ref lb), .val (.ref ex), .val (.ref un), .val (.ref al), .val (.ref am), .unset, .unset, .unset, .unset]) (stJ := []) (fun v => True) (fun J => ?_) (fun v6 _h6 => ?_)
    · refine Go.if_ne 44 40 d11_37 (by decide) rfl rfl (fun (b41 : ¬ e32 = 0) => ?_) (fun (b41 : e32 = 0) => ?_)
      · refine Go.iconst 45 rfl (0 : Int32) d11_44 rfl ?_
        exact J _ trivial
      · refine Go.iconst 41 rfl (1 : Int32) d11_40 rfl ?_
        refine Go.goto 45 d11_41 (by decide) (by decide) ?_
        exact J _ trivial
    · refine Go.istore 47 rfl d11_45 (Ls' := #[.val (.ref a), .val (.ref lb), .val (.ref ex), .val (.ref un), .val (.ref al), .val (.ref am), .val (.int v6), .unset, .unset, .unset]) rfl ?_
      refine Go.aload 49 rfl d11_47 rfl rfl ?_
      refine Go.joinI (pcJ := 54) (LsJ := #[.val (.ref a), .val (.ref lb), .val (.ref ex), .val (.ref un), .val (.ref al), .val (.ref am), .val (.int v6), .unset, .unset, .unset]) (stJ := []) (fun v => v = if oal = none then 1 else 0) (fun J => ?_) (fun e42 he43 => ?_)
      · refine Go.old fun x44 => ?_
        rcases Val with ⟨ho, hl⟩ | ⟨y, ho, E, F0, F1⟩
        · refine Go.callF 54 rfl (C := B12) (y := ⟨"java/util/List", "isEmpty", "()Z"⟩) al [] (rest := []) 75 76 77 78 79 80 81 82 83 84 (c12 Z hw h25 al ea (hl ▸ hFel.ext x44) (hAea.ext x44)) (hl ▸ hEel.ext x44) d11_49 rfl rfl rfl rfl rfl rfl rfl rfl rfl rfl rfl (by decide) pd12 rfl rfl rfl (W := 0) (Nat.le_of_ble_eq_true rfl) (by decide) (by decide) (by decide) (by decide) fun v45 h46 q47 => ?_
          obtain ⟨rfl, rfl⟩ := q47
          exact J _ (by simp [ho])
        · refine Go.callF 54 rfl (C := B33) (y := ⟨"java/util/List", "isEmpty", "()Z"⟩) al [] (rest := []) 75 76 77 231 232 233 234 235 199 236 (c33 Z hw h25 al) E d11_49 rfl rfl rfl rfl rfl rfl rfl rfl rfl rfl rfl (by decide) pd33 rfl rfl rfl (W := 0) (Nat.le_of_ble_eq_true rfl) (by decide) (by decide) (by decide) (by decide) fun v48 h49 q50 => ?_
          obtain ⟨rfl, rfl⟩ := q50
          exact J _ (by simp [ho])
      · refine Go.joinI (pcJ := 72) (LsJ := #[.val (.ref a), .val (.ref lb), .val (.ref ex), .val (.ref un), .val (.ref al), .val (.ref am), .val (.int v6), .unset, .unset, .unset]) (stJ := []) (fun v => True) (fun J => ?_) (fun v7 _h7 => ?_)
        · refine Go.if_eq 67 57 d11_54 (by decide) rfl rfl (fun (b51 : e42 = 0) => ?_) (fun (b51 : ¬ e42 = 0) => ?_)
          · refine Go.iconst 68 rfl (1 : Int32) d11_67 rfl ?_
            refine Go.goto 72 d11_68 (by decide) (by decide) ?_
            exact J _ trivial
          · refine Go.aload 59 rfl d11_57 rfl rfl ?_
            refine Go.joinI (pcJ := 64) (LsJ := #[.val (.ref a), .val (.ref lb), .val (.ref ex), .val (.ref un), .val (.ref al), .val (.ref am), .val (.int v6), .unset, .unset, .unset]) (stJ := []) (fun v => v = if oam = none then 1 else 0) (fun J => ?_) (fun e52 he53 => ?_)
            · refine Go.old fun x54 => ?_
              rcases Vam with ⟨ho, hl⟩ | ⟨y, ho, E, F0, F1⟩
              · refine Go.callF 64 rfl (C := B12) (y := ⟨"java/util/List", "isEmpty", "()Z"⟩) am [] (rest := []) 75 76 77 78 79 80 81 82 83 84 (c12 Z hw h25 am ea (hl ▸ hFel.ext x54) (hAea.ext x54)) (hl ▸ hEel.ext x54) d11_59 rfl rfl rfl rfl rfl rfl rfl rfl rfl rfl rfl (by decide) pd12 rfl rfl rfl (W := 0) (Nat.le_of_ble_eq_true rfl) (by decide) (by decide) (by decide) (by decide) fun v55 h56 q57 => ?_
                obtain ⟨rfl, rfl⟩ := q57
                exact J _ (by simp [ho])
              · refine Go.callF 64 rfl (C := B33) (y := ⟨"java/util/List", "isEmpty", "()Z"⟩) am [] (rest := []) 75 76 77 231 232 233 234 235 199 236 (c33 Z hw h25 am) E d11_59 rfl rfl rfl rfl rfl rfl rfl rfl rfl rfl rfl (by decide) pd33 rfl rfl rfl (W := 0) (Nat.le_of_ble_eq_true rfl) (by decide) (by decide) (by decide) (by decide) fun v58 h59 q60 => ?_
                obtain ⟨rfl, rfl⟩ := q60
                exact J _ (by simp [ho])
            · refine Go.if_ne 71 67 d11_64 (by decide) rfl rfl (fun (b61 : ¬ e52 = 0) => ?_) (fun (b61 : e52 = 0) => ?_)
              · refine Go.iconst 72 rfl (0 : Int32) d11_71 rfl ?_
                exact J _ trivial
              · refine Go.iconst 68 rfl (1 : Int32) d11_67 rfl ?_
                refine Go.goto 72 d11_68 (by decide) (by decide) ?_
                exact J _ trivial
        · refine Go.istore 74 rfl d11_72 (Ls' := #[.val (.ref a), .val (.ref lb), .val (.ref ex), .val (.ref un), .val (.ref al), .val (.ref am), .val (.int v6), .val (.int v7), .unset, .unset]) rfl ?_
          refine Go.aloadN 75 rfl d11_74 rfl rfl ?_
          refine cut (∀ (h'1 : Heap) (u61 u71 : Int32) (it1 : Addr) (s91 : Slot), Keep h25 h'1 [] → One s91 → Go (Q11 Z a lb ex un al am h0) Z B11 1 4 h'1 120 #[.val (.ref a), .val (.ref lb), .val (.ref ex), .val (.ref un), .val (.ref al), .val (.ref am), .val (.int u61), .val (.int u71), .val (.ref it1), s91] []) (fun J1 => ?_) (fun h'1 u61 u71 it1 s91 KJ1 o91 => ?_)
          · refine Go.old fun x62 => ?_
            rcases Vex with ⟨ho, hl⟩ | ⟨y, ho, E, F0, F1⟩
            · refine Go.callF 80 rfl (C := B13) (y := ⟨"java/util/List", "iterator", "()Ljava/util/Iterator;"⟩) ex [] (rest := []) 87 88 89 90 91 92 93 82 94 95 (c13n Z hw h25 ex el ea em top bot lem non hv (hl ▸ hEel.ext x62) (hl ▸ hFel.ext x62) (hAea.ext x62)) (hl ▸ hEel.ext x62) d11_75 rfl rfl rfl rfl rfl rfl rfl rfl rfl rfl rfl (by decide) pd13 rfl rfl rfl (W := 0) (Nat.le_of_ble_eq_true rfl) (by decide) (by decide) (by decide) (by decide) fun v63 h64 q65 => ?_
              obtain ⟨it66, rfl, g67, K68, E69, F70, F71, F72⟩ := q65
              have z73 : Z.heap.size ≤ it66 := Nat.le_trans (Nat.le_trans (Nat.le_trans (Nat.le_trans (Nat.le_trans (Nat.le_trans hle K2.1) K8.1) K14.1) K20.1) K26.1) g67
              refine Go.astore 82 rfl d11_80 rfl (Ls' := #[.val (.ref a), .val (.ref lb), .val (.ref ex), .val (.ref un), .val (.ref al), .val (.ref am), .val (.int v6), .val (.int v7), .val (.ref it66), .unset]) rfl ?_
              refine Go.aload 84 rfl d11_82 rfl rfl ?_
              refine Go.callF 89 rfl (C := B16) (y := ⟨"java/util/Iterator", "hasNext", "()Z"⟩) it66 [] (rest := []) 118 119 120 121 122 123 124 125 98 126 (c16 Z hw h64 it66 (0 : Int32) (0 : Int32) F72 F71) E69 d11_84 rfl rfl rfl rfl rfl rfl rfl rfl rfl rfl rfl (by decide) pd16 rfl rfl rfl (W := 0) (Nat.le_of_ble_eq_true rfl) (by decide) (by decide) (by decide) (by decide) fun v74 h75 q76 => ?_
              obtain ⟨rfl, rfl⟩ := q76
              refine Go.eqI (w := 0) (if_pos rfl) ?_
              refine Go.if_eq 120 92 d11_89 (by decide) rfl rfl (fun (b77 : (0 : Int32) = 0) => ?_) (fun (b77 : ¬ (0 : Int32) = 0) => ?_)
              · exact J1 _ _ _ _ _ ((Keep.refl h25 []).trans K68 all0) One.u
              · exact absurd rfl b77
            · refine Go.callF 80 rfl (C := B13) (y := ⟨"java/util/List", "iterator", "()Ljava/util/Iterator;"⟩) ex [] (rest := []) 87 88 89 237 91 92 238 235 94 95 (c13t Z hw h25 ex el ea em top bot lem non hv E F1) E d11_75 rfl rfl rfl rfl rfl rfl rfl rfl rfl rfl rfl (by decide) pd13 rfl rfl rfl (W := 0) (Nat.le_of_ble_eq_true rfl) (by decide) (by decide) (by decide) (by decide) fun v78 h79 q80 => ?_
              obtain ⟨it81, rfl, g82, K83, E84, F85, F86, F87⟩ := q80
              have z88 : Z.heap.size ≤ it81 := Nat.le_trans (Nat.le_trans (Nat.le_trans (Nat.le_trans (Nat.le_trans (Nat.le_trans hle K2.1) K8.1) K14.1) K20.1) K26.1) g82
              refine Go.astore 82 rfl d11_80 rfl (Ls' := #[.val (.ref a), .val (.ref lb), .val (.ref ex), .val (.ref un), .val (.ref al), .val (.ref am), .val (.int v6), .val (.int v7), .val (.ref it81), .unset]) rfl ?_
              refine Go.aload 84 rfl d11_82 rfl rfl ?_
              refine Go.callF 89 rfl (C := B16) (y := ⟨"java/util/Iterator", "hasNext", "()Z"⟩) it81 [] (rest := []) 118 119 120 121 122 123 124 125 98 126 (c16 Z hw h79 it81 (0 : Int32) (1 : Int32) F87 F86) E84 d11_84 rfl rfl rfl rfl rfl rfl rfl rfl rfl rfl rfl (by decide) pd16 rfl rfl rfl (W := 0) (Nat.le_of_ble_eq_true rfl) (by decide) (by decide) (by decide) (by decide) fun v89 h90 q91 => ?_
              obtain ⟨rfl, rfl⟩ := q91
              refine Go.eqI (w := 1) (if_neg (by decide)) ?_
              refine Go.if_eq 120 92 d11_89 (by decide) rfl rfl (fun (b92 : (1 : Int32) = 0) => ?_) (fun (b92 : ¬ (1 : Int32) = 0) => ?_)
              · exact absurd b92 (by decide)
              · obtain ⟨Ey, dd, q1, q2, Fy, Fe, Fn⟩ := Wex y ho
                refine Go.aload 94 rfl d11_92 rfl rfl ?_
                have F93 : Exa Z h79 ex "java/util/ImmutableCollections$List12" := (E.keep K83)
                have F94 : Fld Z h79 ex "java/util/ImmutableCollections$List12" "e0" "Ljava/lang/Object;" (.ref y) := (F0.keep K83 nin0)
                refine Go.callFW 99 rfl (C := B46) (y := ⟨"java/util/Iterator", "next", "()Ljava/lang/Object;"⟩) it81 [] (rest := []) 242 243 244 245 246 247 248 125 98 249 (c46 Z hw h79 it81 y (1 : Int32) ex z88 E84 F85 F86 F87 F93 F94) E84 d11_94 rfl rfl rfl rfl rfl rfl rfl rfl rfl rfl rfl (by decide) pd46 rfl rfl rfl (W := 0) (Nat.le_of_ble_eq_true rfl) (by decide) (by decide) (by decide) (by decide) fun v95 h96 q97 => ?_
                obtain ⟨rfl, K98, F99, F100⟩ := q97
                have F101 : Exa Z h96 y "com/example/subsumer/subsumer/core/Existential" := ((Ey.keep K83).keep K98)
                refine Go.castY 102 rfl 178 d11_99 rfl (Ins.self F101) ?_
                refine Go.astore 104 rfl d11_102 rfl (Ls' := #[.val (.ref a), .val (.ref lb), .val (.ref ex), .val (.ref un), .val (.ref al), .val (.ref am), .val (.int v6), .val (.int v7), .val (.ref it81), .val (.ref y)]) rfl ?_
                refine Go.iload 106 rfl d11_104 rfl ?_
                refine Go.aload 108 rfl d11_106 rfl rfl ?_
                have ne102 : y ≠ it81 := (show @Ne Nat y it81 from by have := ltN Ey.lt; have := g82; omega)
                have F103 : Fld Z h96 y "com/example/subsumer/subsumer/core/Existential" "filler" "Lcom/example/subsumer/subsumer/core/Description;" (.ref dd) := ((Fy.keep K83 nin0).keep K98 (ninS ne102 nin0))
                refine Go.callV 111 rfl (C := B36) y [] (rest := [.int v7]) 259 260 262 261 180 263 (c36 Z hw h96 y dd F103) F101 d11_108 rfl rfl rfl rfl rfl rfl (by decide) pd36 rfl rfl rfl (W := 1) (Nat.le_of_ble_eq_true rfl) (by decide) (by decide) (by decide) (by decide) fun v104 h105 q106 => ?_
                obtain ⟨rfl, rfl⟩ := q106
                have ne107 : dd ≠ it81 := (show @Ne Nat dd it81 from by have := ltN Fe.lt; have := g82; omega)
                have F108 : Fld Z h96 dd "com/example/subsumer/subsumer/core/Description" "numberInside" "Z" (.int q2) := ((Fn.keep K83 nin0).keep K98 (ninS ne107 nin0))
                refine Go.getF 114 rfl (v := .int q2) 129 d11_111 rfl F108 ?_
                refine Go.ior 115 rfl d11_114 ?_
                refine Go.nameI fun v109 hv109 => ?_
                refine Go.istore 117 rfl d11_115 (Ls' := #[.val (.ref a), .val (.ref lb), .val (.ref ex), .val (.ref un), .val (.ref al), .val (.ref am), .val (.int v6), .val (.int v109), .val (.ref it81), .val (.ref y)]) rfl ?_
                refine Go.goto 82 d11_117 (by decide) (by decide) ?_
                refine Go.aload 84 rfl d11_82 rfl rfl ?_
                have F113 : Exa Z h96 it81 "java/util/ImmutableCollections$ListItr" := (E84.keep K98)
                refine Go.callF 89 rfl (C := B16) (y := ⟨"java/util/Iterator", "hasNext", "()Z"⟩) it81 [] (rest := []) 118 119 120 121 122 123 124 125 98 126 (c16 Z hw h96 it81 (1 : Int32) (1 : Int32) F100 F99) F113 d11_84 rfl rfl rfl rfl rfl rfl rfl rfl rfl rfl rfl (by decide) pd16 rfl rfl rfl (W := 0) (Nat.le_of_ble_eq_true rfl) (by decide) (by decide) (by decide) (by decide) fun v110 h111 q112 => ?_
                obtain ⟨rfl, rfl⟩ := q112
                refine Go.eqI (w := 0) (if_pos rfl) ?_
                refine Go.if_eq 120 92 d11_89 (by decide) rfl rfl (fun (b114 : (0 : Int32) = 0) => ?_) (fun (b114 : ¬ (0 : Int32) = 0) => ?_)
                · exact J1 _ _ _ _ _ (((Keep.refl h25 []).trans K83 all0).trans K98 (allS (Or.inr (by have := K83.1; have := g82; omega)) all0)) (One.val rfl)
                · exact absurd rfl b114
          · have Vun2 : LV Z h'1 el em un oun := Vun.keep KJ1 nin0
            have Wun2 : ∀ x, oun = some x → EV Z h'1 "com/example/subsumer/subsumer/core/Universal" x := fun x hx => (Wun x hx).keep0 KJ1
            refine Go.aloadN 121 rfl d11_120 rfl rfl ?_
            refine cut (∀ (h'2 : Heap) (u62 u72 : Int32) (it2 : Addr) (s92 : Slot), Keep h'1 h'2 [] → One s92 → Go (Q11 Z a lb ex un al am h0) Z B11 2 8 h'2 179 #[.val (.ref a), .val (.ref lb), .val (.ref ex), .val (.ref un), .val (.ref al), .val (.ref am), .val (.int u62), .val (.int u72), .val (.ref it2), s92] []) (fun J2 => ?_) (fun h'2 u62 u72 it2 s92 KJ2 o92 => ?_)
            · refine Go.old fun x115 => ?_
              rcases Vun2 with ⟨ho, hl⟩ | ⟨y, ho, E, F0, F1⟩
              · refine Go.callF 126 rfl (C := B13) (y := ⟨"java/util/List", "iterator", "()Ljava/util/Iterator;"⟩) un [] (rest := []) 87 88 89 90 91 92 93 82 94 95 (c13n Z hw h'1 un el ea em top bot lem non hv (hl ▸ hEel.ext x115) (hl ▸ hFel.ext x115) (hAea.ext x115)) (hl ▸ hEel.ext x115) d11_121 rfl rfl rfl rfl rfl rfl rfl rfl rfl rfl rfl (by decide) pd13 rfl rfl rfl (W := 0) (Nat.le_of_ble_eq_true rfl) (by decide) (by decide) (by decide) (by decide) fun v116 h117 q118 => ?_
                obtain ⟨it119, rfl, g120, K121, E122, F123, F124, F125⟩ := q118
                have z126 : Z.heap.size ≤ it119 := Nat.le_trans (Nat.le_trans (Nat.le_trans (Nat.le_trans (Nat.le_trans (Nat.le_trans (Nat.le_trans hle K2.1) K8.1) K14.1) K20.1) K26.1) KJ1.1) g120
                refine Go.astore 128 rfl d11_126 rfl (Ls' := #[.val (.ref a), .val (.ref lb), .val (.ref ex), .val (.ref un), .val (.ref al), .val (.ref am), .val (.int u61), .val (.int u71), .val (.ref it119), s91]) rfl ?_
                refine Go.aload 130 rfl d11_128 rfl rfl ?_
                refine Go.callF 135 rfl (C := B16) (y := ⟨"java/util/Iterator", "hasNext", "()Z"⟩) it119 [] (rest := []) 118 119 120 121 122 123 124 125 98 126 (c16 Z hw h117 it119 (0 : Int32) (0 : Int32) F125 F124) E122 d11_130 rfl rfl rfl rfl rfl rfl rfl rfl rfl rfl rfl (by decide) pd16 rfl rfl rfl (W := 0) (Nat.le_of_ble_eq_true rfl) (by decide) (by decide) (by decide) (by decide) fun v127 h128 q129 => ?_
                obtain ⟨rfl, rfl⟩ := q129
                refine Go.eqI (w := 0) (if_pos rfl) ?_
                refine Go.if_eq 179 138 d11_135 (by decide) rfl rfl (fun (b130 : (0 : Int32) = 0) => ?_) (fun (b130 : ¬ (0 : Int32) = 0) => ?_)
                · exact J2 _ _ _ _ _ ((Keep.refl h'1 []).trans K121 all0) o91
                · exact absurd rfl b130
              · refine Go.callF 126 rfl (C := B13) (y := ⟨"java/util/List", "iterator", "()Ljava/util/Iterator;"⟩) un [] (rest := []) 87 88 89 237 91 92 238 235 94 95 (c13t Z hw h'1 un el ea em top bot lem non hv E F1) E d11_121 rfl rfl rfl rfl rfl rfl rfl rfl rfl rfl rfl (by decide) pd13 rfl rfl rfl (W := 0) (Nat.le_of_ble_eq_true rfl) (by decide) (by decide) (by decide) (by decide) fun v131 h132 q133 => ?_
                obtain ⟨it134, rfl, g135, K136, E137, F138, F139, F140⟩ := q133
                have z141 : Z.heap.size ≤ it134 := Nat.le_trans (Nat.le_trans (Nat.le_trans (Nat.le_trans (Nat.le_trans (Nat.le_trans (Nat.le_trans hle K2.1) K8.1) K14.1) K20.1) K26.1) KJ1.1) g135
                refine Go.astore 128 rfl d11_126 rfl (Ls' := #[.val (.ref a), .val (.ref lb), .val (.ref ex), .val (.ref un), .val (.ref al), .val (.ref am), .val (.int u61), .val (.int u71), .val (.ref it134), s91]) rfl ?_
                refine Go.aload 130 rfl d11_128 rfl rfl ?_
                refine Go.callF 135 rfl (C := B16) (y := ⟨"java/util/Iterator", "hasNext", "()Z"⟩) it134 [] (rest := []) 118 119 120 121 122 123 124 125 98 126 (c16 Z hw h132 it134 (0 : Int32) (1 : Int32) F140 F139) E137 d11_130 rfl rfl rfl rfl rfl rfl rfl rfl rfl rfl rfl (by decide) pd16 rfl rfl rfl (W := 0) (Nat.le_of_ble_eq_true rfl) (by decide) (by decide) (by decide) (by decide) fun v142 h143 q144 => ?_
                obtain ⟨rfl, rfl⟩ := q144
                refine Go.eqI (w := 1) (if_neg (by decide)) ?_
                refine Go.if_eq 179 138 d11_135 (by decide) rfl rfl (fun (b145 : (1 : Int32) = 0) => ?_) (fun (b145 : ¬ (1 : Int32) = 0) => ?_)
                · exact absurd b145 (by decide)
                · obtain ⟨Ey, dd, q1, q2, Fy, Fe, Fn⟩ := Wun2 y ho
                  refine Go.aload 140 rfl d11_138 rfl rfl ?_
                  have F146 : Exa Z h132 un "java/util/ImmutableCollections$List12" := (E.keep K136)
                  have F147 : Fld Z h132 un "java/util/ImmutableCollections$List12" "e0" "Ljava/lang/Object;" (.ref y) := (F0.keep K136 nin0)
                  refine Go.callFW 145 rfl (C := B46) (y := ⟨"java/util/Iterator", "next", "()Ljava/lang/Object;"⟩) it134 [] (rest := []) 242 243 244 245 246 247 248 125 98 249 (c46 Z hw h132 it134 y (1 : Int32) un z141 E137 F138 F139 F140 F146 F147) E137 d11_140 rfl rfl rfl rfl rfl rfl rfl rfl rfl rfl rfl (by decide) pd46 rfl rfl rfl (W := 0) (Nat.le_of_ble_eq_true rfl) (by decide) (by decide) (by decide) (by decide) fun v148 h149 q150 => ?_
                  obtain ⟨rfl, K151, F152, F153⟩ := q150
                  have F154 : Exa Z h149 y "com/example/subsumer/subsumer/core/Universal" := ((Ey.keep K136).keep K151)
                  refine Go.castY 148 rfl 268 d11_145 rfl (Ins.self F154) ?_
                  refine Go.astore 150 rfl d11_148 rfl (Ls' := #[.val (.ref a), .val (.ref lb), .val (.ref ex), .val (.ref un), .val (.ref al), .val (.ref am), .val (.int u61), .val (.int u71), .val (.ref it134), .val (.ref y)]) (store_one rfl o91 rfl rfl) ?_
                  refine Go.iload 152 rfl d11_150 rfl ?_
                  refine Go.aload 154 rfl d11_152 rfl rfl ?_
                  have ne155 : y ≠ it134 := (show @Ne Nat y it134 from by have := ltN Ey.lt; have := g135; omega)
                  have F156 : Fld Z h149 y "com/example/subsumer/subsumer/core/Universal" "filler" "Lcom/example/subsumer/subsumer/core/Description;" (.ref dd) := ((Fy.keep K136 nin0).keep K151 (ninS ne155 nin0))
                  refine Go.callV 157 rfl (C := B39) y [] (rest := [.int u61]) 280 281 283 282 270 284 (c39 Z hw h149 y dd F156) F154 d11_154 rfl rfl rfl rfl rfl rfl (by decide) pd39 rfl rfl rfl (W := 1) (Nat.le_of_ble_eq_true rfl) (by decide) (by decide) (by decide) (by decide) fun v157 h158 q159 => ?_
                  obtain ⟨rfl, rfl⟩ := q159
                  have ne160 : dd ≠ it134 := (show @Ne Nat dd it134 from by have := ltN Fe.lt; have := g135; omega)
                  have F161 : Fld Z h149 dd "com/example/subsumer/subsumer/core/Description" "existentialInside" "Z" (.int q1) := ((Fe.keep K136 nin0).keep K151 (ninS ne160 nin0))
                  refine Go.getF 160 rfl (v := .int q1) 127 d11_157 rfl F161 ?_
                  refine Go.ior 161 rfl d11_160 ?_
                  refine Go.nameI fun v162 hv162 => ?_
                  refine Go.istore 163 rfl d11_161 (Ls' := #[.val (.ref a), .val (.ref lb), .val (.ref ex), .val (.ref un), .val (.ref al), .val (.ref am), .val (.int v162), .val (.int u71), .val (.ref it134), .val (.ref y)]) rfl ?_
                  refine Go.iload 165 rfl d11_163 rfl ?_
                  refine Go.aload 167 rfl d11_165 rfl rfl ?_
                  refine Go.callV 170 rfl (C := B39) y [] (rest := [.int u71]) 280 281 283 282 270 284 (c39 Z hw h149 y dd F156) F154 d11_167 rfl rfl rfl rfl rfl rfl (by decide) pd39 rfl rfl rfl (W := 1) (Nat.le_of_ble_eq_true rfl) (by decide) (by decide) (by decide) (by decide) fun v163 h164 q165 => ?_
                  obtain ⟨rfl, rfl⟩ := q165
                  have F166 : Fld Z h149 dd "com/example/subsumer/subsumer/core/Description" "numberInside" "Z" (.int q2) := ((Fn.keep K136 nin0).keep K151 (ninS ne160 nin0))
                  refine Go.getF 173 rfl (v := .int q2) 129 d11_170 rfl F166 ?_
                  refine Go.ior 174 rfl d11_173 ?_
                  refine Go.nameI fun v167 hv167 => ?_
                  refine Go.istore 176 rfl d11_174 (Ls' := #[.val (.ref a), .val (.ref lb), .val (.ref ex), .val (.ref un), .val (.ref al), .val (.ref am), .val (.int v162), .val (.int v167), .val (.ref it134), .val (.ref y)]) rfl ?_
                  refine Go.goto 128 d11_176 (by decide) (by decide) ?_
                  refine Go.aload 130 rfl d11_128 rfl rfl ?_
                  have F171 : Exa Z h149 it134 "java/util/ImmutableCollections$ListItr" := (E137.keep K151)
                  refine Go.callF 135 rfl (C := B16) (y := ⟨"java/util/Iterator", "hasNext", "()Z"⟩) it134 [] (rest := []) 118 119 120 121 122 123 124 125 98 126 (c16 Z hw h149 it134 (1 : Int32) (1 : Int32) F153 F152) F171 d11_130 rfl rfl rfl rfl rfl rfl rfl rfl rfl rfl rfl (by decide) pd16 rfl rfl rfl (W := 0) (Nat.le_of_ble_eq_true rfl) (by decide) (by decide) (by decide) (by decide) fun v168 h169 q170 => ?_
                  obtain ⟨rfl, rfl⟩ := q170
                  refine Go.eqI (w := 0) (if_pos rfl) ?_
                  refine Go.if_eq 179 138 d11_135 (by decide) rfl rfl (fun (b172 : (0 : Int32) = 0) => ?_) (fun (b172 : ¬ (0 : Int32) = 0) => ?_)
                  · exact J2 _ _ _ _ _ (((Keep.refl h'1 []).trans K136 all0).trans K151 (allS (Or.inr (by have := K136.1; have := g135; omega)) all0)) (One.val rfl)
                  · exact absurd rfl b172
            · refine Go.aloadN 180 rfl d11_179 rfl rfl ?_
              refine Go.iload 182 rfl d11_180 rfl ?_
              have F173 : Fld Z h'2 a "com/example/subsumer/subsumer/core/Description" "existentialInside" "Z" (.int (0 : Int32)) := ((F31.keep KJ1 nin0).keep KJ2 nin0)
              have F174 : Exa Z h'2 a "com/example/subsumer/subsumer/core/Description" := (((F24.keep K26).keep KJ1).keep KJ2)
              refine Go.putF 185 rfl (v' := .int (u62 &&& 1)) (ty := .boolean) 127 128 36 d11_182 rfl F173 F174 (Or.inr ⟨rfl, rfl, rfl⟩) rfl (by decide) rfl (fits_nar_bool u62) hge fun h175 K176 W177 F178 => ?_
              refine Go.aloadN 186 rfl d11_185 rfl rfl ?_
              refine Go.iload 188 rfl d11_186 rfl ?_
              have F179 : Fld Z h175 a "com/example/subsumer/subsumer/core/Description" "numberInside" "Z" (.int (0 : Int32)) := (Fld.oth hw ((F30.keep KJ1 nin0).keep KJ2 nin0) W177 130 128 (Or.inr rfl) (Or.inr rfl) (by decide) rfl rfl)
              have F180 : Exa Z h175 a "com/example/subsumer/subsumer/core/Description" := (F174.keep K176)
              refine Go.putF 191 rfl (v' := .int (u72 &&& 1)) (ty := .boolean) 129 130 36 d11_188 rfl F179 F180 (Or.inr ⟨rfl, rfl, rfl⟩) rfl (by decide) rfl (fits_nar_bool u72) hge fun h181 K182 W183 F184 => ?_
              have F185 : Fld Z h181 a "com/example/subsumer/subsumer/core/Description" "label" "Lcom/example/subsumer/subsumer/core/Label;" (.ref lb) := (Fld.oth hw (Fld.oth hw (((Fld.oth hw (Fld.oth hw (Fld.oth hw (Fld.oth hw F4 W9 66 68 (Or.inr rfl) (Or.inr rfl) (by decide) rfl rfl) W15 66 70 (Or.inr rfl) (Or.inr rfl) (by decide) rfl rfl) W21 66 72 (Or.inr rfl) (Or.inr rfl) (by decide) rfl rfl) W27 66 74 (Or.inr rfl) (Or.inr rfl) (by decide) rfl rfl).keep KJ1 nin0).keep KJ2 nin0) W177 66 128 (Or.inr rfl) (Or.inr rfl) (by decide) rfl rfl) W183 66 130 (Or.inr rfl) (Or.inr rfl) (by decide) rfl rfl)
              have F186 : Fld Z h181 a "com/example/subsumer/subsumer/core/Description" "existentials" "Ljava/util/List;" (.ref ex) := (Fld.oth hw (Fld.oth hw (((Fld.oth hw (Fld.oth hw (Fld.oth hw F10 W15 68 70 (Or.inr rfl) (Or.inr rfl) (by decide) rfl rfl) W21 68 72 (Or.inr rfl) (Or.inr rfl) (by decide) rfl rfl) W27 68 74 (Or.inr rfl) (Or.inr rfl) (by decide) rfl rfl).keep KJ1 nin0).keep KJ2 nin0) W177 68 128 (Or.inr rfl) (Or.inr rfl) (by decide) rfl rfl) W183 68 130 (Or.inr rfl) (Or.inr rfl) (by decide) rfl rfl)
              have F187 : Fld Z h181 a "com/example/subsumer/subsumer/core/Description" "universals" "Ljava/util/List;" (.ref un) := (Fld.oth hw (Fld.oth hw (((Fld.oth hw (Fld.oth hw F16 W21 70 72 (Or.inr rfl) (Or.inr rfl) (by decide) rfl rfl) W27 70 74 (Or.inr rfl) (Or.inr rfl) (by decide) rfl rfl).keep KJ1 nin0).keep KJ2 nin0) W177 70 128 (Or.inr rfl) (Or.inr rfl) (by decide) rfl rfl) W183 70 130 (Or.inr rfl) (Or.inr rfl) (by decide) rfl rfl)
              have F188 : Fld Z h181 a "com/example/subsumer/subsumer/core/Description" "atLeast" "Ljava/util/List;" (.ref al) := (Fld.oth hw (Fld.oth hw (((Fld.oth hw F22 W27 72 74 (Or.inr rfl) (Or.inr rfl) (by decide) rfl rfl).keep KJ1 nin0).keep KJ2 nin0) W177 72 128 (Or.inr rfl) (Or.inr rfl) (by decide) rfl rfl) W183 72 130 (Or.inr rfl) (Or.inr rfl) (by decide) rfl rfl)
              have F189 : Fld Z h181 a "com/example/subsumer/subsumer/core/Description" "atMost" "Ljava/util/List;" (.ref am) := (Fld.oth hw (Fld.oth hw ((F28.keep KJ1 nin0).keep KJ2 nin0) W177 74 128 (Or.inr rfl) (Or.inr rfl) (by decide) rfl rfl) W183 74 130 (Or.inr rfl) (Or.inr rfl) (by decide) rfl rfl)
              have F190 : Fld Z h181 a "com/example/subsumer/subsumer/core/Description" "existentialInside" "Z" (.int (u62 &&& 1)) := (Fld.oth hw F178 W183 128 130 (Or.inr rfl) (Or.inr rfl) (by decide) rfl rfl)
              exact Go.retV d11_191 rfl (by decide) (by decide) ⟨rfl, ((((((((((Keep.refl h0 [a]).trans K2 (by simp)).trans K8 (by simp)).trans K14 (by simp)).trans K20 (by simp)).trans K26 (by simp)).trans KJ1 all0).trans KJ2 all0).trans K176 (by simp)).trans K182 (by simp)), F185, F186, F187, F188, F189, _, _, F190, F184⟩
theorem d10_0 : decode prog_3_method_1_code 0 = .ok (.aload_n 0, 1) := by decide +kernel
theorem d10_1 : decode prog_3_method_1_code 1 = .ok (.aload_n 1, 1) := by decide +kernel
theorem d10_2 : decode prog_3_method_1_code 2 = .ok (.aload_n 2, 1) := by decide +kernel
theorem d10_3 : decode prog_3_method_1_code 3 = .ok (.aload_n 3, 1) := by decide +kernel
theorem d10_4 : decode prog_3_method_1_code 4 = .ok (.invokestatic 1, 3) := by decide +kernel
theorem d10_7 : decode prog_3_method_1_code 7 = .ok (.invokestatic 1, 3) := by decide +kernel
theorem d10_10 : decode prog_3_method_1_code 10 = .ok (.invokespecial 7, 3) := by decide +kernel
theorem d10_13 : decode prog_3_method_1_code 13 = .ok (.return_, 1) := by decide +kernel
theorem pd10 : parseMethodDescriptor "(Lcom/example/subsumer/subsumer/core/Label;Ljava/util/List;Ljava/util/List;)V" = some ⟨[(.object "com/example/subsumer/subsumer/core/Label"), (.object "java/util/List"), (.object "java/util/List")], none⟩ := by decide +kernel
theorem pn10 : plainName "com/example/subsumer/subsumer/core/Description" = true := by first | (simp [plainName, overriddenIn]; done) | decide +kernel
abbrev B10 : Bd := ((⟨"com/example/subsumer/subsumer/core/Description", "<init>", "(Lcom/example/subsumer/subsumer/core/Label;Ljava/util/List;Ljava/util/List;)V"⟩ : MethodName), prog_3_method_1_code, 4, none, ({ frames := 4, cells := 2, slots := 8, locals := 60 } : Room), tables_1)
theorem ef10 (mid : MethodId) (a : Addr) (lb : Addr) (ex : Addr) (un : Addr) : entryFrame mid (List.toArray [.ref a, .ref lb, .ref ex, .ref un]) 4 = mkF mid 0 #[.val (.ref a), .val (.ref lb), .val (.ref ex), .val (.ref un)] [] := by first | (simp [entryFrame, mkF, argsToLocals, Value.category]; done) | rfl
def Q10 (Z : State) (a : Addr) (lb : Addr) (ex : Addr) (un : Addr) (el : Addr) (h0 : Heap) (v : Option Value) (h : Heap) : Prop := v = none ∧ Keep h0 h [a] ∧ Fld Z h a "com/example/subsumer/subsumer/core/Description" "label" "Lcom/example/subsumer/subsumer/core/Label;" (.ref lb) ∧ Fld Z h a "com/example/subsumer/subsumer/core/Description" "existentials" "Ljava/util/List;" (.ref ex) ∧ Fld Z h a "com/example/subsumer/subsumer/core/Description" "universals" "Ljava/util/List;" (.ref un) ∧ Fld Z h a "com/example/subsumer/subsumer/core/Description" "atLeast" "Ljava/util/List;" (.ref el) ∧ Fld Z h a "com/example/subsumer/subsumer/core/Description" "atMost" "Ljava/util/List;" (.ref el) ∧ ∃ q1 q2 : Int32, Fld Z h a "com/example/subsumer/subsumer/core/Description" "existentialInside" "Z" (.int q1) ∧ Fld Z h a "com/example/subsumer/subsumer/core/Description" "numberInside" "Z" (.int q2)
set_option maxRecDepth 65536 in
set_option maxHeartbeats 40000000 in
theorem c10 (Z : State) (hw : Wd Z tables_1) (h0 : Heap) (a : Addr) (lb : Addr) (ex : Addr) (un : Addr) (el : Addr) (ea : Addr) (em : Addr) (top : Addr) (bot : Addr) (lem : Addr) (non : Addr) (hv : Ev0 Z el ea em top bot lem non) (hge : Z.heap.size ≤ a) (hE : Exa Z h0 a "com/example/subsumer/subsumer/core/Description") (hF_label : Fld Z h0 a "com/example/subsumer/subsumer/core/Description" "label" "Lcom/example/subsumer/subsumer/core/Label;" (.null)) (hF_existentials : Fld Z h0 a "com/example/subsumer/subsumer/core/Description" "existentials" "Ljava/util/List;" (.null)) (hF_universals : Fld Z h0 a "com/example/subsumer/subsumer/core/Description" "universals" "Ljava/util/List;" (.null)) (hF_atLeast : Fld Z h0 a "com/example/subsumer/subsumer/core/Description" "atLeast" "Ljava/util/List;" (.null)) (hF_atMost : Fld Z h0 a "com/example/subsumer/subsumer/core/Description" "atMost" "Ljava/util/List;" (.null)) (hF_existentialInside : Fld Z h0 a "com/example/subsumer/subsumer/core/Description" "existentialInside" "Z" (.int (0 : Int32))) (hF_numberInside : Fld Z h0 a "com/example/subsumer/subsumer/core/Description" "numberInside" "Z" (.int (0 : Int32))) (oex : Option Addr) (hEx : LV Z h0 el em ex oex) (oun : Option Addr) (hUn : LV Z h0 el em un oun) (hEx' : ∀ x, oex = some x → EV Z h0 "com/example/subsumer/subsumer/core/Existential" x) (hUn' : ∀ x, oun = some x → EV Z h0 "com/example/subsumer/subsumer/core/Universal" x) : Con Z B10 (List.toArray [.ref a, .ref lb, .ref ex, .ref un]) h0 (Q10 Z a lb ex un el h0) := by
  refine Con.mk hw pn10 (fun mid => ef10 mid a lb ex un) (Go.old fun hle' => ?_)
  have hle := hle'.1
  obtain ⟨hSel, hSem, hStop, hSbot, hSlem, hSnon, hEel, hFel, hAea, hEtop, hTl, hTe, hTu, hTa, hTm, hEbot, hnbt, hElem, hLn, hLg, hAnon⟩ := id hv
  refine Go.aloadN 1 rfl d10_0 rfl rfl ?_
  refine Go.aloadN 2 rfl d10_1 rfl rfl ?_
  refine Go.aloadN 3 rfl d10_2 rfl rfl ?_
  refine Go.aloadN 4 rfl d10_3 rfl rfl ?_
  refine Go.callS 7 rfl (C := B9) [] (rest := [.ref un, .ref ex, .ref lb, .ref a]) 52 53 54 55 (c9 Z hw h0 el ea em top bot lem non hv) d10_4 rfl rfl rfl rfl (by decide) pd9 rfl rfl rfl (W := 4) (Nat.le_of_ble_eq_true rfl) (by decide) (by decide) (by decide) (by decide) fun v1 h2 q3 => ?_
  obtain ⟨rfl, rfl⟩ := q3
  refine Go.callS 10 rfl (C := B9) [] (rest := [.ref el, .ref un, .ref ex, .ref lb, .ref a]) 52 53 54 55 (c9 Z hw h0 el ea em top bot lem non hv) d10_7 rfl rfl rfl rfl (by decide) pd9 rfl rfl rfl (W := 5) (Nat.le_of_ble_eq_true rfl) (by decide) (by decide) (by decide) (by decide) fun v4 h5 q6 => ?_
  obtain ⟨rfl, rfl⟩ := q6
  refine Go.callI 13 rfl (C := B11) a [.ref lb, .ref ex, .ref un, .ref el, .ref el] (rest := []) 61 62 28 63 (c11 Z hw h0 a lb ex un el el el ea em top bot lem non hv hge hE hF_label hF_existentials hF_universals hF_atLeast hF_atMost hF_existentialInside hF_numberInside oex hEx oun hUn none (Or.inl ⟨rfl, rfl⟩) none (Or.inl ⟨rfl, rfl⟩) hEx' hUn') d10_10 rfl rfl rfl rfl rfl rfl (by decide) pd11 rfl rfl rfl (W := 0) (Nat.le_of_ble_eq_true rfl) (by decide) (by decide) (by decide) (by decide) fun v7 h8 q9 => ?_
  obtain ⟨rfl, K10, F11, F12, F13, F14, F15, q18, q19, F16, F17⟩ := q9
  exact Go.retV d10_13 rfl (by decide) (by decide) ⟨rfl, K10, F11, F12, F13, F14, F15, _, _, F16, F17⟩
theorem d24_0 : decode prog_3_method_21_code 0 = .ok (.aload_n 0, 1) := by decide +kernel
theorem d24_1 : decode prog_3_method_21_code 1 = .ok (.getstatic 72, 3) := by decide +kernel
theorem d24_4 : decode prog_3_method_21_code 4 = .ok (.if_acmp .ne 7, 3) := by decide +kernel
theorem d24_7 : decode prog_3_method_21_code 7 = .ok (.iconst 1, 1) := by decide +kernel
theorem d24_8 : decode prog_3_method_21_code 8 = .ok (.goto 4, 3) := by decide +kernel
theorem d24_11 : decode prog_3_method_21_code 11 = .ok (.iconst 0, 1) := by decide +kernel
theorem d24_12 : decode prog_3_method_21_code 12 = .ok (.ireturn, 1) := by decide +kernel
theorem pd24 : parseMethodDescriptor "()Z" = some ⟨[], some .boolean⟩ := by decide +kernel
theorem pn24 : plainName "com/example/subsumer/subsumer/core/Description" = true := by first | (simp [plainName, overriddenIn]; done) | decide +kernel
abbrev B24 : Bd := ((⟨"com/example/subsumer/subsumer/core/Description", "isBottom", "()Z"⟩ : MethodName), prog_3_method_21_code, 1, (some .boolean), ({ frames := 0, cells := 0, slots := 0, locals := 0 } : Room), tables_1)
theorem ef24 (mid : MethodId) (a : Addr) : entryFrame mid (List.toArray [.ref a]) 1 = mkF mid 0 #[.val (.ref a)] [] := by first | (simp [entryFrame, mkF, argsToLocals, Value.category]; done) | rfl
def Q24 (a : Addr) (bot : Addr) (h0 : Heap) (v : Option Value) (h : Heap) : Prop := v = some (.int (if a = bot then 1 else 0)) ∧ h0 = h
set_option maxRecDepth 65536 in
set_option maxHeartbeats 40000000 in
theorem c24 (Z : State) (hw : Wd Z tables_1) (h0 : Heap) (a : Addr) (bot : Addr) (el : Addr) (ea : Addr) (em : Addr) (top : Addr) (lem : Addr) (non : Addr) (hv : Ev0 Z el ea em top bot lem non) : Con Z B24 (List.toArray [.ref a]) h0 (Q24 a bot h0) := by
  refine Con.mk hw pn24 (fun mid => ef24 mid a) (Go.old fun hle' => ?_)
  have hle := hle'.1
  obtain ⟨hSel, hSem, hStop, hSbot, hSlem, hSnon, hEel, hFel, hAea, hEtop, hTl, hTe, hTu, hTa, hTm, hEbot, hnbt, hElem, hLn, hLg, hAnon⟩ := id hv
  refine Go.aloadN 1 rfl d24_0 rfl rfl ?_
  refine Go.getS 4 rfl (v := .ref bot) 161 d24_1 rfl hSbot ?_
  refine Go.acmp_ne 11 7 d24_4 (by decide) rfl rfl rfl rfl (fun (b1 : ¬ (.ref a : Value) = .ref bot) => ?_) (fun (b1 : (.ref a : Value) = .ref bot) => ?_)
  · refine Go.iconst 12 rfl (0 : Int32) d24_11 rfl ?_
    exact Go.retN (t := .boolean) (z' := (0 : Int32)) d24_12 rfl (by decide) rfl (by decide) (by decide) ⟨by rw [if_neg (fun q => b1 (congrArg Value.ref q))], rfl⟩
  · refine Go.iconst 8 rfl (1 : Int32) d24_7 rfl ?_
    refine Go.goto 12 d24_8 (by decide) (by decide) ?_
    exact Go.retN (t := .boolean) (z' := (1 : Int32)) d24_12 rfl (by decide) rfl (by decide) (by decide) ⟨by rw [if_pos (Value.ref.inj b1)], rfl⟩
theorem d23_0 : decode prog_3_method_7_code 0 = .ok (.aload_n 1, 1) := by decide +kernel
theorem d23_1 : decode prog_3_method_7_code 1 = .ok (.invokevirtual 89, 3) := by decide +kernel
theorem d23_4 : decode prog_3_method_7_code 4 = .ok (.ifCond .eq 9, 3) := by decide +kernel
theorem d23_7 : decode prog_3_method_7_code 7 = .ok (.getstatic 72, 3) := by decide +kernel
theorem d23_10 : decode prog_3_method_7_code 10 = .ok (.goto 28, 3) := by decide +kernel
theorem d23_13 : decode prog_3_method_7_code 13 = .ok (.new 8, 3) := by decide +kernel
theorem d23_16 : decode prog_3_method_7_code 16 = .ok (.dup, 1) := by decide +kernel
theorem d23_17 : decode prog_3_method_7_code 17 = .ok (.getstatic 92, 3) := by decide +kernel
theorem d23_20 : decode prog_3_method_7_code 20 = .ok (.new 52, 3) := by decide +kernel
theorem d23_23 : decode prog_3_method_7_code 23 = .ok (.dup, 1) := by decide +kernel
theorem d23_24 : decode prog_3_method_7_code 24 = .ok (.aload_n 0, 1) := by decide +kernel
theorem d23_25 : decode prog_3_method_7_code 25 = .ok (.aload_n 1, 1) := by decide +kernel
theorem d23_26 : decode prog_3_method_7_code 26 = .ok (.invokespecial 95, 3) := by decide +kernel
theorem d23_29 : decode prog_3_method_7_code 29 = .ok (.invokestatic 98, 3) := by decide +kernel
theorem d23_32 : decode prog_3_method_7_code 32 = .ok (.invokestatic 1, 3) := by decide +kernel
theorem d23_35 : decode prog_3_method_7_code 35 = .ok (.invokespecial 86, 3) := by decide +kernel
theorem d23_38 : decode prog_3_method_7_code 38 = .ok (.areturn, 1) := by decide +kernel
theorem pd23 : parseMethodDescriptor "(Ljava/lang/String;Lcom/example/subsumer/subsumer/core/Description;)Lcom/example/subsumer/subsumer/core/Description;" = some ⟨[(.object "java/lang/String"), (.object "com/example/subsumer/subsumer/core/Description")], some (.object "com/example/subsumer/subsumer/core/Description")⟩ := by decide +kernel
theorem pn23 : plainName "com/example/subsumer/subsumer/core/Description" = true := by first | (simp [plainName, overriddenIn]; done) | decide +kernel
abbrev B23 : Bd := ((⟨"com/example/subsumer/subsumer/core/Description", "some", "(Ljava/lang/String;Lcom/example/subsumer/subsumer/core/Description;)Lcom/example/subsumer/subsumer/core/Description;"⟩ : MethodName), prog_3_method_7_code, 2, (some (.object "com/example/subsumer/subsumer/core/Description")), ({ frames := 6, cells := 5, slots := 19, locals := 77 } : Room), tables_1)
theorem ef23 (mid : MethodId) (p : Addr) (f : Addr) : entryFrame mid (List.toArray [.ref p, .ref f]) 2 = mkF mid 0 #[.val (.ref p), .val (.ref f)] [] := by first | (simp [entryFrame, mkF, argsToLocals, Value.category]; done) | rfl
def Q23 (Z : State) (el : Addr) (em : Addr) (f : Addr) (h0 : Heap) (v : Option Value) (h : Heap) : Prop := ∃ d l x, v = some (.ref d) ∧ h0.size ≤ d ∧ Keep h0 h [] ∧ Exa Z h d "com/example/subsumer/subsumer/core/Description" ∧ Fld Z h d "com/example/subsumer/subsumer/core/Description" "existentials" "Ljava/util/List;" (.ref l) ∧ LV Z h el em l (some x) ∧ Exa Z h x "com/example/subsumer/subsumer/core/Existential" ∧ Fld Z h x "com/example/subsumer/subsumer/core/Existential" "filler" "Lcom/example/subsumer/subsumer/core/Description;" (.ref f)
set_option maxRecDepth 65536 in
set_option maxHeartbeats 40000000 in
theorem c23 (Z : State) (hw : Wd Z tables_1) (h0 : Heap) (p : Addr) (f : Addr) (el : Addr) (em : Addr) (ea : Addr) (top : Addr) (bot : Addr) (lem : Addr) (non : Addr) (hv : Ev0 Z el ea em top bot lem non) (q1 : Int32) (q2 : Int32) (hEf : Exa Z h0 f "com/example/subsumer/subsumer/core/Description") (hnf : ¬ f = bot) (hFe : Fld Z h0 f "com/example/subsumer/subsumer/core/Description" "existentialInside" "Z" (.int q1)) (hFn : Fld Z h0 f "com/example/subsumer/subsumer/core/Description" "numberInside" "Z" (.int q2)) : Con Z B23 (List.toArray [.ref p, .ref f]) h0 (Q23 Z el em f h0) := by
  refine Con.mk hw pn23 (fun mid => ef23 mid p f) (Go.old fun hle' => ?_)
  have hle := hle'.1
  obtain ⟨hSel, hSem, hStop, hSbot, hSlem, hSnon, hEel, hFel, hAea, hEtop, hTl, hTe, hTu, hTa, hTm, hEbot, hnbt, hElem, hLn, hLg, hAnon⟩ := id hv
  refine Go.aloadN 1 rfl d23_0 rfl rfl ?_
  refine Go.callV 4 rfl (C := B24) f [] (rest := []) 171 172 174 173 28 175 (c24 Z hw h0 f bot el ea em top lem non hv) hEf d23_1 rfl rfl rfl rfl rfl rfl (by decide) pd24 rfl rfl rfl (W := 0) (Nat.le_of_ble_eq_true rfl) (by decide) (by decide) (by decide) (by decide) fun v1 h2 q3 => ?_
  obtain ⟨rfl, rfl⟩ := q3
  refine Go.eqI (w := 0) (if_neg hnf) ?_
  refine Go.if_eq 13 7 d23_4 (by decide) rfl rfl (fun (b4 : (0 : Int32) = 0) => ?_) (fun (b4 : ¬ (0 : Int32) = 0) => ?_)
  · refine Go.newO 16 rfl 35 36 28 d23_13 rfl rfl rfl (by decide) (by decide) fun h6 a5 g7 z8 K9 E10 D11 => ?_
    refine Go.dup 17 rfl d23_16 rfl ?_
    refine Go.getS 20 rfl (v := .ref lem) 176 d23_17 rfl hSlem ?_
    refine Go.newO 23 rfl 178 179 180 d23_20 rfl rfl rfl (by decide) (by decide) fun h13 a12 g14 z15 K16 E17 D18 => ?_
    refine Go.dup 24 rfl d23_23 rfl ?_
    refine Go.aloadN 25 rfl d23_24 rfl rfl ?_
    refine Go.aloadN 26 rfl d23_25 rfl rfl ?_
    refine Go.callI 29 rfl (C := B25) a12 [.ref p, .ref f] (rest := [.ref a12, .ref lem, .ref a5, .ref a5]) 181 182 180 183 (c25 Z hw h13 a12 p f z15 E17 (D18 191 (Or.inr rfl) (ty := (.object "java/lang/String")) (by decide) : Fld Z h13 a12 "com/example/subsumer/subsumer/core/Existential" "property" "Ljava/lang/String;" (.null)) (D18 193 (Or.inr rfl) (ty := (.object "com/example/subsumer/subsumer/core/Description")) (by decide) : Fld Z h13 a12 "com/example/subsumer/subsumer/core/Existential" "filler" "Lcom/example/subsumer/subsumer/core/Description;" (.null))) d23_26 rfl rfl rfl rfl rfl rfl (by decide) pd25 rfl rfl rfl (W := 4) (Nat.le_of_ble_eq_true rfl) (by decide) (by decide) (by decide) (by decide) fun v19 h20 q21 => ?_
    obtain ⟨rfl, K22, F23, F24⟩ := q21
    refine Go.callS 32 rfl (C := B27) [.ref a12] (rest := [.ref lem, .ref a5, .ref a5]) 194 195 54 196 (c27 Z hw h20 a12 el em ea top bot lem non hv) d23_29 rfl rfl rfl rfl (by decide) pd27 rfl rfl rfl (W := 3) (Nat.le_of_ble_eq_true rfl) (by decide) (by decide) (by decide) (by decide) fun v25 h26 q27 => ?_
    obtain ⟨l28, rfl, g29, K30, V31⟩ := q27
    have z32 : Z.heap.size ≤ l28 := Nat.le_trans (Nat.le_trans (Nat.le_trans (Nat.le_trans hle K9.1) K16.1) K22.1) g29
    refine Go.callS 35 rfl (C := B9) [] (rest := [.ref l28, .ref lem, .ref a5, .ref a5]) 52 53 54 55 (c9 Z hw h26 el ea em top bot lem non hv) d23_32 rfl rfl rfl rfl (by decide) pd9 rfl rfl rfl (W := 4) (Nat.le_of_ble_eq_true rfl) (by decide) (by decide) (by decide) (by decide) fun v33 h34 q35 => ?_
    obtain ⟨rfl, rfl⟩ := q35
    have F37 : Exa Z h26 a12 "com/example/subsumer/subsumer/core/Existential" := ((E17.keep K22).keep K30)
    have F38 : Fld Z h26 a12 "com/example/subsumer/subsumer/core/Existential" "filler" "Lcom/example/subsumer/subsumer/core/Description;" (.ref f) := (F24.keep K30 nin0)
    have ne39 : f ≠ a12 := (show @Ne Nat f a12 from by have := ltN hFe.lt; have := K9.1; have := g14; omega)
    have F40 : Fld Z h26 f "com/example/subsumer/subsumer/core/Description" "existentialInside" "Z" (.int q1) := ((((hFe.keep K9 nin0).keep K16 nin0).keep K22 (ninS ne39 nin0)).keep K30 nin0)
    have F41 : Fld Z h26 f "com/example/subsumer/subsumer/core/Description" "numberInside" "Z" (.int q2) := ((((hFn.keep K9 nin0).keep K16 nin0).keep K22 (ninS ne39 nin0)).keep K30 nin0)
    have W36 : EV Z h26 "com/example/subsumer/subsumer/core/Existential" a12 := ⟨F37, f, q1, q2, F38, F40, F41⟩
    have F42 : Exa Z h26 a5 "com/example/subsumer/subsumer/core/Description" := (((E10.keep K16).keep K22).keep K30)
    have ne43 : a5 ≠ a12 := (show @Ne Nat a5 a12 from by have := ltN E10.lt; have := g14; omega)
    have F44 : Fld Z h26 a5 "com/example/subsumer/subsumer/core/Description" "label" "Lcom/example/subsumer/subsumer/core/Label;" (.null) := ((((D11 66 (Or.inr rfl) (ty := (.object "com/example/subsumer/subsumer/core/Label")) (by decide) : Fld Z h6 a5 "com/example/subsumer/subsumer/core/Description" "label" "Lcom/example/subsumer/subsumer/core/Label;" (.null)).keep K16 nin0).keep K22 (ninS ne43 nin0)).keep K30 nin0)
    have F45 : Fld Z h26 a5 "com/example/subsumer/subsumer/core/Description" "existentials" "Ljava/util/List;" (.null) := ((((D11 68 (Or.inr rfl) (ty := (.object "java/util/List")) (by decide) : Fld Z h6 a5 "com/example/subsumer/subsumer/core/Description" "existentials" "Ljava/util/List;" (.null)).keep K16 nin0).keep K22 (ninS ne43 nin0)).keep K30 nin0)
    have F46 : Fld Z h26 a5 "com/example/subsumer/subsumer/core/Description" "universals" "Ljava/util/List;" (.null) := ((((D11 70 (Or.inr rfl) (ty := (.object "java/util/List")) (by decide) : Fld Z h6 a5 "com/example/subsumer/subsumer/core/Description" "universals" "Ljava/util/List;" (.null)).keep K16 nin0).keep K22 (ninS ne43 nin0)).keep K30 nin0)
    have F47 : Fld Z h26 a5 "com/example/subsumer/subsumer/core/Description" "atLeast" "Ljava/util/List;" (.null) := ((((D11 72 (Or.inr rfl) (ty := (.object "java/util/List")) (by decide) : Fld Z h6 a5 "com/example/subsumer/subsumer/core/Description" "atLeast" "Ljava/util/List;" (.null)).keep K16 nin0).keep K22 (ninS ne43 nin0)).keep K30 nin0)
    have F48 : Fld Z h26 a5 "com/example/subsumer/subsumer/core/Description" "atMost" "Ljava/util/List;" (.null) := ((((D11 74 (Or.inr rfl) (ty := (.object "java/util/List")) (by decide) : Fld Z h6 a5 "com/example/subsumer/subsumer/core/Description" "atMost" "Ljava/util/List;" (.null)).keep K16 nin0).keep K22 (ninS ne43 nin0)).keep K30 nin0)
    have F49 : Fld Z h26 a5 "com/example/subsumer/subsumer/core/Description" "existentialInside" "Z" (.int (0 : Int32)) := ((((D11 128 (Or.inr rfl) (ty := .boolean) (by decide) : Fld Z h6 a5 "com/example/subsumer/subsumer/core/Description" "existentialInside" "Z" (.int (0 : Int32))).keep K16 nin0).keep K22 (ninS ne43 nin0)).keep K30 nin0)
    have F50 : Fld Z h26 a5 "com/example/subsumer/subsumer/core/Description" "numberInside" "Z" (.int (0 : Int32)) := ((((D11 130 (Or.inr rfl) (ty := .boolean) (by decide) : Fld Z h6 a5 "com/example/subsumer/subsumer/core/Description" "numberInside" "Z" (.int (0 : Int32))).keep K16 nin0).keep K22 (ninS ne43 nin0)).keep K30 nin0)
    refine Go.callI 38 rfl (C := B10) a5 [.ref lem, .ref l28, .ref el] (rest := [.ref a5]) 58 59 28 60 (c10 Z hw h26 a5 lem l28 el el ea em top bot lem non hv z8 F42 F44 F45 F46 F47 F48 F49 F50 (some a12) V31 none (Or.inl ⟨rfl, rfl⟩) (fun _ q => Option.some.inj q ▸ W36) (fun x hx => by cases hx)) d23_35 rfl rfl rfl rfl rfl rfl (by decide) pd10 rfl rfl rfl (W := 1) (Nat.le_of_ble_eq_true rfl) (by decide) (by decide) (by decide) (by decide) fun v51 h52 q53 => ?_
    obtain ⟨rfl, K54, F55, F56, F57, F58, F59, q62, q63, F60, F61⟩ := q53
    have ne64 : l28 ≠ a5 := (show @Ne Nat l28 a5 from by have := ltN E10.lt; have := K16.1; have := K22.1; have := g29; omega)
    have F65 : Exa Z h52 a5 "com/example/subsumer/subsumer/core/Description" := (F42.keep K54)
    have F66 : Exa Z h52 a12 "com/example/subsumer/subsumer/core/Existential" := (F37.keep K54)
    have F67 : Fld Z h52 a12 "com/example/subsumer/subsumer/core/Existential" "filler" "Lcom/example/subsumer/subsumer/core/Description;" (.ref f) := (F38.keep K54 (ninS (Ne.symm ne43) nin0))
    exact Go.retA d23_38 rfl rfl rfl (by decide) (by decide) ⟨a5, l28, a12, rfl, Nat.le_of_eq g7.symm, ((((((Keep.refl h0 []).trans K9 all0).trans K16 all0).trans K22 (allS (Or.inr (by have := K9.1; have := K16.1; have := g14; omega)) all0)).trans K30 all0).trans K54 (allS (Or.inr (by have := K9.1; have := K16.1; have := K22.1; have := K30.1; have := g7; omega)) all0)), F65, F56, V31.keep K54 (ninS ne64 nin0), F66, F67⟩
  · exact absurd rfl b4
theorem d2_0 : decode jdk_43_method_3_code 0 = .ok (.iload_n 0, 1) := by decide +kernel
theorem d2_1 : decode jdk_43_method_3_code 1 = .ok (.sipush 255, 3) := by decide +kernel
theorem d2_4 : decode jdk_43_method_3_code 4 = .ok (.if_icmp .gt 7, 3) := by decide +kernel
theorem d2_7 : decode jdk_43_method_3_code 7 = .ok (.iconst 1, 1) := by decide +kernel
theorem d2_8 : decode jdk_43_method_3_code 8 = .ok (.goto 4, 3) := by decide +kernel
theorem d2_11 : decode jdk_43_method_3_code 11 = .ok (.iconst 0, 1) := by decide +kernel
theorem d2_12 : decode jdk_43_method_3_code 12 = .ok (.ireturn, 1) := by decide +kernel
theorem pd2 : parseMethodDescriptor "(C)Z" = some ⟨[.char], some .boolean⟩ := by decide +kernel
theorem pn2 : plainName "java/lang/StringLatin1" = true := by first | (simp [plainName, overriddenIn]; done) | decide +kernel
abbrev B2 : Bd := ((⟨"java/lang/StringLatin1", "canEncode", "(C)Z"⟩ : MethodName), jdk_43_method_3_code, 1, (some .boolean), ({ frames := 0, cells := 0, slots := 0, locals := 0 } : Room), tables_1)
theorem ef2 (mid : MethodId) (x : Int32) : entryFrame mid (List.toArray [.int x]) 1 = mkF mid 0 #[.val (.int x)] [] := by first | (simp [entryFrame, mkF, argsToLocals, Value.category]; done) | rfl
def Q2 (h0 : Heap) (v : Option Value) (h : Heap) : Prop := v = some (.int 1) ∧ h0 = h
set_option maxRecDepth 65536 in
set_option maxHeartbeats 40000000 in
theorem c2 (Z : State) (hw : Wd Z tables_1) (h0 : Heap) (x : Int32)  (hx : ¬ (255 : Int32) < x) : Con Z B2 (List.toArray [.int x]) h0 (Q2 h0) := by
  refine Con.mk hw pn2 (fun mid => ef2 mid x) (Go.old fun hle' => ?_)
  have hle := hle'.1
  refine Go.iloadN 1 rfl d2_0 rfl ?_
  refine Go.sipush 4 rfl (255 : Int32) d2_1 rfl ?_
  refine Go.icmp_gt 11 7 d2_4 (by decide) rfl rfl (fun (b1 : (255 : Int32) < x) => ?_) (fun (b1 : ¬ (255 : Int32) < x) => ?_)
  · exact absurd b1 hx
  · refine Go.iconst 8 rfl (1 : Int32) d2_7 rfl ?_
    refine Go.goto 12 d2_8 (by decide) (by decide) ?_
    exact Go.retN (t := .boolean) (z' := (1 : Int32)) d2_12 rfl (by decide) rfl (by decide) (by decide) ⟨rfl, rfl⟩
theorem d3_0 : decode jdk_43_method_46_code 0 = .ok (.iconst 1, 1) := by decide +kernel
theorem d3_1 : decode jdk_43_method_46_code 1 = .ok (.newarray .byte, 2) := by decide +kernel
theorem d3_3 : decode jdk_43_method_46_code 3 = .ok (.dup, 1) := by decide +kernel
theorem d3_4 : decode jdk_43_method_46_code 4 = .ok (.iconst 0, 1) := by decide +kernel
theorem d3_5 : decode jdk_43_method_46_code 5 = .ok (.iload_n 0, 1) := by decide +kernel
theorem d3_6 : decode jdk_43_method_46_code 6 = .ok (.i2b, 1) := by decide +kernel
theorem d3_7 : decode jdk_43_method_46_code 7 = .ok (.bastore, 1) := by decide +kernel
theorem d3_8 : decode jdk_43_method_46_code 8 = .ok (.areturn, 1) := by decide +kernel
theorem pd3 : parseMethodDescriptor "(C)[B" = some ⟨[.char], some (.array .byte)⟩ := by decide +kernel
theorem pn3 : plainName "java/lang/StringLatin1" = true := by first | (simp [plainName, overriddenIn]; done) | decide +kernel
abbrev B3 : Bd := ((⟨"java/lang/StringLatin1", "toBytes", "(C)[B"⟩ : MethodName), jdk_43_method_46_code, 1, (some (.array .byte)), ({ frames := 0, cells := 1, slots := 1, locals := 0 } : Room), tables_1)
theorem ef3 (mid : MethodId) (x : Int32) : entryFrame mid (List.toArray [.int x]) 1 = mkF mid 0 #[.val (.int x)] [] := by first | (simp [entryFrame, mkF, argsToLocals, Value.category]; done) | rfl
def Q3 (h0 : Heap) (v : Option Value) (h : Heap) : Prop := ∃ t, v = some (.ref t) ∧ h0.size ≤ t ∧ Keep h0 h []
set_option maxRecDepth 65536 in
set_option maxHeartbeats 40000000 in
theorem c3 (Z : State) (hw : Wd Z tables_1) (h0 : Heap) (x : Int32)   : Con Z B3 (List.toArray [.int x]) h0 (Q3 h0) := by
  refine Con.mk hw pn3 (fun mid => ef3 mid x) (Go.old fun hle' => ?_)
  have hle := hle'.1
  refine Go.iconst 1 rfl (1 : Int32) d3_0 rfl ?_
  refine Go.newA 3 rfl 14 1 1 d3_1 rfl rfl (by decide) (by decide) (by decide) (by decide) fun h2 a1 g3 z4 K5 A6 E7 => ?_
  have A8 : Ary Z h2 a1 .byte [.int 0] := A6
  refine Go.dup 4 rfl d3_3 rfl ?_
  refine Go.iconst 5 rfl (0 : Int32) d3_4 rfl ?_
  refine Go.iloadN 6 rfl d3_5 rfl ?_
  refine Go.i2b 7 rfl d3_6 ?_
  refine Go.stB 8 rfl d3_7 A8 0 rfl (Nat.le_of_ble_eq_true rfl) z4 fun h9 K10 A11 => ?_
  have A12 : Ary Z h9 a1 .byte [.int (nar .byte x.toInt8.toInt32)] := A11
  exact Go.retA d3_8 rfl rfl rfl (by decide) (by decide) ⟨a1, rfl, Nat.le_of_eq g3.symm, (((Keep.refl h0 []).trans K5 all0).trans K10 (allS (Or.inr (by have := K5.1; have := g3; omega)) all0))⟩
theorem d4_0 : decode jdk_42_method_151_code 0 = .ok (.aload_n 0, 1) := by decide +kernel
theorem d4_1 : decode jdk_42_method_151_code 1 = .ok (.invokespecial 1, 3) := by decide +kernel
theorem d4_4 : decode jdk_42_method_151_code 4 = .ok (.aload_n 0, 1) := by decide +kernel
theorem d4_5 : decode jdk_42_method_151_code 5 = .ok (.aload_n 1, 1) := by decide +kernel
theorem d4_6 : decode jdk_42_method_151_code 6 = .ok (.putfield 9, 3) := by decide +kernel
theorem d4_9 : decode jdk_42_method_151_code 9 = .ok (.aload_n 0, 1) := by decide +kernel
theorem d4_10 : decode jdk_42_method_151_code 10 = .ok (.iload_n 2, 1) := by decide +kernel
theorem d4_11 : decode jdk_42_method_151_code 11 = .ok (.putfield 15, 3) := by decide +kernel
theorem d4_14 : decode jdk_42_method_151_code 14 = .ok (.return_, 1) := by decide +kernel
theorem pd4 : parseMethodDescriptor "([BB)V" = some ⟨[(.array .byte), .byte], none⟩ := by decide +kernel
theorem pn4 : plainName "java/lang/String" = true := by first | (simp [plainName, overriddenIn]; done) | decide +kernel
abbrev B4 : Bd := ((⟨"java/lang/String", "<init>", "([BB)V"⟩ : MethodName), jdk_42_method_151_code, 3, none, ({ frames := 1, cells := 0, slots := 0, locals := 12 } : Room), tables_1)
theorem ef4 (mid : MethodId) (a : Addr) (t : Addr) : entryFrame mid (List.toArray [.ref a, .ref t, .int (0 : Int32)]) 3 = mkF mid 0 #[.val (.ref a), .val (.ref t), .val (.int (0 : Int32))] [] := by first | (simp [entryFrame, mkF, argsToLocals, Value.category]; done) | rfl
def Q4 (Z : State) (a : Addr) (t : Addr) (h0 : Heap) (v : Option Value) (h : Heap) : Prop := v = none ∧ Keep h0 h [a] ∧ Fld Z h a "java/lang/String" "value" "[B" (.ref t) ∧ Fld Z h a "java/lang/String" "coder" "B" (.int (0 : Int32))
set_option maxRecDepth 65536 in
set_option maxHeartbeats 40000000 in
theorem c4 (Z : State) (hw : Wd Z tables_1) (h0 : Heap) (a : Addr) (t : Addr)  (hge : Z.heap.size ≤ a) (hE : Exa Z h0 a "java/lang/String") (hF0 : Fld Z h0 a "java/lang/String" "value" "[B" (.null)) (hF1 : Fld Z h0 a "java/lang/String" "coder" "B" (.int (0 : Int32))) : Con Z B4 (List.toArray [.ref a, .ref t, .int (0 : Int32)]) h0 (Q4 Z a t h0) := by
  refine Con.mk hw pn4 (fun mid => ef4 mid a t) (Go.old fun hle' => ?_)
  have hle := hle'.1
  refine Go.aloadN 1 rfl d4_0 rfl rfl ?_
  refine Go.initO 4 rfl 19 20 21 d4_1 rfl rfl rfl rfl (by decide) (W := 0) (Nat.le_of_ble_eq_true rfl) (by decide) ?_
  refine Go.aloadN 5 rfl d4_4 rfl rfl ?_
  refine Go.aloadN 6 rfl d4_5 rfl rfl ?_
  refine Go.putF 9 rfl (v' := .ref t) (ty := (.array .byte)) 22 23 10 d4_6 rfl hF0 hE (Or.inr ⟨rfl, rfl, rfl⟩) rfl (by decide) rfl rfl hge fun h1 K2 W3 F4 => ?_
  refine Go.aloadN 10 rfl d4_9 rfl rfl ?_
  refine Go.iloadN 11 rfl d4_10 rfl ?_
  have F5 : Fld Z h1 a "java/lang/String" "coder" "B" (.int (0 : Int32)) := (Fld.oth hw hF1 W3 25 23 (Or.inr rfl) (Or.inr rfl) (by decide) rfl rfl)
  have F6 : Exa Z h1 a "java/lang/String" := (hE.keep K2)
  refine Go.putF 14 rfl (v' := .int (0 : Int32)) (ty := .byte) 24 25 10 d4_11 rfl F5 F6 (Or.inr ⟨rfl, rfl, rfl⟩) rfl (by decide) rfl rfl hge fun h7 K8 W9 F10 => ?_
  have F11 : Fld Z h7 a "java/lang/String" "value" "[B" (.ref t) := (Fld.oth hw F4 W9 23 25 (Or.inr rfl) (Or.inr rfl) (by decide) rfl rfl)
  exact Go.retV d4_14 rfl (by decide) (by decide) ⟨rfl, (((Keep.refl h0 [a]).trans K2 (by simp)).trans K8 (by simp)), F11, F10⟩
theorem d1_0 : decode jdk_42_method_139_code 0 = .ok (.getstatic 38, 3) := by decide +kernel
theorem d1_3 : decode jdk_42_method_139_code 3 = .ok (.ifCond .eq 23, 3) := by decide +kernel
theorem d1_6 : decode jdk_42_method_139_code 6 = .ok (.iload_n 0, 1) := by decide +kernel
theorem d1_7 : decode jdk_42_method_139_code 7 = .ok (.invokestatic 1015, 3) := by decide +kernel
theorem d1_10 : decode jdk_42_method_139_code 10 = .ok (.ifCond .eq 16, 3) := by decide +kernel
theorem d1_13 : decode jdk_42_method_139_code 13 = .ok (.new 10, 3) := by decide +kernel
theorem d1_16 : decode jdk_42_method_139_code 16 = .ok (.dup, 1) := by decide +kernel
theorem d1_17 : decode jdk_42_method_139_code 17 = .ok (.iload_n 0, 1) := by decide +kernel
theorem d1_18 : decode jdk_42_method_139_code 18 = .ok (.invokestatic 1018, 3) := by decide +kernel
theorem d1_21 : decode jdk_42_method_139_code 21 = .ok (.iconst 0, 1) := by decide +kernel
theorem d1_22 : decode jdk_42_method_139_code 22 = .ok (.invokespecial 209, 3) := by decide +kernel
theorem d1_25 : decode jdk_42_method_139_code 25 = .ok (.areturn, 1) := by decide +kernel
theorem pd1 : parseMethodDescriptor "(C)Ljava/lang/String;" = some ⟨[.char], some (.object "java/lang/String")⟩ := by decide +kernel
theorem pn1 : plainName "java/lang/String" = true := by first | (simp [plainName, overriddenIn]; done) | decide +kernel
abbrev B1 : Bd := ((⟨"java/lang/String", "valueOf", "(C)Ljava/lang/String;"⟩ : MethodName), jdk_42_method_139_code, 1, (some (.object "java/lang/String")), ({ frames := 2, cells := 2, slots := 5, locals := 27 } : Room), tables_1)
theorem ef1 (mid : MethodId) (x : Int32) : entryFrame mid (List.toArray [.int x]) 1 = mkF mid 0 #[.val (.int x)] [] := by first | (simp [entryFrame, mkF, argsToLocals, Value.category]; done) | rfl
def Q1 (Z : State) (h0 : Heap) (v : Option Value) (h : Heap) : Prop := ∃ a, v = some (.ref a) ∧ h0.size ≤ a ∧ Keep h0 h [] ∧ Exa Z h a "java/lang/String"
set_option maxRecDepth 65536 in
set_option maxHeartbeats 40000000 in
theorem c1 (Z : State) (hw : Wd Z tables_1) (h0 : Heap) (x : Int32)  (cs : Int32) (hS : Sta Z Z.heap "java/lang/String" "COMPACT_STRINGS" "Z" (.int cs)) (hcs : ¬ cs = 0) (hx : ¬ (255 : Int32) < x) : Con Z B1 (List.toArray [.int x]) h0 (Q1 Z h0) := by
  refine Con.mk hw pn1 (fun mid => ef1 mid x) (Go.old fun hle' => ?_)
  have hle := hle'.1
  refine Go.getS 3 rfl (v := .int cs) 4 d1_0 rfl hS ?_
  refine Go.if_eq 26 6 d1_3 (by decide) rfl rfl (fun (b1 : cs = 0) => ?_) (fun (b1 : ¬ cs = 0) => ?_)
  · exact absurd b1 hcs
  · refine Go.iloadN 7 rfl d1_6 rfl ?_
    refine Go.callS 10 rfl (C := B2) [.int x] (rest := []) 5 6 7 8 (c2 Z hw h0 x hx) d1_7 rfl rfl rfl rfl (by decide) pd2 rfl rfl rfl (W := 0) (Nat.le_of_ble_eq_true rfl) (by decide) (by decide) (by decide) (by decide) fun v2 h3 q4 => ?_
    obtain ⟨rfl, rfl⟩ := q4
    refine Go.if_eq 26 13 d1_10 (by decide) rfl rfl (fun (b5 : (1 : Int32) = 0) => ?_) (fun (b5 : ¬ (1 : Int32) = 0) => ?_)
    · exact absurd b5 (by decide)
    · refine Go.newO 16 rfl 9 10 2 d1_13 rfl rfl rfl (by decide) (by decide) fun h7 a6 g8 z9 K10 E11 D12 => ?_
      refine Go.dup 17 rfl d1_16 rfl ?_
      refine Go.iloadN 18 rfl d1_17 rfl ?_
      refine Go.callS 21 rfl (C := B3) [.int x] (rest := [.ref a6, .ref a6]) 11 12 7 13 (c3 Z hw h7 x) d1_18 rfl rfl rfl rfl (by decide) pd3 rfl rfl rfl (W := 2) (Nat.le_of_ble_eq_true rfl) (by decide) (by decide) (by decide) (by decide) fun v13 h14 q15 => ?_
      obtain ⟨t, rfl, g16, K17⟩ := q15
      refine Go.iconst 22 rfl (0 : Int32) d1_21 rfl ?_
      have F18 : Exa Z h14 a6 "java/lang/String" := (E11.keep K17)
      have F19 : Fld Z h14 a6 "java/lang/String" "value" "[B" (.null) := ((D12 23 (Or.inr rfl) (ty := (.array .byte)) (by decide) : Fld Z h7 a6 "java/lang/String" "value" "[B" (.null)).keep K17 nin0)
      have F20 : Fld Z h14 a6 "java/lang/String" "coder" "B" (.int (0 : Int32)) := ((D12 25 (Or.inr rfl) (ty := .byte) (by decide) : Fld Z h7 a6 "java/lang/String" "coder" "B" (.int (0 : Int32))).keep K17 nin0)
      refine Go.callI 25 rfl (C := B4) a6 [.ref t, .int (0 : Int32)] (rest := [.ref a6]) 15 16 2 18 (c4 Z hw h14 a6 t z9 F18 F19 F20) d1_22 rfl rfl rfl rfl rfl rfl (by decide) pd4 rfl rfl rfl (W := 1) (Nat.le_of_ble_eq_true rfl) (by decide) (by decide) (by decide) (by decide) fun v21 h22 q23 => ?_
      obtain ⟨rfl, K24, F25, F26⟩ := q23
      have F27 : Exa Z h22 a6 "java/lang/String" := (F18.keep K24)
      exact Go.retA d1_25 rfl rfl rfl (by decide) (by decide) ⟨a6, rfl, Nat.le_of_eq g8.symm, ((((Keep.refl h0 []).trans K10 all0).trans K17 all0).trans K24 (allS (Or.inr (by have := K10.1; have := K17.1; have := g8; omega)) all0)), F27⟩
theorem d22_0 : decode prog_14_method_5_code 0 = .ok (.aload_n 0, 1) := by decide +kernel
theorem d22_1 : decode prog_14_method_5_code 1 = .ok (.getfield 7, 3) := by decide +kernel
theorem d22_4 : decode prog_14_method_5_code 4 = .ok (.arraylength, 1) := by decide +kernel
theorem d22_5 : decode prog_14_method_5_code 5 = .ok (.ifCond .ne 15, 3) := by decide +kernel
theorem d22_8 : decode prog_14_method_5_code 8 = .ok (.aload_n 0, 1) := by decide +kernel
theorem d22_9 : decode prog_14_method_5_code 9 = .ok (.getfield 13, 3) := by decide +kernel
theorem d22_12 : decode prog_14_method_5_code 12 = .ok (.arraylength, 1) := by decide +kernel
theorem d22_13 : decode prog_14_method_5_code 13 = .ok (.ifCond .ne 7, 3) := by decide +kernel
theorem d22_16 : decode prog_14_method_5_code 16 = .ok (.iconst 1, 1) := by decide +kernel
theorem d22_17 : decode prog_14_method_5_code 17 = .ok (.goto 4, 3) := by decide +kernel
theorem d22_20 : decode prog_14_method_5_code 20 = .ok (.iconst 0, 1) := by decide +kernel
theorem d22_21 : decode prog_14_method_5_code 21 = .ok (.ireturn, 1) := by decide +kernel
theorem pd22 : parseMethodDescriptor "()Z" = some ⟨[], some .boolean⟩ := by decide +kernel
theorem pn22 : plainName "com/example/subsumer/subsumer/core/Label" = true := by first | (simp [plainName, overriddenIn]; done) | decide +kernel
abbrev B22 : Bd := ((⟨"com/example/subsumer/subsumer/core/Label", "isEmpty", "()Z"⟩ : MethodName), prog_14_method_5_code, 1, (some .boolean), ({ frames := 0, cells := 0, slots := 0, locals := 0 } : Room), tables_1)
theorem ef22 (mid : MethodId) (a : Addr) : entryFrame mid (List.toArray [.ref a]) 1 = mkF mid 0 #[.val (.ref a)] [] := by first | (simp [entryFrame, mkF, argsToLocals, Value.category]; done) | rfl
def Q22 (vs : List Value) (us : List Value) (h0 : Heap) (v : Option Value) (h : Heap) : Prop := v = some (.int (if vs.length = 0 ∧ us.length = 0 then 1 else 0)) ∧ h0 = h
set_option maxRecDepth 65536 in
set_option maxHeartbeats 40000000 in
theorem c22 (Z : State) (hw : Wd Z tables_1) (h0 : Heap) (a : Addr) (vs : List Value) (us : List Value) (t : Addr) (u : Addr) (hN : Fld Z h0 a "com/example/subsumer/subsumer/core/Label" "names" "[Ljava/lang/String;" (.ref t)) (hG : Fld Z h0 a "com/example/subsumer/subsumer/core/Label" "negated" "[Ljava/lang/String;" (.ref u)) (hT : Ary Z h0 t (.object "java/lang/String") vs) (hU : Ary Z h0 u (.object "java/lang/String") us) : Con Z B22 (List.toArray [.ref a]) h0 (Q22 vs us h0) := by
  refine Con.mk hw pn22 (fun mid => ef22 mid a) (Go.old fun hle' => ?_)
  have hle := hle'.1
  refine Go.aloadN 1 rfl d22_0 rfl rfl ?_
  refine Go.getF 4 rfl (v := .ref t) 48 d22_1 rfl hN ?_
  refine Go.alen 5 rfl (Int32.ofNat vs.length) d22_4 hT (len_ofNat hT.len) ?_
  refine Go.if_ne 20 8 d22_5 (by decide) rfl rfl (fun (b1 : ¬ (Int32.ofNat vs.length) = 0) => ?_) (fun (b1 : (Int32.ofNat vs.length) = 0) => ?_)
  · refine Go.iconst 21 rfl (0 : Int32) d22_20 rfl ?_
    exact Go.retN (t := .boolean) (z' := (0 : Int32)) d22_21 rfl (by decide) rfl (by decide) (by decide) ⟨by rw [if_neg (fun z => b1 ((ofNat_zero hT.len).mpr z.1))], rfl⟩
  · refine Go.aloadN 9 rfl d22_8 rfl rfl ?_
    refine Go.getF 12 rfl (v := .ref u) 50 d22_9 rfl hG ?_
    refine Go.alen 13 rfl (Int32.ofNat us.length) d22_12 hU (len_ofNat hU.len) ?_
    refine Go.if_ne 20 16 d22_13 (by decide) rfl rfl (fun (b2 : ¬ (Int32.ofNat us.length) = 0) => ?_) (fun (b2 : (Int32.ofNat us.length) = 0) => ?_)
    · refine Go.iconst 21 rfl (0 : Int32) d22_20 rfl ?_
      exact Go.retN (t := .boolean) (z' := (0 : Int32)) d22_21 rfl (by decide) rfl (by decide) (by decide) ⟨by rw [if_neg (fun z => b2 ((ofNat_zero hU.len).mpr z.2))], rfl⟩
    · refine Go.iconst 17 rfl (1 : Int32) d22_16 rfl ?_
      refine Go.goto 21 d22_17 (by decide) (by decide) ?_
      exact Go.retN (t := .boolean) (z' := (1 : Int32)) d22_21 rfl (by decide) rfl (by decide) (by decide) ⟨by rw [if_pos ⟨(ofNat_zero hT.len).mp b1, (ofNat_zero hU.len).mp b2⟩], rfl⟩
theorem d21_0 : decode prog_3_method_20_code 0 = .ok (.aload_n 0, 1) := by decide +kernel
theorem d21_1 : decode prog_3_method_20_code 1 = .ok (.getstatic 72, 3) := by decide +kernel
theorem d21_4 : decode prog_3_method_20_code 4 = .ok (.if_acmp .eq 65, 3) := by decide +kernel
theorem d21_7 : decode prog_3_method_20_code 7 = .ok (.aload_n 0, 1) := by decide +kernel
theorem d21_8 : decode prog_3_method_20_code 8 = .ok (.getfield 18, 3) := by decide +kernel
theorem d21_11 : decode prog_3_method_20_code 11 = .ok (.invokevirtual 190, 3) := by decide +kernel
theorem d21_14 : decode prog_3_method_20_code 14 = .ok (.ifCond .eq 55, 3) := by decide +kernel
theorem d21_17 : decode prog_3_method_20_code 17 = .ok (.aload_n 0, 1) := by decide +kernel
theorem d21_18 : decode prog_3_method_20_code 18 = .ok (.getfield 22, 3) := by decide +kernel
theorem d21_21 : decode prog_3_method_20_code 21 = .ok (.invokeinterface 35 1, 5) := by decide +kernel
theorem d21_26 : decode prog_3_method_20_code 26 = .ok (.ifCond .eq 43, 3) := by decide +kernel
theorem d21_29 : decode prog_3_method_20_code 29 = .ok (.aload_n 0, 1) := by decide +kernel
theorem d21_30 : decode prog_3_method_20_code 30 = .ok (.getfield 26, 3) := by decide +kernel
theorem d21_33 : decode prog_3_method_20_code 33 = .ok (.invokeinterface 35 1, 5) := by decide +kernel
theorem d21_38 : decode prog_3_method_20_code 38 = .ok (.ifCond .eq 31, 3) := by decide +kernel
theorem d21_41 : decode prog_3_method_20_code 41 = .ok (.aload_n 0, 1) := by decide +kernel
theorem d21_42 : decode prog_3_method_20_code 42 = .ok (.getfield 29, 3) := by decide +kernel
theorem d21_45 : decode prog_3_method_20_code 45 = .ok (.invokeinterface 35 1, 5) := by decide +kernel
theorem d21_50 : decode prog_3_method_20_code 50 = .ok (.ifCond .eq 19, 3) := by decide +kernel
theorem d21_53 : decode prog_3_method_20_code 53 = .ok (.aload_n 0, 1) := by decide +kernel
theorem d21_54 : decode prog_3_method_20_code 54 = .ok (.getfield 32, 3) := by decide +kernel
theorem d21_57 : decode prog_3_method_20_code 57 = .ok (.invokeinterface 35 1, 5) := by decide +kernel
theorem d21_62 : decode prog_3_method_20_code 62 = .ok (.ifCond .eq 7, 3) := by decide +kernel
theorem d21_65 : decode prog_3_method_20_code 65 = .ok (.iconst 1, 1) := by decide +kernel
theorem d21_66 : decode prog_3_method_20_code 66 = .ok (.goto 4, 3) := by decide +kernel
theorem d21_69 : decode prog_3_method_20_code 69 = .ok (.iconst 0, 1) := by decide +kernel
theorem d21_70 : decode prog_3_method_20_code 70 = .ok (.ireturn, 1) := by decide +kernel
theorem pd21 : parseMethodDescriptor "()Z" = some ⟨[], some .boolean⟩ := by decide +kernel
theorem pn21 : plainName "com/example/subsumer/subsumer/core/Description" = true := by first | (simp [plainName, overriddenIn]; done) | decide +kernel
abbrev B21 : Bd := ((⟨"com/example/subsumer/subsumer/core/Description", "isTop", "()Z"⟩ : MethodName), prog_3_method_20_code, 1, (some .boolean), ({ frames := 1, cells := 0, slots := 0, locals := 12 } : Room), tables_1)
theorem ef21 (mid : MethodId) (a : Addr) : entryFrame mid (List.toArray [.ref a]) 1 = mkF mid 0 #[.val (.ref a)] [] := by first | (simp [entryFrame, mkF, argsToLocals, Value.category]; done) | rfl
def Q21 (vs : List Value) (us : List Value) (oex : Option Addr) (oun : Option Addr) (oal : Option Addr) (oam : Option Addr) (h0 : Heap) (v : Option Value) (h : Heap) : Prop := v = some (.int (if vs.length = 0 ∧ us.length = 0 ∧ oex = none ∧ oun = none ∧ oal = none ∧ oam = none then 1 else 0)) ∧ h0 = h
set_option maxRecDepth 65536 in
set_option maxHeartbeats 40000000 in
theorem c21 (Z : State) (hw : Wd Z tables_1) (h0 : Heap) (a : Addr) (vs : List Value) (us : List Value) (oex : Option Addr) (oun : Option Addr) (oal : Option Addr) (oam : Option Addr) (el : Addr) (ea : Addr) (em : Addr) (top : Addr) (bot : Addr) (lem : Addr) (non : Addr) (hv : Ev0 Z el ea em top bot lem non) (lb : Addr) (ex : Addr) (un : Addr) (al : Addr) (am : Addr) (t : Addr) (u : Addr) (hF_label : Fld Z h0 a "com/example/subsumer/subsumer/core/Description" "label" "Lcom/example/subsumer/subsumer/core/Label;" (.ref lb)) (hF_existentials : Fld Z h0 a "com/example/subsumer/subsumer/core/Description" "existentials" "Ljava/util/List;" (.ref ex)) (hF_universals : Fld Z h0 a "com/example/subsumer/subsumer/core/Description" "universals" "Ljava/util/List;" (.ref un)) (hF_atLeast : Fld Z h0 a "com/example/subsumer/subsumer/core/Description" "atLeast" "Ljava/util/List;" (.ref al)) (hF_atMost : Fld Z h0 a "com/example/subsumer/subsumer/core/Description" "atMost" "Ljava/util/List;" (.ref am)) (hElb : Exa Z h0 lb "com/example/subsumer/subsumer/core/Label") (hnb : ¬ a = bot) (hN : Fld Z h0 lb "com/example/subsumer/subsumer/core/Label" "names" "[Ljava/lang/String;" (.ref t)) (hG : Fld Z h0 lb "com/example/subsumer/subsumer/core/Label" "negated" "[Ljava/lang/String;" (.ref u)) (hT : Ary Z h0 t (.object "java/lang/String") vs) (hU : Ary Z h0 u (.object "java/lang/String") us) (hEx : LV Z h0 el em ex oex) (hUn : LV Z h0 el em un oun) (hAl : LV Z h0 el em al oal) (hAm : LV Z h0 el em am oam) : Con Z B21 (List.toArray [.ref a]) h0 (Q21 vs us oex oun oal oam h0) := by
  refine Con.mk hw pn21 (fun mid => ef21 mid a) (Go.old fun hle' => ?_)
  have hle := hle'.1
  obtain ⟨hSel, hSem, hStop, hSbot, hSlem, hSnon, hEel, hFel, hAea, hEtop, hTl, hTe, hTu, hTa, hTm, hEbot, hnbt, hElem, hLn, hLg, hAnon⟩ := id hv
  refine Go.aloadN 1 rfl d21_0 rfl rfl ?_
  refine Go.getS 4 rfl (v := .ref bot) 161 d21_1 rfl hSbot ?_
  refine Go.acmp_eq 69 7 d21_4 (by decide) rfl rfl rfl rfl (fun (b1 : (.ref a : Value) = .ref bot) => ?_) (fun (b1 : ¬ (.ref a : Value) = .ref bot) => ?_)
  · exact absurd (Value.ref.inj b1) hnb
  · refine Go.aloadN 8 rfl d21_7 rfl rfl ?_
    refine Go.getF 11 rfl (v := .ref lb) 65 d21_8 rfl hF_label ?_
    refine Go.callV 14 rfl (C := B22) lb [] (rest := []) 163 164 166 165 39 167 (c22 Z hw h0 lb vs us t u hN hG hT hU) hElb d21_11 rfl rfl rfl rfl rfl rfl (by decide) pd22 rfl rfl rfl (W := 0) (Nat.le_of_ble_eq_true rfl) (by decide) (by decide) (by decide) (by decide) fun v2 h3 q4 => ?_
    obtain ⟨rfl, rfl⟩ := q4
    refine Go.if_eq 69 17 d21_14 (by decide) rfl rfl (fun (b5 : (if vs.length = 0 ∧ us.length = 0 then 1 else 0) = 0) => ?_) (fun (b5 : ¬ (if vs.length = 0 ∧ us.length = 0 then 1 else 0) = 0) => ?_)
    · refine Go.iconst 70 rfl (0 : Int32) d21_69 rfl ?_
      exact Go.retN (t := .boolean) (z' := (0 : Int32)) d21_70 rfl (by decide) rfl (by decide) (by decide) ⟨by rw [if_neg (fun z => absurd ⟨z.1, z.2.1⟩ (own_ite0 b5))], rfl⟩
    · refine Go.aloadN 18 rfl d21_17 rfl rfl ?_
      refine Go.getF 21 rfl (v := .ref ex) 67 d21_18 rfl hF_existentials ?_
      refine Go.joinI (pcJ := 26) (LsJ := #[.val (.ref a)]) (stJ := []) (fun v => v = if oex = none then 1 else 0) (fun J => ?_) (fun e6 he7 => ?_)
      · refine Go.old fun x8 => ?_
        rcases hEx with ⟨ho, hl⟩ | ⟨y, ho, E, F0, F1⟩
        · refine Go.callF 26 rfl (C := B12) (y := ⟨"java/util/List", "isEmpty", "()Z"⟩) ex [] (rest := []) 75 76 77 78 79 80 81 82 83 84 (c12 Z hw h0 ex ea (hl ▸ hFel.ext x8) (hAea.ext x8)) (hl ▸ hEel.ext x8) d21_21 rfl rfl rfl rfl rfl rfl rfl rfl rfl rfl rfl (by decide) pd12 rfl rfl rfl (W := 0) (Nat.le_of_ble_eq_true rfl) (by decide) (by decide) (by decide) (by decide) fun v9 h10 q11 => ?_
          obtain ⟨rfl, rfl⟩ := q11
          exact J _ (by simp [ho])
        · refine Go.callF 26 rfl (C := B33) (y := ⟨"java/util/List", "isEmpty", "()Z"⟩) ex [] (rest := []) 75 76 77 231 232 233 234 235 199 236 (c33 Z hw h0 ex) E d21_21 rfl rfl rfl rfl rfl rfl rfl rfl rfl rfl rfl (by decide) pd33 rfl rfl rfl (W := 0) (Nat.le_of_ble_eq_true rfl) (by decide) (by decide) (by decide) (by decide) fun v12 h13 q14 => ?_
          obtain ⟨rfl, rfl⟩ := q14
          exact J _ (by simp [ho])
      · refine Go.if_eq 69 29 d21_26 (by decide) rfl rfl (fun (b15 : e6 = 0) => ?_) (fun (b15 : ¬ e6 = 0) => ?_)
        · refine Go.iconst 70 rfl (0 : Int32) d21_69 rfl ?_
          exact Go.retN (t := .boolean) (z' := (0 : Int32)) d21_70 rfl (by decide) rfl (by decide) (by decide) ⟨by rw [if_neg (fun z => own_ite0 (he7.symm.trans b15) z.2.2.1)], rfl⟩
        · refine Go.aloadN 30 rfl d21_29 rfl rfl ?_
          refine Go.getF 33 rfl (v := .ref un) 69 d21_30 rfl hF_universals ?_
          refine Go.joinI (pcJ := 38) (LsJ := #[.val (.ref a)]) (stJ := []) (fun v => v = if oun = none then 1 else 0) (fun J => ?_) (fun e16 he17 => ?_)
          · refine Go.old fun x18 => ?_
            rcases hUn with ⟨ho, hl⟩ | ⟨y, ho, E, F0, F1⟩
            · refine Go.callF 38 rfl (C := B12) (y := ⟨"java/util/List", "isEmpty", "()Z"⟩) un [] (rest := []) 75 76 77 78 79 80 81 82 83 84 (c12 Z hw h0 un ea (hl ▸ hFel.ext x18) (hAea.ext x18)) (hl ▸ hEel.ext x18) d21_33 rfl rfl rfl rfl rfl rfl rfl rfl rfl rfl rfl (by decide) pd12 rfl rfl rfl (W := 0) (Nat.le_of_ble_eq_true rfl) (by decide) (by decide) (by decide) (by decide) fun v19 h20 q21 => ?_
              obtain ⟨rfl, rfl⟩ := q21
              exact J _ (by simp [ho])
            · refine Go.callF 38 rfl (C := B33) (y := ⟨"java/util/List", "isEmpty", "()Z"⟩) un [] (rest := []) 75 76 77 231 232 233 234 235 199 236 (c33 Z hw h0 un) E d21_33 rfl rfl rfl rfl rfl rfl rfl rfl rfl rfl rfl (by decide) pd33 rfl rfl rfl (W := 0) (Nat.le_of_ble_eq_true rfl) (by decide) (by decide) (by decide) (by decide) fun v22 h23 q24 => ?_
              obtain ⟨rfl, rfl⟩ := q24
              exact J _ (by simp [ho])
          · refine Go.if_eq 69 41 d21_38 (by decide) rfl rfl (fun (b25 : e16 = 0) => ?_) (fun (b25 : ¬ e16 = 0) => ?_)
            · refine Go.iconst 70 rfl (0 : Int32) d21_69 rfl ?_
              exact Go.retN (t := .boolean) (z' := (0 : Int32)) d21_70 rfl (by decide) rfl (by decide) (by decide) ⟨by rw [if_neg (fun z => own_ite0 (he17.symm.trans b25) z.2.2.2.1)], rfl⟩
            · refine Go.aloadN 42 rfl d21_41 rfl rfl ?_
              refine Go.getF 45 rfl (v := .ref al) 71 d21_42 rfl hF_atLeast ?_
              refine Go.joinI (pcJ := 50) (LsJ := #[.val (.ref a)]) (stJ := []) (fun v => v = if oal = none then 1 else 0) (fun J => ?_) (fun e26 he27 => ?_)
              · refine Go.old fun x28 => ?_
                rcases hAl with ⟨ho, hl⟩ | ⟨y, ho, E, F0, F1⟩
                · refine Go.callF 50 rfl (C := B12) (y := ⟨"java/util/List", "isEmpty", "()Z"⟩) al [] (rest := []) 75 76 77 78 79 80 81 82 83 84 (c12 Z hw h0 al ea (hl ▸ hFel.ext x28) (hAea.ext x28)) (hl ▸ hEel.ext x28) d21_45 rfl rfl rfl rfl rfl rfl rfl rfl rfl rfl rfl (by decide) pd12 rfl rfl rfl (W := 0) (Nat.le_of_ble_eq_true rfl) (by decide) (by decide) (by decide) (by decide) fun v29 h30 q31 => ?_
                  obtain ⟨rfl, rfl⟩ := q31
                  exact J _ (by simp [ho])
                · refine Go.callF 50 rfl (C := B33) (y := ⟨"java/util/List", "isEmpty", "()Z"⟩) al [] (rest := []) 75 76 77 231 232 233 234 235 199 236 (c33 Z hw h0 al) E d21_45 rfl rfl rfl rfl rfl rfl rfl rfl rfl rfl rfl (by decide) pd33 rfl rfl rfl (W := 0) (Nat.le_of_ble_eq_true rfl) (by decide) (by decide) (by decide) (by decide) fun v32 h33 q34 => ?_
                  obtain ⟨rfl, rfl⟩ := q34
                  exact J _ (by simp [ho])
              · refine Go.if_eq 69 53 d21_50 (by decide) rfl rfl (fun (b35 : e26 = 0) => ?_) (fun (b35 : ¬ e26 = 0) => ?_)
                · refine Go.iconst 70 rfl (0 : Int32) d21_69 rfl ?_
                  exact Go.retN (t := .boolean) (z' := (0 : Int32)) d21_70 rfl (by decide) rfl (by decide) (by decide) ⟨by rw [if_neg (fun z => own_ite0 (he27.symm.trans b35) z.2.2.2.2.1)], rfl⟩
                · refine Go.aloadN 54 rfl d21_53 rfl rfl ?_
                  refine Go.getF 57 rfl (v := .ref am) 73 d21_54 rfl hF_atMost ?_
                  refine Go.joinI (pcJ := 62) (LsJ := #[.val (.ref a)]) (stJ := []) (fun v => v = if oam = none then 1 else 0) (fun J => ?_) (fun e36 he37 => ?_)
                  · refine Go.old fun x38 => ?_
                    rcases hAm with ⟨ho, hl⟩ | ⟨y, ho, E, F0, F1⟩
                    · refine Go.callF 62 rfl (C := B12) (y := ⟨"java/util/List", "isEmpty", "()Z"⟩) am [] (rest := []) 75 76 77 78 79 80 81 82 83 84 (c12 Z hw h0 am ea (hl ▸ hFel.ext x38) (hAea.ext x38)) (hl ▸ hEel.ext x38) d21_57 rfl rfl rfl rfl rfl rfl rfl rfl rfl rfl rfl (by decide) pd12 rfl rfl rfl (W := 0) (Nat.le_of_ble_eq_true rfl) (by decide) (by decide) (by decide) (by decide) fun v39 h40 q41 => ?_
                      obtain ⟨rfl, rfl⟩ := q41
                      exact J _ (by simp [ho])
                    · refine Go.callF 62 rfl (C := B33) (y := ⟨"java/util/List", "isEmpty", "()Z"⟩) am [] (rest := []) 75 76 77 231 232 233 234 235 199 236 (c33 Z hw h0 am) E d21_57 rfl rfl rfl rfl rfl rfl rfl rfl rfl rfl rfl (by decide) pd33 rfl rfl rfl (W := 0) (Nat.le_of_ble_eq_true rfl) (by decide) (by decide) (by decide) (by decide) fun v42 h43 q44 => ?_
                      obtain ⟨rfl, rfl⟩ := q44
                      exact J _ (by simp [ho])
                  · refine Go.if_eq 69 65 d21_62 (by decide) rfl rfl (fun (b45 : e36 = 0) => ?_) (fun (b45 : ¬ e36 = 0) => ?_)
                    · refine Go.iconst 70 rfl (0 : Int32) d21_69 rfl ?_
                      exact Go.retN (t := .boolean) (z' := (0 : Int32)) d21_70 rfl (by decide) rfl (by decide) (by decide) ⟨by rw [if_neg (fun z => own_ite0 (he37.symm.trans b45) z.2.2.2.2.2)], rfl⟩
                    · refine Go.iconst 66 rfl (1 : Int32) d21_65 rfl ?_
                      refine Go.goto 70 d21_66 (by decide) (by decide) ?_
                      exact Go.retN (t := .boolean) (z' := (1 : Int32)) d21_70 rfl (by decide) rfl (by decide) (by decide) ⟨by rw [if_pos ⟨(own_ite1 b5).1, (own_ite1 b5).2, own_ite1 (fun q => b15 (he7.trans q)), own_ite1 (fun q => b25 (he17.trans q)), own_ite1 (fun q => b35 (he27.trans q)), own_ite1 (fun q => b45 (he37.trans q))⟩], rfl⟩
theorem ef21b (mid : MethodId) (bot : Addr) : entryFrame mid (List.toArray [.ref bot]) 1 = mkF mid 0 #[.val (.ref bot)] [] := by first | (simp [entryFrame, mkF, argsToLocals, Value.category]; done) | rfl
def Q21b (h0 : Heap) (v : Option Value) (h : Heap) : Prop := v = some (.int 0) ∧ h0 = h
set_option maxRecDepth 65536 in
set_option maxHeartbeats 40000000 in
theorem c21b (Z : State) (hw : Wd Z tables_1) (h0 : Heap) (bot : Addr)  (el : Addr) (ea : Addr) (em : Addr) (top : Addr) (lem : Addr) (non : Addr) (hv : Ev0 Z el ea em top bot lem non) : Con Z B21 (List.toArray [.ref bot]) h0 (Q21b h0) := by
  refine Con.mk hw pn21 (fun mid => ef21b mid bot) (Go.old fun hle' => ?_)
  have hle := hle'.1
  obtain ⟨hSel, hSem, hStop, hSbot, hSlem, hSnon, hEel, hFel, hAea, hEtop, hTl, hTe, hTu, hTa, hTm, hEbot, hnbt, hElem, hLn, hLg, hAnon⟩ := id hv
  refine Go.aloadN 1 rfl d21_0 rfl rfl ?_
  refine Go.getS 4 rfl (v := .ref bot) 161 d21_1 rfl hSbot ?_
  refine Go.acmp_eq 69 7 d21_4 (by decide) rfl rfl rfl rfl (fun (b1 : (.ref bot : Value) = .ref bot) => ?_) (fun (b1 : ¬ (.ref bot : Value) = .ref bot) => ?_)
  · refine Go.iconst 70 rfl (0 : Int32) d21_69 rfl ?_
    exact Go.retN (t := .boolean) (z' := (0 : Int32)) d21_70 rfl (by decide) rfl (by decide) (by decide) ⟨rfl, rfl⟩
  · exact absurd rfl b1
theorem d6_0 : decode prog_3_method_3_code 0 = .ok (.getstatic 68, 3) := by decide +kernel
theorem d6_3 : decode prog_3_method_3_code 3 = .ok (.areturn, 1) := by decide +kernel
theorem pd6 : parseMethodDescriptor "()Lcom/example/subsumer/subsumer/core/Description;" = some ⟨[], some (.object "com/example/subsumer/subsumer/core/Description")⟩ := by decide +kernel
theorem pn6 : plainName "com/example/subsumer/subsumer/core/Description" = true := by first | (simp [plainName, overriddenIn]; done) | decide +kernel
abbrev B6 : Bd := ((⟨"com/example/subsumer/subsumer/core/Description", "top", "()Lcom/example/subsumer/subsumer/core/Description;"⟩ : MethodName), prog_3_method_3_code, 0, (some (.object "com/example/subsumer/subsumer/core/Description")), ({ frames := 0, cells := 0, slots := 0, locals := 0 } : Room), tables_1)
theorem ef6 (mid : MethodId)  : entryFrame mid (List.toArray []) 0 = mkF mid 0 #[] [] := by first | (simp [entryFrame, mkF, argsToLocals, Value.category]; done) | rfl
def Q6 (top : Addr) (h0 : Heap) (v : Option Value) (h : Heap) : Prop := v = some (.ref top) ∧ h0 = h
set_option maxRecDepth 65536 in
set_option maxHeartbeats 40000000 in
theorem c6 (Z : State) (hw : Wd Z tables_1) (h0 : Heap)  (top : Addr) (el : Addr) (ea : Addr) (em : Addr) (bot : Addr) (lem : Addr) (non : Addr) (hv : Ev0 Z el ea em top bot lem non) : Con Z B6 (List.toArray []) h0 (Q6 top h0) := by
  refine Con.mk hw pn6 (fun mid => ef6 mid ) (Go.old fun hle' => ?_)
  have hle := hle'.1
  obtain ⟨hSel, hSem, hStop, hSbot, hSlem, hSnon, hEel, hFel, hAea, hEtop, hTl, hTe, hTu, hTa, hTm, hEbot, hnbt, hElem, hLn, hLg, hAnon⟩ := id hv
  refine Go.getS 3 rfl (v := .ref top) 30 d6_0 rfl hStop ?_
  exact Go.retA d6_3 rfl rfl rfl (by decide) (by decide) ⟨rfl, rfl⟩
theorem d40_0 : decode prog_3_method_4_code 0 = .ok (.getstatic 72, 3) := by decide +kernel
theorem d40_3 : decode prog_3_method_4_code 3 = .ok (.areturn, 1) := by decide +kernel
theorem pd40 : parseMethodDescriptor "()Lcom/example/subsumer/subsumer/core/Description;" = some ⟨[], some (.object "com/example/subsumer/subsumer/core/Description")⟩ := by decide +kernel
theorem pn40 : plainName "com/example/subsumer/subsumer/core/Description" = true := by first | (simp [plainName, overriddenIn]; done) | decide +kernel
abbrev B40 : Bd := ((⟨"com/example/subsumer/subsumer/core/Description", "bottom", "()Lcom/example/subsumer/subsumer/core/Description;"⟩ : MethodName), prog_3_method_4_code, 0, (some (.object "com/example/subsumer/subsumer/core/Description")), ({ frames := 0, cells := 0, slots := 0, locals := 0 } : Room), tables_1)
theorem ef40 (mid : MethodId)  : entryFrame mid (List.toArray []) 0 = mkF mid 0 #[] [] := by first | (simp [entryFrame, mkF, argsToLocals, Value.category]; done) | rfl
def Q40 (bot : Addr) (h0 : Heap) (v : Option Value) (h : Heap) : Prop := v = some (.ref bot) ∧ h0 = h
set_option maxRecDepth 65536 in
set_option maxHeartbeats 40000000 in
theorem c40 (Z : State) (hw : Wd Z tables_1) (h0 : Heap)  (bot : Addr) (el : Addr) (ea : Addr) (em : Addr) (top : Addr) (lem : Addr) (non : Addr) (hv : Ev0 Z el ea em top bot lem non) : Con Z B40 (List.toArray []) h0 (Q40 bot h0) := by
  refine Con.mk hw pn40 (fun mid => ef40 mid ) (Go.old fun hle' => ?_)
  have hle := hle'.1
  obtain ⟨hSel, hSem, hStop, hSbot, hSlem, hSnon, hEel, hFel, hAea, hEtop, hTl, hTe, hTu, hTa, hTm, hEbot, hnbt, hElem, hLn, hLg, hAnon⟩ := id hv
  refine Go.getS 3 rfl (v := .ref bot) 161 d40_0 rfl hSbot ?_
  exact Go.retA d40_3 rfl rfl rfl (by decide) (by decide) ⟨rfl, rfl⟩
theorem d17_0 : decode prog_3_method_15_code 0 = .ok (.aload_n 0, 1) := by decide +kernel
theorem d17_1 : decode prog_3_method_15_code 1 = .ok (.getfield 22, 3) := by decide +kernel
theorem d17_4 : decode prog_3_method_15_code 4 = .ok (.areturn, 1) := by decide +kernel
theorem pd17 : parseMethodDescriptor "()Ljava/util/List;" = some ⟨[], some (.object "java/util/List")⟩ := by decide +kernel
theorem pn17 : plainName "com/example/subsumer/subsumer/core/Description" = true := by first | (simp [plainName, overriddenIn]; done) | decide +kernel
abbrev B17 : Bd := ((⟨"com/example/subsumer/subsumer/core/Description", "existentials", "()Ljava/util/List;"⟩ : MethodName), prog_3_method_15_code, 1, (some (.object "java/util/List")), ({ frames := 0, cells := 0, slots := 0, locals := 0 } : Room), tables_1)
theorem ef17 (mid : MethodId) (a : Addr) : entryFrame mid (List.toArray [.ref a]) 1 = mkF mid 0 #[.val (.ref a)] [] := by first | (simp [entryFrame, mkF, argsToLocals, Value.category]; done) | rfl
def Q17 (r : Addr) (h0 : Heap) (v : Option Value) (h : Heap) : Prop := v = some (.ref r) ∧ h0 = h
set_option maxRecDepth 65536 in
set_option maxHeartbeats 40000000 in
theorem c17 (Z : State) (hw : Wd Z tables_1) (h0 : Heap) (a : Addr) (r : Addr) (hF : Fld Z h0 a "com/example/subsumer/subsumer/core/Description" "existentials" "Ljava/util/List;" (.ref r)) : Con Z B17 (List.toArray [.ref a]) h0 (Q17 r h0) := by
  refine Con.mk hw pn17 (fun mid => ef17 mid a) (Go.old fun hle' => ?_)
  have hle := hle'.1
  refine Go.aloadN 1 rfl d17_0 rfl rfl ?_
  refine Go.getF 4 rfl (v := .ref r) 67 d17_1 rfl hF ?_
  exact Go.retA d17_4 rfl rfl rfl (by decide) (by decide) ⟨rfl, rfl⟩
theorem d18_0 : decode prog_3_method_16_code 0 = .ok (.aload_n 0, 1) := by decide +kernel
theorem d18_1 : decode prog_3_method_16_code 1 = .ok (.getfield 26, 3) := by decide +kernel
theorem d18_4 : decode prog_3_method_16_code 4 = .ok (.areturn, 1) := by decide +kernel
theorem pd18 : parseMethodDescriptor "()Ljava/util/List;" = some ⟨[], some (.object "java/util/List")⟩ := by decide +kernel
theorem pn18 : plainName "com/example/subsumer/subsumer/core/Description" = true := by first | (simp [plainName, overriddenIn]; done) | decide +kernel
abbrev B18 : Bd := ((⟨"com/example/subsumer/subsumer/core/Description", "universals", "()Ljava/util/List;"⟩ : MethodName), prog_3_method_16_code, 1, (some (.object "java/util/List")), ({ frames := 0, cells := 0, slots := 0, locals := 0 } : Room), tables_1)
theorem ef18 (mid : MethodId) (a : Addr) : entryFrame mid (List.toArray [.ref a]) 1 = mkF mid 0 #[.val (.ref a)] [] := by first | (simp [entryFrame, mkF, argsToLocals, Value.category]; done) | rfl
def Q18 (r : Addr) (h0 : Heap) (v : Option Value) (h : Heap) : Prop := v = some (.ref r) ∧ h0 = h
set_option maxRecDepth 65536 in
set_option maxHeartbeats 40000000 in
theorem c18 (Z : State) (hw : Wd Z tables_1) (h0 : Heap) (a : Addr) (r : Addr) (hF : Fld Z h0 a "com/example/subsumer/subsumer/core/Description" "universals" "Ljava/util/List;" (.ref r)) : Con Z B18 (List.toArray [.ref a]) h0 (Q18 r h0) := by
  refine Con.mk hw pn18 (fun mid => ef18 mid a) (Go.old fun hle' => ?_)
  have hle := hle'.1
  refine Go.aloadN 1 rfl d18_0 rfl rfl ?_
  refine Go.getF 4 rfl (v := .ref r) 69 d18_1 rfl hF ?_
  exact Go.retA d18_4 rfl rfl rfl (by decide) (by decide) ⟨rfl, rfl⟩
theorem d19_0 : decode prog_3_method_17_code 0 = .ok (.aload_n 0, 1) := by decide +kernel
theorem d19_1 : decode prog_3_method_17_code 1 = .ok (.getfield 29, 3) := by decide +kernel
theorem d19_4 : decode prog_3_method_17_code 4 = .ok (.areturn, 1) := by decide +kernel
theorem pd19 : parseMethodDescriptor "()Ljava/util/List;" = some ⟨[], some (.object "java/util/List")⟩ := by decide +kernel
theorem pn19 : plainName "com/example/subsumer/subsumer/core/Description" = true := by first | (simp [plainName, overriddenIn]; done) | decide +kernel
abbrev B19 : Bd := ((⟨"com/example/subsumer/subsumer/core/Description", "atLeast", "()Ljava/util/List;"⟩ : MethodName), prog_3_method_17_code, 1, (some (.object "java/util/List")), ({ frames := 0, cells := 0, slots := 0, locals := 0 } : Room), tables_1)
theorem ef19 (mid : MethodId) (a : Addr) : entryFrame mid (List.toArray [.ref a]) 1 = mkF mid 0 #[.val (.ref a)] [] := by first | (simp [entryFrame, mkF, argsToLocals, Value.category]; done) | rfl
def Q19 (r : Addr) (h0 : Heap) (v : Option Value) (h : Heap) : Prop := v = some (.ref r) ∧ h0 = h
set_option maxRecDepth 65536 in
set_option maxHeartbeats 40000000 in
theorem c19 (Z : State) (hw : Wd Z tables_1) (h0 : Heap) (a : Addr) (r : Addr) (hF : Fld Z h0 a "com/example/subsumer/subsumer/core/Description" "atLeast" "Ljava/util/List;" (.ref r)) : Con Z B19 (List.toArray [.ref a]) h0 (Q19 r h0) := by
  refine Con.mk hw pn19 (fun mid => ef19 mid a) (Go.old fun hle' => ?_)
  have hle := hle'.1
  refine Go.aloadN 1 rfl d19_0 rfl rfl ?_
  refine Go.getF 4 rfl (v := .ref r) 71 d19_1 rfl hF ?_
  exact Go.retA d19_4 rfl rfl rfl (by decide) (by decide) ⟨rfl, rfl⟩
theorem d20_0 : decode prog_3_method_18_code 0 = .ok (.aload_n 0, 1) := by decide +kernel
theorem d20_1 : decode prog_3_method_18_code 1 = .ok (.getfield 32, 3) := by decide +kernel
theorem d20_4 : decode prog_3_method_18_code 4 = .ok (.areturn, 1) := by decide +kernel
theorem pd20 : parseMethodDescriptor "()Ljava/util/List;" = some ⟨[], some (.object "java/util/List")⟩ := by decide +kernel
theorem pn20 : plainName "com/example/subsumer/subsumer/core/Description" = true := by first | (simp [plainName, overriddenIn]; done) | decide +kernel
abbrev B20 : Bd := ((⟨"com/example/subsumer/subsumer/core/Description", "atMost", "()Ljava/util/List;"⟩ : MethodName), prog_3_method_18_code, 1, (some (.object "java/util/List")), ({ frames := 0, cells := 0, slots := 0, locals := 0 } : Room), tables_1)
theorem ef20 (mid : MethodId) (a : Addr) : entryFrame mid (List.toArray [.ref a]) 1 = mkF mid 0 #[.val (.ref a)] [] := by first | (simp [entryFrame, mkF, argsToLocals, Value.category]; done) | rfl
def Q20 (r : Addr) (h0 : Heap) (v : Option Value) (h : Heap) : Prop := v = some (.ref r) ∧ h0 = h
set_option maxRecDepth 65536 in
set_option maxHeartbeats 40000000 in
theorem c20 (Z : State) (hw : Wd Z tables_1) (h0 : Heap) (a : Addr) (r : Addr) (hF : Fld Z h0 a "com/example/subsumer/subsumer/core/Description" "atMost" "Ljava/util/List;" (.ref r)) : Con Z B20 (List.toArray [.ref a]) h0 (Q20 r h0) := by
  refine Con.mk hw pn20 (fun mid => ef20 mid a) (Go.old fun hle' => ?_)
  have hle := hle'.1
  refine Go.aloadN 1 rfl d20_0 rfl rfl ?_
  refine Go.getF 4 rfl (v := .ref r) 73 d20_1 rfl hF ?_
  exact Go.retA d20_4 rfl rfl rfl (by decide) (by decide) ⟨rfl, rfl⟩
theorem d42_0 : decode prog_3_method_11_code 0 = .ok (.iload_n 0, 1) := by decide +kernel
theorem d42_1 : decode prog_3_method_11_code 1 = .ok (.ifCond .ge 17, 3) := by decide +kernel
theorem d42_18 : decode prog_3_method_11_code 18 = .ok (.return_, 1) := by decide +kernel
theorem pd42 : parseMethodDescriptor "(I)V" = some ⟨[.int], none⟩ := by decide +kernel
theorem pn42 : plainName "com/example/subsumer/subsumer/core/Description" = true := by first | (simp [plainName, overriddenIn]; done) | decide +kernel
abbrev B42 : Bd := ((⟨"com/example/subsumer/subsumer/core/Description", "requireCount", "(I)V"⟩ : MethodName), prog_3_method_11_code, 1, none, ({ frames := 0, cells := 0, slots := 0, locals := 0 } : Room), tables_1)
theorem ef42 (mid : MethodId) (m : Int32) : entryFrame mid (List.toArray [.int m]) 1 = mkF mid 0 #[.val (.int m)] [] := by first | (simp [entryFrame, mkF, argsToLocals, Value.category]; done) | rfl
def Q42 (h0 : Heap) (v : Option Value) (h : Heap) : Prop := v = none ∧ h0 = h
set_option maxRecDepth 65536 in
set_option maxHeartbeats 40000000 in
theorem c42 (Z : State) (hw : Wd Z tables_1) (h0 : Heap) (m : Int32)  (hm : ¬ m < 0) : Con Z B42 (List.toArray [.int m]) h0 (Q42 h0) := by
  refine Con.mk hw pn42 (fun mid => ef42 mid m) (Go.old fun hle' => ?_)
  have hle := hle'.1
  refine Go.iloadN 1 rfl d42_0 rfl ?_
  refine Go.if_ge 18 4 d42_1 (by decide) rfl rfl (fun (b1 : ¬ m < 0) => ?_) (fun (b1 : m < 0) => ?_)
  · exact Go.retV d42_18 rfl (by decide) (by decide) ⟨rfl, rfl⟩
  · exact absurd b1 hm
theorem d7_0 : decode prog_3_method_5_code 0 = .ok (.new 8, 3) := by decide +kernel
theorem d7_3 : decode prog_3_method_5_code 3 = .ok (.dup, 1) := by decide +kernel
theorem d7_4 : decode prog_3_method_5_code 4 = .ok (.new 75, 3) := by decide +kernel
theorem d7_7 : decode prog_3_method_5_code 7 = .ok (.dup, 1) := by decide +kernel
theorem d7_8 : decode prog_3_method_5_code 8 = .ok (.iconst 1, 1) := by decide +kernel
theorem d7_9 : decode prog_3_method_5_code 9 = .ok (.anewarray 77, 3) := by decide +kernel
theorem d7_12 : decode prog_3_method_5_code 12 = .ok (.dup, 1) := by decide +kernel
theorem d7_13 : decode prog_3_method_5_code 13 = .ok (.iconst 0, 1) := by decide +kernel
theorem d7_14 : decode prog_3_method_5_code 14 = .ok (.aload_n 0, 1) := by decide +kernel
theorem d7_15 : decode prog_3_method_5_code 15 = .ok (.aastore, 1) := by decide +kernel
theorem d7_16 : decode prog_3_method_5_code 16 = .ok (.getstatic 79, 3) := by decide +kernel
theorem d7_19 : decode prog_3_method_5_code 19 = .ok (.invokespecial 83, 3) := by decide +kernel
theorem d7_22 : decode prog_3_method_5_code 22 = .ok (.invokestatic 1, 3) := by decide +kernel
theorem d7_25 : decode prog_3_method_5_code 25 = .ok (.invokestatic 1, 3) := by decide +kernel
theorem d7_28 : decode prog_3_method_5_code 28 = .ok (.invokespecial 86, 3) := by decide +kernel
theorem d7_31 : decode prog_3_method_5_code 31 = .ok (.areturn, 1) := by decide +kernel
theorem pd7 : parseMethodDescriptor "(Ljava/lang/String;)Lcom/example/subsumer/subsumer/core/Description;" = some ⟨[(.object "java/lang/String")], some (.object "com/example/subsumer/subsumer/core/Description")⟩ := by decide +kernel
theorem pn7 : plainName "com/example/subsumer/subsumer/core/Description" = true := by first | (simp [plainName, overriddenIn]; done) | decide +kernel
abbrev B7 : Bd := ((⟨"com/example/subsumer/subsumer/core/Description", "name", "(Ljava/lang/String;)Lcom/example/subsumer/subsumer/core/Description;"⟩ : MethodName), prog_3_method_5_code, 1, (some (.object "com/example/subsumer/subsumer/core/Description")), ({ frames := 5, cells := 5, slots := 18, locals := 76 } : Room), tables_1)
theorem ef7 (mid : MethodId) (s : Addr) : entryFrame mid (List.toArray [.ref s]) 1 = mkF mid 0 #[.val (.ref s)] [] := by first | (simp [entryFrame, mkF, argsToLocals, Value.category]; done) | rfl
def Q7 (Z : State) (el : Addr) (non : Addr) (h0 : Heap) (v : Option Value) (h : Heap) : Prop := ∃ d lb t vs, v = some (.ref d) ∧ h0.size ≤ d ∧ Keep h0 h [] ∧ Exa Z h d "com/example/subsumer/subsumer/core/Description" ∧ Fld Z h d "com/example/subsumer/subsumer/core/Description" "label" "Lcom/example/subsumer/subsumer/core/Label;" (.ref lb) ∧ Fld Z h d "com/example/subsumer/subsumer/core/Description" "existentials" "Ljava/util/List;" (.ref el) ∧ Fld Z h d "com/example/subsumer/subsumer/core/Description" "universals" "Ljava/util/List;" (.ref el) ∧ Fld Z h d "com/example/subsumer/subsumer/core/Description" "atLeast" "Ljava/util/List;" (.ref el) ∧ Fld Z h d "com/example/subsumer/subsumer/core/Description" "atMost" "Ljava/util/List;" (.ref el) ∧ Exa Z h lb "com/example/subsumer/subsumer/core/Label" ∧ Fld Z h lb "com/example/subsumer/subsumer/core/Label" "names" "[Ljava/lang/String;" (.ref t) ∧ Fld Z h lb "com/example/subsumer/subsumer/core/Label" "negated" "[Ljava/lang/String;" (.ref non) ∧ Ary Z h t (.object "java/lang/String") vs ∧ vs.length = 1 ∧ ∃ q1 q2 : Int32, Fld Z h d "com/example/subsumer/subsumer/core/Description" "existentialInside" "Z" (.int q1) ∧ Fld Z h d "com/example/subsumer/subsumer/core/Description" "numberInside" "Z" (.int q2)
set_option maxRecDepth 65536 in
set_option maxHeartbeats 40000000 in
theorem c7 (Z : State) (hw : Wd Z tables_1) (h0 : Heap) (s : Addr) (el : Addr) (non : Addr) (ea : Addr) (em : Addr) (top : Addr) (bot : Addr) (lem : Addr) (hv : Ev0 Z el ea em top bot lem non) (hEs : Exa Z h0 s "java/lang/String") : Con Z B7 (List.toArray [.ref s]) h0 (Q7 Z el non h0) := by
  refine Con.mk hw pn7 (fun mid => ef7 mid s) (Go.old fun hle' => ?_)
  have hle := hle'.1
  obtain ⟨hSel, hSem, hStop, hSbot, hSlem, hSnon, hEel, hFel, hAea, hEtop, hTl, hTe, hTu, hTa, hTm, hEbot, hnbt, hElem, hLn, hLg, hAnon⟩ := id hv
  refine Go.newO 3 rfl 35 36 28 d7_0 rfl rfl rfl (by decide) (by decide) fun h2 a1 g3 z4 K5 E6 D7 => ?_
  refine Go.dup 4 rfl d7_3 rfl ?_
  refine Go.newO 7 rfl 37 38 39 d7_4 rfl rfl rfl (by decide) (by decide) fun h9 a8 g10 z11 K12 E13 D14 => ?_
  refine Go.dup 8 rfl d7_7 rfl ?_
  refine Go.iconst 9 rfl (1 : Int32) d7_8 rfl ?_
  refine Go.newR 12 rfl 40 41 1 1 d7_9 rfl rfl rfl (by decide) (by decide) (by decide) (by decide) fun h16 a15 g17 z18 K19 A20 E21 O22 => ?_
  have A23 : Ary Z h16 a15 (.object "java/lang/String") [.null] := A20
  refine Go.dup 13 rfl d7_12 rfl ?_
  refine Go.iconst 14 rfl (0 : Int32) d7_13 rfl ?_
  refine Go.aloadN 15 rfl d7_14 rfl rfl ?_
  have F24 : Exa Z h16 s "java/lang/String" := (((hEs.keep K5).keep K12).keep K19)
  refine Go.stR 16 rfl d7_15 A23 O22 (Ins.self F24) 0 rfl (Nat.le_of_ble_eq_true rfl) z18 fun h25 K26 A27 => ?_
  have A28 : Ary Z h25 a15 (.object "java/lang/String") [.ref s] := A27
  refine Go.getS 19 rfl (v := .ref non) 42 d7_16 rfl hSnon ?_
  have F29 : Exa Z h25 a8 "com/example/subsumer/subsumer/core/Label" := ((E13.keep K19).keep K26)
  have ne30 : a8 ≠ a15 := (show @Ne Nat a8 a15 from by have := ltN E13.lt; have := g17; omega)
  have F31 : Fld Z h25 a8 "com/example/subsumer/subsumer/core/Label" "names" "[Ljava/lang/String;" (.null) := (((D14 49 (Or.inr rfl) (ty := (.array (.object "java/lang/String"))) (by decide) : Fld Z h9 a8 "com/example/subsumer/subsumer/core/Label" "names" "[Ljava/lang/String;" (.null)).keep K19 nin0).keep K26 (ninS ne30 nin0))
  have F32 : Fld Z h25 a8 "com/example/subsumer/subsumer/core/Label" "negated" "[Ljava/lang/String;" (.null) := (((D14 51 (Or.inr rfl) (ty := (.array (.object "java/lang/String"))) (by decide) : Fld Z h9 a8 "com/example/subsumer/subsumer/core/Label" "negated" "[Ljava/lang/String;" (.null)).keep K19 nin0).keep K26 (ninS ne30 nin0))
  refine Go.callI 22 rfl (C := B8) a8 [.ref a15, .ref non] (rest := [.ref a8, .ref a1, .ref a1]) 44 45 39 46 (c8 Z hw h25 a8 a15 non z11 F29 F31 F32) d7_19 rfl rfl rfl rfl rfl rfl (by decide) pd8 rfl rfl rfl (W := 3) (Nat.le_of_ble_eq_true rfl) (by decide) (by decide) (by decide) (by decide) fun v33 h34 q35 => ?_
  obtain ⟨rfl, K36, F37, F38⟩ := q35
  refine Go.callS 25 rfl (C := B9) [] (rest := [.ref a8, .ref a1, .ref a1]) 52 53 54 55 (c9 Z hw h34 el ea em top bot lem non hv) d7_22 rfl rfl rfl rfl (by decide) pd9 rfl rfl rfl (W := 3) (Nat.le_of_ble_eq_true rfl) (by decide) (by decide) (by decide) (by decide) fun v39 h40 q41 => ?_
  obtain ⟨rfl, rfl⟩ := q41
  refine Go.callS 28 rfl (C := B9) [] (rest := [.ref el, .ref a8, .ref a1, .ref a1]) 52 53 54 55 (c9 Z hw h34 el ea em top bot lem non hv) d7_25 rfl rfl rfl rfl (by decide) pd9 rfl rfl rfl (W := 4) (Nat.le_of_ble_eq_true rfl) (by decide) (by decide) (by decide) (by decide) fun v42 h43 q44 => ?_
  obtain ⟨rfl, rfl⟩ := q44
  have F45 : Exa Z h34 a1 "com/example/subsumer/subsumer/core/Description" := ((((E6.keep K12).keep K19).keep K26).keep K36)
  have ne46 : a1 ≠ a15 := (show @Ne Nat a1 a15 from by have := ltN E6.lt; have := K12.1; have := g17; omega)
  have ne47 : a1 ≠ a8 := (show @Ne Nat a1 a8 from by have := ltN E6.lt; have := g10; omega)
  have F48 : Fld Z h34 a1 "com/example/subsumer/subsumer/core/Description" "label" "Lcom/example/subsumer/subsumer/core/Label;" (.null) := (((((D7 66 (Or.inr rfl) (ty := (.object "com/example/subsumer/subsumer/core/Label")) (by decide) : Fld Z h2 a1 "com/example/subsumer/subsumer/core/Description" "label" "Lcom/example/subsumer/subsumer/core/Label;" (.null)).keep K12 nin0).keep K19 nin0).keep K26 (ninS ne46 nin0)).keep K36 (ninS ne47 nin0))
  have F49 : Fld Z h34 a1 "com/example/subsumer/subsumer/core/Description" "existentials" "Ljava/util/List;" (.null) := (((((D7 68 (Or.inr rfl) (ty := (.object "java/util/List")) (by decide) : Fld Z h2 a1 "com/example/subsumer/subsumer/core/Description" "existentials" "Ljava/util/List;" (.null)).keep K12 nin0).keep K19 nin0).keep K26 (ninS ne46 nin0)).keep K36 (ninS ne47 nin0))
  have F50 : Fld Z h34 a1 "com/example/subsumer/subsumer/core/Description" "universals" "Ljava/util/List;" (.null) := (((((D7 70 (Or.inr rfl) (ty := (.object "java/util/List")) (by decide) : Fld Z h2 a1 "com/example/subsumer/subsumer/core/Description" "universals" "Ljava/util/List;" (.null)).keep K12 nin0).keep K19 nin0).keep K26 (ninS ne46 nin0)).keep K36 (ninS ne47 nin0))
  have F51 : Fld Z h34 a1 "com/example/subsumer/subsumer/core/Description" "atLeast" "Ljava/util/List;" (.null) := (((((D7 72 (Or.inr rfl) (ty := (.object "java/util/List")) (by decide) : Fld Z h2 a1 "com/example/subsumer/subsumer/core/Description" "atLeast" "Ljava/util/List;" (.null)).keep K12 nin0).keep K19 nin0).keep K26 (ninS ne46 nin0)).keep K36 (ninS ne47 nin0))
  have F52 : Fld Z h34 a1 "com/example/subsumer/subsumer/core/Description" "atMost" "Ljava/util/List;" (.null) := (((((D7 74 (Or.inr rfl) (ty := (.object "java/util/List")) (by decide) : Fld Z h2 a1 "com/example/subsumer/subsumer/core/Description" "atMost" "Ljava/util/List;" (.null)).keep K12 nin0).keep K19 nin0).keep K26 (ninS ne46 nin0)).keep K36 (ninS ne47 nin0))
  have F53 : Fld Z h34 a1 "com/example/subsumer/subsumer/core/Description" "existentialInside" "Z" (.int (0 : Int32)) := (((((D7 128 (Or.inr rfl) (ty := .boolean) (by decide) : Fld Z h2 a1 "com/example/subsumer/subsumer/core/Description" "existentialInside" "Z" (.int (0 : Int32))).keep K12 nin0).keep K19 nin0).keep K26 (ninS ne46 nin0)).keep K36 (ninS ne47 nin0))
  have F54 : Fld Z h34 a1 "com/example/subsumer/subsumer/core/Description" "numberInside" "Z" (.int (0 : Int32)) := (((((D7 130 (Or.inr rfl) (ty := .boolean) (by decide) : Fld Z h2 a1 "com/example/subsumer/subsumer/core/Description" "numberInside" "Z" (.int (0 : Int32))).keep K12 nin0).keep K19 nin0).keep K26 (ninS ne46 nin0)).keep K36 (ninS ne47 nin0))
  refine Go.callI 31 rfl (C := B10) a1 [.ref a8, .ref el, .ref el] (rest := [.ref a1]) 58 59 28 60 (c10 Z hw h34 a1 a8 el el el ea em top bot lem non hv z4 F45 F48 F49 F50 F51 F52 F53 F54 none (Or.inl ⟨rfl, rfl⟩) none (Or.inl ⟨rfl, rfl⟩) (fun x hx => by cases hx) (fun x hx => by cases hx)) d7_28 rfl rfl rfl rfl rfl rfl (by decide) pd10 rfl rfl rfl (W := 1) (Nat.le_of_ble_eq_true rfl) (by decide) (by decide) (by decide) (by decide) fun v55 h56 q57 => ?_
  obtain ⟨rfl, K58, F59, F60, F61, F62, F63, q66, q67, F64, F65⟩ := q57
  have F68 : Exa Z h56 a1 "com/example/subsumer/subsumer/core/Description" := (F45.keep K58)
  have F69 : Exa Z h56 a8 "com/example/subsumer/subsumer/core/Label" := ((F29.keep K36).keep K58)
  have F70 : Fld Z h56 a8 "com/example/subsumer/subsumer/core/Label" "names" "[Ljava/lang/String;" (.ref a15) := (F37.keep K58 (ninS (Ne.symm ne47) nin0))
  have F71 : Fld Z h56 a8 "com/example/subsumer/subsumer/core/Label" "negated" "[Ljava/lang/String;" (.ref non) := (F38.keep K58 (ninS (Ne.symm ne47) nin0))
  have F72 : Ary Z h56 a15 (.object "java/lang/String") [.ref s] := ((A28.keep K36 (ninS (Ne.symm ne30) nin0)).keep K58 (ninS (Ne.symm ne46) nin0))
  exact Go.retA d7_31 rfl rfl rfl (by decide) (by decide) ⟨a1, a8, a15, [.ref s], rfl, Nat.le_of_eq g3.symm, (((((((Keep.refl h0 []).trans K5 all0).trans K12 all0).trans K19 all0).trans K26 (allS (Or.inr (by have := K5.1; have := K12.1; have := K19.1; have := g17; omega)) all0)).trans K36 (allS (Or.inr (by have := K5.1; have := K12.1; have := K19.1; have := K26.1; have := g10; omega)) all0)).trans K58 (allS (Or.inr (by have := K5.1; have := K12.1; have := K19.1; have := K26.1; have := K36.1; have := g3; omega)) all0)), F68, F59, F60, F61, F62, F63, F69, F70, F71, F72, rfl, _, _, F64, F65⟩
theorem d37_0 : decode prog_3_method_8_code 0 = .ok (.aload_n 1, 1) := by decide +kernel
theorem d37_1 : decode prog_3_method_8_code 1 = .ok (.invokevirtual 101, 3) := by decide +kernel
theorem d37_4 : decode prog_3_method_8_code 4 = .ok (.ifCond .eq 9, 3) := by decide +kernel
theorem d37_7 : decode prog_3_method_8_code 7 = .ok (.getstatic 68, 3) := by decide +kernel
theorem d37_10 : decode prog_3_method_8_code 10 = .ok (.goto 28, 3) := by decide +kernel
theorem d37_13 : decode prog_3_method_8_code 13 = .ok (.new 8, 3) := by decide +kernel
theorem d37_16 : decode prog_3_method_8_code 16 = .ok (.dup, 1) := by decide +kernel
theorem d37_17 : decode prog_3_method_8_code 17 = .ok (.getstatic 92, 3) := by decide +kernel
theorem d37_20 : decode prog_3_method_8_code 20 = .ok (.invokestatic 1, 3) := by decide +kernel
theorem d37_23 : decode prog_3_method_8_code 23 = .ok (.new 62, 3) := by decide +kernel
theorem d37_26 : decode prog_3_method_8_code 26 = .ok (.dup, 1) := by decide +kernel
theorem d37_27 : decode prog_3_method_8_code 27 = .ok (.aload_n 0, 1) := by decide +kernel
theorem d37_28 : decode prog_3_method_8_code 28 = .ok (.aload_n 1, 1) := by decide +kernel
theorem d37_29 : decode prog_3_method_8_code 29 = .ok (.invokespecial 104, 3) := by decide +kernel
theorem d37_32 : decode prog_3_method_8_code 32 = .ok (.invokestatic 98, 3) := by decide +kernel
theorem d37_35 : decode prog_3_method_8_code 35 = .ok (.invokespecial 86, 3) := by decide +kernel
theorem d37_38 : decode prog_3_method_8_code 38 = .ok (.areturn, 1) := by decide +kernel
theorem pd37 : parseMethodDescriptor "(Ljava/lang/String;Lcom/example/subsumer/subsumer/core/Description;)Lcom/example/subsumer/subsumer/core/Description;" = some ⟨[(.object "java/lang/String"), (.object "com/example/subsumer/subsumer/core/Description")], some (.object "com/example/subsumer/subsumer/core/Description")⟩ := by decide +kernel
theorem pn37 : plainName "com/example/subsumer/subsumer/core/Description" = true := by first | (simp [plainName, overriddenIn]; done) | decide +kernel
abbrev B37 : Bd := ((⟨"com/example/subsumer/subsumer/core/Description", "only", "(Ljava/lang/String;Lcom/example/subsumer/subsumer/core/Description;)Lcom/example/subsumer/subsumer/core/Description;"⟩ : MethodName), prog_3_method_8_code, 2, (some (.object "com/example/subsumer/subsumer/core/Description")), ({ frames := 6, cells := 5, slots := 19, locals := 78 } : Room), tables_1)
theorem ef37 (mid : MethodId) (p : Addr) (f : Addr) : entryFrame mid (List.toArray [.ref p, .ref f]) 2 = mkF mid 0 #[.val (.ref p), .val (.ref f)] [] := by first | (simp [entryFrame, mkF, argsToLocals, Value.category]; done) | rfl
def Q37 (Z : State) (el : Addr) (em : Addr) (f : Addr) (h0 : Heap) (v : Option Value) (h : Heap) : Prop := ∃ d l x, v = some (.ref d) ∧ h0.size ≤ d ∧ Keep h0 h [] ∧ Exa Z h d "com/example/subsumer/subsumer/core/Description" ∧ Fld Z h d "com/example/subsumer/subsumer/core/Description" "universals" "Ljava/util/List;" (.ref l) ∧ LV Z h el em l (some x) ∧ Exa Z h x "com/example/subsumer/subsumer/core/Universal" ∧ Fld Z h x "com/example/subsumer/subsumer/core/Universal" "filler" "Lcom/example/subsumer/subsumer/core/Description;" (.ref f)
set_option maxRecDepth 65536 in
set_option maxHeartbeats 40000000 in
theorem c37 (Z : State) (hw : Wd Z tables_1) (h0 : Heap) (p : Addr) (f : Addr) (el : Addr) (em : Addr) (ea : Addr) (top : Addr) (bot : Addr) (lem : Addr) (non : Addr) (hv : Ev0 Z el ea em top bot lem non) (lb : Addr) (t : Addr) (vs : List Value) (q1 : Int32) (q2 : Int32) (hEf : Exa Z h0 f "com/example/subsumer/subsumer/core/Description") (hnf : ¬ f = bot) (hF_label : Fld Z h0 f "com/example/subsumer/subsumer/core/Description" "label" "Lcom/example/subsumer/subsumer/core/Label;" (.ref lb)) (hF_existentials : Fld Z h0 f "com/example/subsumer/subsumer/core/Description" "existentials" "Ljava/util/List;" (.ref el)) (hF_universals : Fld Z h0 f "com/example/subsumer/subsumer/core/Description" "universals" "Ljava/util/List;" (.ref el)) (hF_atLeast : Fld Z h0 f "com/example/subsumer/subsumer/core/Description" "atLeast" "Ljava/util/List;" (.ref el)) (hF_atMost : Fld Z h0 f "com/example/subsumer/subsumer/core/Description" "atMost" "Ljava/util/List;" (.ref el)) (hElb : Exa Z h0 lb "com/example/subsumer/subsumer/core/Label") (hN : Fld Z h0 lb "com/example/subsumer/subsumer/core/Label" "names" "[Ljava/lang/String;" (.ref t)) (hG : Fld Z h0 lb "com/example/subsumer/subsumer/core/Label" "negated" "[Ljava/lang/String;" (.ref non)) (hT : Ary Z h0 t (.object "java/lang/String") vs) (hlen : vs.length = 1) (hFe : Fld Z h0 f "com/example/subsumer/subsumer/core/Description" "existentialInside" "Z" (.int q1)) (hFn : Fld Z h0 f "com/example/subsumer/subsumer/core/Description" "numberInside" "Z" (.int q2)) : Con Z B37 (List.toArray [.ref p, .ref f]) h0 (Q37 Z el em f h0) := by
  refine Con.mk hw pn37 (fun mid => ef37 mid p f) (Go.old fun hle' => ?_)
  have hle := hle'.1
  obtain ⟨hSel, hSem, hStop, hSbot, hSlem, hSnon, hEel, hFel, hAea, hEtop, hTl, hTe, hTu, hTa, hTm, hEbot, hnbt, hElem, hLn, hLg, hAnon⟩ := id hv
  refine Go.old fun x1 => ?_
  refine Go.aloadN 1 rfl d37_0 rfl rfl ?_
  refine Go.callV 4 rfl (C := B21) f [] (rest := []) 267 157 159 158 28 160 (c21 Z hw h0 f vs ([] : List Value) none none none none el ea em top bot lem non hv lb el el el el t non hF_label hF_existentials hF_universals hF_atLeast hF_atMost hElb hnf hN hG hT (hAnon.ext x1) (Or.inl ⟨rfl, rfl⟩) (Or.inl ⟨rfl, rfl⟩) (Or.inl ⟨rfl, rfl⟩) (Or.inl ⟨rfl, rfl⟩)) hEf d37_1 rfl rfl rfl rfl rfl rfl (by decide) pd21 rfl rfl rfl (W := 0) (Nat.le_of_ble_eq_true rfl) (by decide) (by decide) (by decide) (by decide) fun v2 h3 q4 => ?_
  obtain ⟨rfl, rfl⟩ := q4
  refine Go.eqI (w := 0) (if_neg (fun z => by have := z.1; omega)) ?_
  refine Go.if_eq 13 7 d37_4 (by decide) rfl rfl (fun (b5 : (0 : Int32) = 0) => ?_) (fun (b5 : ¬ (0 : Int32) = 0) => ?_)
  · refine Go.newO 16 rfl 35 36 28 d37_13 rfl rfl rfl (by decide) (by decide) fun h7 a6 g8 z9 K10 E11 D12 => ?_
    refine Go.dup 17 rfl d37_16 rfl ?_
    refine Go.getS 20 rfl (v := .ref lem) 176 d37_17 rfl hSlem ?_
    refine Go.callS 23 rfl (C := B9) [] (rest := [.ref lem, .ref a6, .ref a6]) 52 53 54 55 (c9 Z hw h7 el ea em top bot lem non hv) d37_20 rfl rfl rfl rfl (by decide) pd9 rfl rfl rfl (W := 3) (Nat.le_of_ble_eq_true rfl) (by decide) (by decide) (by decide) (by decide) fun v13 h14 q15 => ?_
    obtain ⟨rfl, rfl⟩ := q15
    refine Go.newO 26 rfl 268 269 270 d37_23 rfl rfl rfl (by decide) (by decide) fun h17 a16 g18 z19 K20 E21 D22 => ?_
    refine Go.dup 27 rfl d37_26 rfl ?_
    refine Go.aloadN 28 rfl d37_27 rfl rfl ?_
    refine Go.aloadN 29 rfl d37_28 rfl rfl ?_
    refine Go.callI 32 rfl (C := B38) a16 [.ref p, .ref f] (rest := [.ref a16, .ref el, .ref lem, .ref a6, .ref a6]) 271 272 270 273 (c38 Z hw h17 a16 p f z19 E21 (D22 276 (Or.inr rfl) (ty := (.object "java/lang/String")) (by decide) : Fld Z h17 a16 "com/example/subsumer/subsumer/core/Universal" "property" "Ljava/lang/String;" (.null)) (D22 278 (Or.inr rfl) (ty := (.object "com/example/subsumer/subsumer/core/Description")) (by decide) : Fld Z h17 a16 "com/example/subsumer/subsumer/core/Universal" "filler" "Lcom/example/subsumer/subsumer/core/Description;" (.null))) d37_29 rfl rfl rfl rfl rfl rfl (by decide) pd38 rfl rfl rfl (W := 5) (Nat.le_of_ble_eq_true rfl) (by decide) (by decide) (by decide) (by decide) fun v23 h24 q25 => ?_
    obtain ⟨rfl, K26, F27, F28⟩ := q25
    refine Go.callS 35 rfl (C := B27) [.ref a16] (rest := [.ref el, .ref lem, .ref a6, .ref a6]) 194 195 54 196 (c27 Z hw h24 a16 el em ea top bot lem non hv) d37_32 rfl rfl rfl rfl (by decide) pd27 rfl rfl rfl (W := 4) (Nat.le_of_ble_eq_true rfl) (by decide) (by decide) (by decide) (by decide) fun v29 h30 q31 => ?_
    obtain ⟨l32, rfl, g33, K34, V35⟩ := q31
    have z36 : Z.heap.size ≤ l32 := Nat.le_trans (Nat.le_trans (Nat.le_trans (Nat.le_trans hle K10.1) K20.1) K26.1) g33
    have F38 : Exa Z h30 a16 "com/example/subsumer/subsumer/core/Universal" := ((E21.keep K26).keep K34)
    have F39 : Fld Z h30 a16 "com/example/subsumer/subsumer/core/Universal" "filler" "Lcom/example/subsumer/subsumer/core/Description;" (.ref f) := (F28.keep K34 nin0)
    have ne40 : f ≠ a16 := (show @Ne Nat f a16 from by have := ltN hEf.lt; have := K10.1; have := g18; omega)
    have F41 : Fld Z h30 f "com/example/subsumer/subsumer/core/Description" "existentialInside" "Z" (.int q1) := ((((hFe.keep K10 nin0).keep K20 nin0).keep K26 (ninS ne40 nin0)).keep K34 nin0)
    have F42 : Fld Z h30 f "com/example/subsumer/subsumer/core/Description" "numberInside" "Z" (.int q2) := ((((hFn.keep K10 nin0).keep K20 nin0).keep K26 (ninS ne40 nin0)).keep K34 nin0)
    have W37 : EV Z h30 "com/example/subsumer/subsumer/core/Universal" a16 := ⟨F38, f, q1, q2, F39, F41, F42⟩
    have F43 : Exa Z h30 a6 "com/example/subsumer/subsumer/core/Description" := (((E11.keep K20).keep K26).keep K34)
    have ne44 : a6 ≠ a16 := (show @Ne Nat a6 a16 from by have := ltN E11.lt; have := g18; omega)
    have F45 : Fld Z h30 a6 "com/example/subsumer/subsumer/core/Description" "label" "Lcom/example/subsumer/subsumer/core/Label;" (.null) := ((((D12 66 (Or.inr rfl) (ty := (.object "com/example/subsumer/subsumer/core/Label")) (by decide) : Fld Z h7 a6 "com/example/subsumer/subsumer/core/Description" "label" "Lcom/example/subsumer/subsumer/core/Label;" (.null)).keep K20 nin0).keep K26 (ninS ne44 nin0)).keep K34 nin0)
    have F46 : Fld Z h30 a6 "com/example/subsumer/subsumer/core/Description" "existentials" "Ljava/util/List;" (.null) := ((((D12 68 (Or.inr rfl) (ty := (.object "java/util/List")) (by decide) : Fld Z h7 a6 "com/example/subsumer/subsumer/core/Description" "existentials" "Ljava/util/List;" (.null)).keep K20 nin0).keep K26 (ninS ne44 nin0)).keep K34 nin0)
    have F47 : Fld Z h30 a6 "com/example/subsumer/subsumer/core/Description" "universals" "Ljava/util/List;" (.null) := ((((D12 70 (Or.inr rfl) (ty := (.object "java/util/List")) (by decide) : Fld Z h7 a6 "com/example/subsumer/subsumer/core/Description" "universals" "Ljava/util/List;" (.null)).keep K20 nin0).keep K26 (ninS ne44 nin0)).keep K34 nin0)
    have F48 : Fld Z h30 a6 "com/example/subsumer/subsumer/core/Description" "atLeast" "Ljava/util/List;" (.null) := ((((D12 72 (Or.inr rfl) (ty := (.object "java/util/List")) (by decide) : Fld Z h7 a6 "com/example/subsumer/subsumer/core/Description" "atLeast" "Ljava/util/List;" (.null)).keep K20 nin0).keep K26 (ninS ne44 nin0)).keep K34 nin0)
    have F49 : Fld Z h30 a6 "com/example/subsumer/subsumer/core/Description" "atMost" "Ljava/util/List;" (.null) := ((((D12 74 (Or.inr rfl) (ty := (.object "java/util/List")) (by decide) : Fld Z h7 a6 "com/example/subsumer/subsumer/core/Description" "atMost" "Ljava/util/List;" (.null)).keep K20 nin0).keep K26 (ninS ne44 nin0)).keep K34 nin0)
    have F50 : Fld Z h30 a6 "com/example/subsumer/subsumer/core/Description" "existentialInside" "Z" (.int (0 : Int32)) := ((((D12 128 (Or.inr rfl) (ty := .boolean) (by decide) : Fld Z h7 a6 "com/example/subsumer/subsumer/core/Description" "existentialInside" "Z" (.int (0 : Int32))).keep K20 nin0).keep K26 (ninS ne44 nin0)).keep K34 nin0)
    have F51 : Fld Z h30 a6 "com/example/subsumer/subsumer/core/Description" "numberInside" "Z" (.int (0 : Int32)) := ((((D12 130 (Or.inr rfl) (ty := .boolean) (by decide) : Fld Z h7 a6 "com/example/subsumer/subsumer/core/Description" "numberInside" "Z" (.int (0 : Int32))).keep K20 nin0).keep K26 (ninS ne44 nin0)).keep K34 nin0)
    refine Go.callI 38 rfl (C := B10) a6 [.ref lem, .ref el, .ref l32] (rest := [.ref a6]) 58 59 28 60 (c10 Z hw h30 a6 lem el l32 el ea em top bot lem non hv z9 F43 F45 F46 F47 F48 F49 F50 F51 none (Or.inl ⟨rfl, rfl⟩) (some a16) V35 (fun x hx => by cases hx) (fun _ q => Option.some.inj q ▸ W37)) d37_35 rfl rfl rfl rfl rfl rfl (by decide) pd10 rfl rfl rfl (W := 1) (Nat.le_of_ble_eq_true rfl) (by decide) (by decide) (by decide) (by decide) fun v52 h53 q54 => ?_
    obtain ⟨rfl, K55, F56, F57, F58, F59, F60, q63, q64, F61, F62⟩ := q54
    have ne65 : l32 ≠ a6 := (show @Ne Nat l32 a6 from by have := ltN E11.lt; have := K20.1; have := K26.1; have := g33; omega)
    have F66 : Exa Z h53 a6 "com/example/subsumer/subsumer/core/Description" := (F43.keep K55)
    have F67 : Exa Z h53 a16 "com/example/subsumer/subsumer/core/Universal" := (F38.keep K55)
    have F68 : Fld Z h53 a16 "com/example/subsumer/subsumer/core/Universal" "filler" "Lcom/example/subsumer/subsumer/core/Description;" (.ref f) := (F39.keep K55 (ninS (Ne.symm ne44) nin0))
    exact Go.retA d37_38 rfl rfl rfl (by decide) (by decide) ⟨a6, l32, a16, rfl, Nat.le_of_eq g8.symm, ((((((Keep.refl h0 []).trans K10 all0).trans K20 all0).trans K26 (allS (Or.inr (by have := K10.1; have := K20.1; have := g18; omega)) all0)).trans K34 all0).trans K55 (allS (Or.inr (by have := K10.1; have := K20.1; have := K26.1; have := K34.1; have := g8; omega)) all0)), F66, F58, V35.keep K55 (ninS ne65 nin0), F67, F68⟩
  · exact absurd rfl b5
theorem d41_0 : decode prog_3_method_9_code 0 = .ok (.iload_n 1, 1) := by decide +kernel
theorem d41_1 : decode prog_3_method_9_code 1 = .ok (.invokestatic 105, 3) := by decide +kernel
theorem d41_4 : decode prog_3_method_9_code 4 = .ok (.iload_n 1, 1) := by decide +kernel
theorem d41_5 : decode prog_3_method_9_code 5 = .ok (.ifCond .ne 9, 3) := by decide +kernel
theorem d41_8 : decode prog_3_method_9_code 8 = .ok (.getstatic 68, 3) := by decide +kernel
theorem d41_11 : decode prog_3_method_9_code 11 = .ok (.goto 34, 3) := by decide +kernel
theorem d41_14 : decode prog_3_method_9_code 14 = .ok (.new 8, 3) := by decide +kernel
theorem d41_17 : decode prog_3_method_9_code 17 = .ok (.dup, 1) := by decide +kernel
theorem d41_18 : decode prog_3_method_9_code 18 = .ok (.getstatic 92, 3) := by decide +kernel
theorem d41_21 : decode prog_3_method_9_code 21 = .ok (.invokestatic 1, 3) := by decide +kernel
theorem d41_24 : decode prog_3_method_9_code 24 = .ok (.invokestatic 1, 3) := by decide +kernel
theorem d41_27 : decode prog_3_method_9_code 27 = .ok (.new 109, 3) := by decide +kernel
theorem d41_30 : decode prog_3_method_9_code 30 = .ok (.dup, 1) := by decide +kernel
theorem d41_31 : decode prog_3_method_9_code 31 = .ok (.aload_n 0, 1) := by decide +kernel
theorem d41_32 : decode prog_3_method_9_code 32 = .ok (.iload_n 1, 1) := by decide +kernel
theorem d41_33 : decode prog_3_method_9_code 33 = .ok (.invokespecial 111, 3) := by decide +kernel
theorem d41_36 : decode prog_3_method_9_code 36 = .ok (.invokestatic 98, 3) := by decide +kernel
theorem d41_39 : decode prog_3_method_9_code 39 = .ok (.invokestatic 1, 3) := by decide +kernel
theorem d41_42 : decode prog_3_method_9_code 42 = .ok (.invokespecial 7, 3) := by decide +kernel
theorem d41_45 : decode prog_3_method_9_code 45 = .ok (.areturn, 1) := by decide +kernel
theorem pd41 : parseMethodDescriptor "(Ljava/lang/String;I)Lcom/example/subsumer/subsumer/core/Description;" = some ⟨[(.object "java/lang/String"), .int], some (.object "com/example/subsumer/subsumer/core/Description")⟩ := by decide +kernel
theorem pn41 : plainName "com/example/subsumer/subsumer/core/Description" = true := by first | (simp [plainName, overriddenIn]; done) | decide +kernel
abbrev B41 : Bd := ((⟨"com/example/subsumer/subsumer/core/Description", "min", "(Ljava/lang/String;I)Lcom/example/subsumer/subsumer/core/Description;"⟩ : MethodName), prog_3_method_9_code, 2, (some (.object "com/example/subsumer/subsumer/core/Description")), ({ frames := 6, cells := 5, slots := 19, locals := 79 } : Room), tables_1)
theorem ef41 (mid : MethodId) (p : Addr) (m : Int32) : entryFrame mid (List.toArray [.ref p, .int m]) 2 = mkF mid 0 #[.val (.ref p), .val (.int m)] [] := by first | (simp [entryFrame, mkF, argsToLocals, Value.category]; done) | rfl
def Q41 (Z : State) (el : Addr) (em : Addr) (h0 : Heap) (v : Option Value) (h : Heap) : Prop := ∃ d l x, v = some (.ref d) ∧ h0.size ≤ d ∧ Keep h0 h [] ∧ Exa Z h d "com/example/subsumer/subsumer/core/Description" ∧ Fld Z h d "com/example/subsumer/subsumer/core/Description" "atLeast" "Ljava/util/List;" (.ref l) ∧ LV Z h el em l (some x)
set_option maxRecDepth 65536 in
set_option maxHeartbeats 40000000 in
theorem c41 (Z : State) (hw : Wd Z tables_1) (h0 : Heap) (p : Addr) (m : Int32) (el : Addr) (em : Addr) (ea : Addr) (top : Addr) (bot : Addr) (lem : Addr) (non : Addr) (hv : Ev0 Z el ea em top bot lem non) (hm : ¬ m < 0) (hm0 : ¬ m = 0) : Con Z B41 (List.toArray [.ref p, .int m]) h0 (Q41 Z el em h0) := by
  refine Con.mk hw pn41 (fun mid => ef41 mid p m) (Go.old fun hle' => ?_)
  have hle := hle'.1
  obtain ⟨hSel, hSem, hStop, hSbot, hSlem, hSnon, hEel, hFel, hAea, hEtop, hTl, hTe, hTu, hTa, hTm, hEbot, hnbt, hElem, hLn, hLg, hAnon⟩ := id hv
  refine Go.iloadN 1 rfl d41_0 rfl ?_
  refine Go.callS 4 rfl (C := B42) [.int m] (rest := []) 293 294 28 295 (c42 Z hw h0 m hm) d41_1 rfl rfl rfl rfl (by decide) pd42 rfl rfl rfl (W := 0) (Nat.le_of_ble_eq_true rfl) (by decide) (by decide) (by decide) (by decide) fun v1 h2 q3 => ?_
  obtain ⟨rfl, rfl⟩ := q3
  refine Go.iloadN 5 rfl d41_4 rfl ?_
  refine Go.if_ne 14 8 d41_5 (by decide) rfl rfl (fun (b4 : ¬ m = 0) => ?_) (fun (b4 : m = 0) => ?_)
  · refine Go.newO 17 rfl 35 36 28 d41_14 rfl rfl rfl (by decide) (by decide) fun h6 a5 g7 z8 K9 E10 D11 => ?_
    refine Go.dup 18 rfl d41_17 rfl ?_
    refine Go.getS 21 rfl (v := .ref lem) 176 d41_18 rfl hSlem ?_
    refine Go.callS 24 rfl (C := B9) [] (rest := [.ref lem, .ref a5, .ref a5]) 52 53 54 55 (c9 Z hw h6 el ea em top bot lem non hv) d41_21 rfl rfl rfl rfl (by decide) pd9 rfl rfl rfl (W := 3) (Nat.le_of_ble_eq_true rfl) (by decide) (by decide) (by decide) (by decide) fun v12 h13 q14 => ?_
    obtain ⟨rfl, rfl⟩ := q14
    refine Go.callS 27 rfl (C := B9) [] (rest := [.ref el, .ref lem, .ref a5, .ref a5]) 52 53 54 55 (c9 Z hw h6 el ea em top bot lem non hv) d41_24 rfl rfl rfl rfl (by decide) pd9 rfl rfl rfl (W := 4) (Nat.le_of_ble_eq_true rfl) (by decide) (by decide) (by decide) (by decide) fun v15 h16 q17 => ?_
    obtain ⟨rfl, rfl⟩ := q17
    refine Go.newO 30 rfl 296 297 298 d41_27 rfl rfl rfl (by decide) (by decide) fun h19 a18 g20 z21 K22 E23 D24 => ?_
    refine Go.dup 31 rfl d41_30 rfl ?_
    refine Go.aloadN 32 rfl d41_31 rfl rfl ?_
    refine Go.iloadN 33 rfl d41_32 rfl ?_
    refine Go.callI 36 rfl (C := B43) a18 [.ref p, .int m] (rest := [.ref a18, .ref el, .ref el, .ref lem, .ref a5, .ref a5]) 299 300 298 301 (c43 Z hw h19 a18 p m z21 E23 (D24 304 (Or.inr rfl) (ty := (.object "java/lang/String")) (by decide) : Fld Z h19 a18 "com/example/subsumer/subsumer/core/AtLeast" "property" "Ljava/lang/String;" (.null)) (D24 306 (Or.inr rfl) (ty := .int) (by decide) : Fld Z h19 a18 "com/example/subsumer/subsumer/core/AtLeast" "number" "I" (.int (0 : Int32)))) d41_33 rfl rfl rfl rfl rfl rfl (by decide) pd43 rfl rfl rfl (W := 6) (Nat.le_of_ble_eq_true rfl) (by decide) (by decide) (by decide) (by decide) fun v25 h26 q27 => ?_
    obtain ⟨rfl, K28, F29, F30⟩ := q27
    refine Go.callS 39 rfl (C := B27) [.ref a18] (rest := [.ref el, .ref el, .ref lem, .ref a5, .ref a5]) 194 195 54 196 (c27 Z hw h26 a18 el em ea top bot lem non hv) d41_36 rfl rfl rfl rfl (by decide) pd27 rfl rfl rfl (W := 5) (Nat.le_of_ble_eq_true rfl) (by decide) (by decide) (by decide) (by decide) fun v31 h32 q33 => ?_
    obtain ⟨l34, rfl, g35, K36, V37⟩ := q33
    have z38 : Z.heap.size ≤ l34 := Nat.le_trans (Nat.le_trans (Nat.le_trans (Nat.le_trans hle K9.1) K22.1) K28.1) g35
    refine Go.callS 42 rfl (C := B9) [] (rest := [.ref l34, .ref el, .ref el, .ref lem, .ref a5, .ref a5]) 52 53 54 55 (c9 Z hw h32 el ea em top bot lem non hv) d41_39 rfl rfl rfl rfl (by decide) pd9 rfl rfl rfl (W := 6) (Nat.le_of_ble_eq_true rfl) (by decide) (by decide) (by decide) (by decide) fun v39 h40 q41 => ?_
    obtain ⟨rfl, rfl⟩ := q41
    have F42 : Exa Z h32 a5 "com/example/subsumer/subsumer/core/Description" := (((E10.keep K22).keep K28).keep K36)
    have ne43 : a5 ≠ a18 := (show @Ne Nat a5 a18 from by have := ltN E10.lt; have := g20; omega)
    have F44 : Fld Z h32 a5 "com/example/subsumer/subsumer/core/Description" "label" "Lcom/example/subsumer/subsumer/core/Label;" (.null) := ((((D11 66 (Or.inr rfl) (ty := (.object "com/example/subsumer/subsumer/core/Label")) (by decide) : Fld Z h6 a5 "com/example/subsumer/subsumer/core/Description" "label" "Lcom/example/subsumer/subsumer/core/Label;" (.null)).keep K22 nin0).keep K28 (ninS ne43 nin0)).keep K36 nin0)
    have F45 : Fld Z h32 a5 "com/example/subsumer/subsumer/core/Description" "existentials" "Ljava/util/List;" (.null) := ((((D11 68 (Or.inr rfl) (ty := (.object "java/util/List")) (by decide) : Fld Z h6 a5 "com/example/subsumer/subsumer/core/Description" "existentials" "Ljava/util/List;" (.null)).keep K22 nin0).keep K28 (ninS ne43 nin0)).keep K36 nin0)
    have F46 : Fld Z h32 a5 "com/example/subsumer/subsumer/core/Description" "universals" "Ljava/util/List;" (.null) := ((((D11 70 (Or.inr rfl) (ty := (.object "java/util/List")) (by decide) : Fld Z h6 a5 "com/example/subsumer/subsumer/core/Description" "universals" "Ljava/util/List;" (.null)).keep K22 nin0).keep K28 (ninS ne43 nin0)).keep K36 nin0)
    have F47 : Fld Z h32 a5 "com/example/subsumer/subsumer/core/Description" "atLeast" "Ljava/util/List;" (.null) := ((((D11 72 (Or.inr rfl) (ty := (.object "java/util/List")) (by decide) : Fld Z h6 a5 "com/example/subsumer/subsumer/core/Description" "atLeast" "Ljava/util/List;" (.null)).keep K22 nin0).keep K28 (ninS ne43 nin0)).keep K36 nin0)
    have F48 : Fld Z h32 a5 "com/example/subsumer/subsumer/core/Description" "atMost" "Ljava/util/List;" (.null) := ((((D11 74 (Or.inr rfl) (ty := (.object "java/util/List")) (by decide) : Fld Z h6 a5 "com/example/subsumer/subsumer/core/Description" "atMost" "Ljava/util/List;" (.null)).keep K22 nin0).keep K28 (ninS ne43 nin0)).keep K36 nin0)
    have F49 : Fld Z h32 a5 "com/example/subsumer/subsumer/core/Description" "existentialInside" "Z" (.int (0 : Int32)) := ((((D11 128 (Or.inr rfl) (ty := .boolean) (by decide) : Fld Z h6 a5 "com/example/subsumer/subsumer/core/Description" "existentialInside" "Z" (.int (0 : Int32))).keep K22 nin0).keep K28 (ninS ne43 nin0)).keep K36 nin0)
    have F50 : Fld Z h32 a5 "com/example/subsumer/subsumer/core/Description" "numberInside" "Z" (.int (0 : Int32)) := ((((D11 130 (Or.inr rfl) (ty := .boolean) (by decide) : Fld Z h6 a5 "com/example/subsumer/subsumer/core/Description" "numberInside" "Z" (.int (0 : Int32))).keep K22 nin0).keep K28 (ninS ne43 nin0)).keep K36 nin0)
    refine Go.callI 45 rfl (C := B11) a5 [.ref lem, .ref el, .ref el, .ref l34, .ref el] (rest := [.ref a5]) 61 62 28 63 (c11 Z hw h32 a5 lem el el l34 el el ea em top bot lem non hv z8 F42 F44 F45 F46 F47 F48 F49 F50 none (Or.inl ⟨rfl, rfl⟩) none (Or.inl ⟨rfl, rfl⟩) (some a18) V37 none (Or.inl ⟨rfl, rfl⟩) (fun x hx => by cases hx) (fun x hx => by cases hx)) d41_42 rfl rfl rfl rfl rfl rfl (by decide) pd11 rfl rfl rfl (W := 1) (Nat.le_of_ble_eq_true rfl) (by decide) (by decide) (by decide) (by decide) fun v51 h52 q53 => ?_
    obtain ⟨rfl, K54, F55, F56, F57, F58, F59, q62, q63, F60, F61⟩ := q53
    have ne64 : l34 ≠ a5 := (show @Ne Nat l34 a5 from by have := ltN E10.lt; have := K22.1; have := K28.1; have := g35; omega)
    have F65 : Exa Z h52 a5 "com/example/subsumer/subsumer/core/Description" := (F42.keep K54)
    exact Go.retA d41_45 rfl rfl rfl (by decide) (by decide) ⟨a5, l34, a18, rfl, Nat.le_of_eq g7.symm, ((((((Keep.refl h0 []).trans K9 all0).trans K22 all0).trans K28 (allS (Or.inr (by have := K9.1; have := K22.1; have := g20; omega)) all0)).trans K36 all0).trans K54 (allS (Or.inr (by have := K9.1; have := K22.1; have := K28.1; have := K36.1; have := g7; omega)) all0)), F65, F58, V37.keep K54 (ninS ne64 nin0)⟩
  · exact absurd b4 hm0
theorem d44_0 : decode prog_3_method_10_code 0 = .ok (.iload_n 1, 1) := by decide +kernel
theorem d44_1 : decode prog_3_method_10_code 1 = .ok (.invokestatic 105, 3) := by decide +kernel
theorem d44_4 : decode prog_3_method_10_code 4 = .ok (.new 8, 3) := by decide +kernel
theorem d44_7 : decode prog_3_method_10_code 7 = .ok (.dup, 1) := by decide +kernel
theorem d44_8 : decode prog_3_method_10_code 8 = .ok (.getstatic 92, 3) := by decide +kernel
theorem d44_11 : decode prog_3_method_10_code 11 = .ok (.invokestatic 1, 3) := by decide +kernel
theorem d44_14 : decode prog_3_method_10_code 14 = .ok (.invokestatic 1, 3) := by decide +kernel
theorem d44_17 : decode prog_3_method_10_code 17 = .ok (.invokestatic 1, 3) := by decide +kernel
theorem d44_20 : decode prog_3_method_10_code 20 = .ok (.new 114, 3) := by decide +kernel
theorem d44_23 : decode prog_3_method_10_code 23 = .ok (.dup, 1) := by decide +kernel
theorem d44_24 : decode prog_3_method_10_code 24 = .ok (.aload_n 0, 1) := by decide +kernel
theorem d44_25 : decode prog_3_method_10_code 25 = .ok (.iload_n 1, 1) := by decide +kernel
theorem d44_26 : decode prog_3_method_10_code 26 = .ok (.invokespecial 116, 3) := by decide +kernel
theorem d44_29 : decode prog_3_method_10_code 29 = .ok (.invokestatic 98, 3) := by decide +kernel
theorem d44_32 : decode prog_3_method_10_code 32 = .ok (.invokespecial 7, 3) := by decide +kernel
theorem d44_35 : decode prog_3_method_10_code 35 = .ok (.areturn, 1) := by decide +kernel
theorem pd44 : parseMethodDescriptor "(Ljava/lang/String;I)Lcom/example/subsumer/subsumer/core/Description;" = some ⟨[(.object "java/lang/String"), .int], some (.object "com/example/subsumer/subsumer/core/Description")⟩ := by decide +kernel
theorem pn44 : plainName "com/example/subsumer/subsumer/core/Description" = true := by first | (simp [plainName, overriddenIn]; done) | decide +kernel
abbrev B44 : Bd := ((⟨"com/example/subsumer/subsumer/core/Description", "max", "(Ljava/lang/String;I)Lcom/example/subsumer/subsumer/core/Description;"⟩ : MethodName), prog_3_method_10_code, 2, (some (.object "com/example/subsumer/subsumer/core/Description")), ({ frames := 6, cells := 5, slots := 19, locals := 80 } : Room), tables_1)
theorem ef44 (mid : MethodId) (p : Addr) (m : Int32) : entryFrame mid (List.toArray [.ref p, .int m]) 2 = mkF mid 0 #[.val (.ref p), .val (.int m)] [] := by first | (simp [entryFrame, mkF, argsToLocals, Value.category]; done) | rfl
def Q44 (Z : State) (el : Addr) (em : Addr) (h0 : Heap) (v : Option Value) (h : Heap) : Prop := ∃ d l x, v = some (.ref d) ∧ h0.size ≤ d ∧ Keep h0 h [] ∧ Exa Z h d "com/example/subsumer/subsumer/core/Description" ∧ Fld Z h d "com/example/subsumer/subsumer/core/Description" "atMost" "Ljava/util/List;" (.ref l) ∧ LV Z h el em l (some x)
set_option maxRecDepth 65536 in
set_option maxHeartbeats 40000000 in
theorem c44 (Z : State) (hw : Wd Z tables_1) (h0 : Heap) (p : Addr) (m : Int32) (el : Addr) (em : Addr) (ea : Addr) (top : Addr) (bot : Addr) (lem : Addr) (non : Addr) (hv : Ev0 Z el ea em top bot lem non) (hm : ¬ m < 0) : Con Z B44 (List.toArray [.ref p, .int m]) h0 (Q44 Z el em h0) := by
  refine Con.mk hw pn44 (fun mid => ef44 mid p m) (Go.old fun hle' => ?_)
  have hle := hle'.1
  obtain ⟨hSel, hSem, hStop, hSbot, hSlem, hSnon, hEel, hFel, hAea, hEtop, hTl, hTe, hTu, hTa, hTm, hEbot, hnbt, hElem, hLn, hLg, hAnon⟩ := id hv
  refine Go.iloadN 1 rfl d44_0 rfl ?_
  refine Go.callS 4 rfl (C := B42) [.int m] (rest := []) 293 294 28 295 (c42 Z hw h0 m hm) d44_1 rfl rfl rfl rfl (by decide) pd42 rfl rfl rfl (W := 0) (Nat.le_of_ble_eq_true rfl) (by decide) (by decide) (by decide) (by decide) fun v1 h2 q3 => ?_
  obtain ⟨rfl, rfl⟩ := q3
  refine Go.newO 7 rfl 35 36 28 d44_4 rfl rfl rfl (by decide) (by decide) fun h5 a4 g6 z7 K8 E9 D10 => ?_
  refine Go.dup 8 rfl d44_7 rfl ?_
  refine Go.getS 11 rfl (v := .ref lem) 176 d44_8 rfl hSlem ?_
  refine Go.callS 14 rfl (C := B9) [] (rest := [.ref lem, .ref a4, .ref a4]) 52 53 54 55 (c9 Z hw h5 el ea em top bot lem non hv) d44_11 rfl rfl rfl rfl (by decide) pd9 rfl rfl rfl (W := 3) (Nat.le_of_ble_eq_true rfl) (by decide) (by decide) (by decide) (by decide) fun v11 h12 q13 => ?_
  obtain ⟨rfl, rfl⟩ := q13
  refine Go.callS 17 rfl (C := B9) [] (rest := [.ref el, .ref lem, .ref a4, .ref a4]) 52 53 54 55 (c9 Z hw h5 el ea em top bot lem non hv) d44_14 rfl rfl rfl rfl (by decide) pd9 rfl rfl rfl (W := 4) (Nat.le_of_ble_eq_true rfl) (by decide) (by decide) (by decide) (by decide) fun v14 h15 q16 => ?_
  obtain ⟨rfl, rfl⟩ := q16
  refine Go.callS 20 rfl (C := B9) [] (rest := [.ref el, .ref el, .ref lem, .ref a4, .ref a4]) 52 53 54 55 (c9 Z hw h5 el ea em top bot lem non hv) d44_17 rfl rfl rfl rfl (by decide) pd9 rfl rfl rfl (W := 5) (Nat.le_of_ble_eq_true rfl) (by decide) (by decide) (by decide) (by decide) fun v17 h18 q19 => ?_
  obtain ⟨rfl, rfl⟩ := q19
  refine Go.newO 23 rfl 311 312 313 d44_20 rfl rfl rfl (by decide) (by decide) fun h21 a20 g22 z23 K24 E25 D26 => ?_
  refine Go.dup 24 rfl d44_23 rfl ?_
  refine Go.aloadN 25 rfl d44_24 rfl rfl ?_
  refine Go.iloadN 26 rfl d44_25 rfl ?_
  refine Go.callI 29 rfl (C := B45) a20 [.ref p, .int m] (rest := [.ref a20, .ref el, .ref el, .ref el, .ref lem, .ref a4, .ref a4]) 314 315 313 316 (c45 Z hw h21 a20 p m z23 E25 (D26 319 (Or.inr rfl) (ty := (.object "java/lang/String")) (by decide) : Fld Z h21 a20 "com/example/subsumer/subsumer/core/AtMost" "property" "Ljava/lang/String;" (.null)) (D26 321 (Or.inr rfl) (ty := .int) (by decide) : Fld Z h21 a20 "com/example/subsumer/subsumer/core/AtMost" "number" "I" (.int (0 : Int32)))) d44_26 rfl rfl rfl rfl rfl rfl (by decide) pd45 rfl rfl rfl (W := 7) (Nat.le_of_ble_eq_true rfl) (by decide) (by decide) (by decide) (by decide) fun v27 h28 q29 => ?_
  obtain ⟨rfl, K30, F31, F32⟩ := q29
  refine Go.callS 32 rfl (C := B27) [.ref a20] (rest := [.ref el, .ref el, .ref el, .ref lem, .ref a4, .ref a4]) 194 195 54 196 (c27 Z hw h28 a20 el em ea top bot lem non hv) d44_29 rfl rfl rfl rfl (by decide) pd27 rfl rfl rfl (W := 6) (Nat.le_of_ble_eq_true rfl) (by decide) (by decide) (by decide) (by decide) fun v33 h34 q35 => ?_
  obtain ⟨l36, rfl, g37, K38, V39⟩ := q35
  have z40 : Z.heap.size ≤ l36 := Nat.le_trans (Nat.le_trans (Nat.le_trans (Nat.le_trans hle K8.1) K24.1) K30.1) g37
  have F41 : Exa Z h34 a4 "com/example/subsumer/subsumer/core/Description" := (((E9.keep K24).keep K30).keep K38)
  have ne42 : a4 ≠ a20 := (show @Ne Nat a4 a20 from by have := ltN E9.lt; have := g22; omega)
  have F43 : Fld Z h34 a4 "com/example/subsumer/subsumer/core/Description" "label" "Lcom/example/subsumer/subsumer/core/Label;" (.null) := ((((D10 66 (Or.inr rfl) (ty := (.object "com/example/subsumer/subsumer/core/Label")) (by decide) : Fld Z h5 a4 "com/example/subsumer/subsumer/core/Description" "label" "Lcom/example/subsumer/subsumer/core/Label;" (.null)).keep K24 nin0).keep K30 (ninS ne42 nin0)).keep K38 nin0)
  have F44 : Fld Z h34 a4 "com/example/subsumer/subsumer/core/Description" "existentials" "Ljava/util/List;" (.null) := ((((D10 68 (Or.inr rfl) (ty := (.object "java/util/List")) (by decide) : Fld Z h5 a4 "com/example/subsumer/subsumer/core/Description" "existentials" "Ljava/util/List;" (.null)).keep K24 nin0).keep K30 (ninS ne42 nin0)).keep K38 nin0)
  have F45 : Fld Z h34 a4 "com/example/subsumer/subsumer/core/Description" "universals" "Ljava/util/List;" (.null) := ((((D10 70 (Or.inr rfl) (ty := (.object "java/util/List")) (by decide) : Fld Z h5 a4 "com/example/subsumer/subsumer/core/Description" "universals" "Ljava/util/List;" (.null)).keep K24 nin0).keep K30 (ninS ne42 nin0)).keep K38 nin0)
  have F46 : Fld Z h34 a4 "com/example/subsumer/subsumer/core/Description" "atLeast" "Ljava/util/List;" (.null) := ((((D10 72 (Or.inr rfl) (ty := (.object "java/util/List")) (by decide) : Fld Z h5 a4 "com/example/subsumer/subsumer/core/Description" "atLeast" "Ljava/util/List;" (.null)).keep K24 nin0).keep K30 (ninS ne42 nin0)).keep K38 nin0)
  have F47 : Fld Z h34 a4 "com/example/subsumer/subsumer/core/Description" "atMost" "Ljava/util/List;" (.null) := ((((D10 74 (Or.inr rfl) (ty := (.object "java/util/List")) (by decide) : Fld Z h5 a4 "com/example/subsumer/subsumer/core/Description" "atMost" "Ljava/util/List;" (.null)).keep K24 nin0).keep K30 (ninS ne42 nin0)).keep K38 nin0)
  have F48 : Fld Z h34 a4 "com/example/subsumer/subsumer/core/Description" "existentialInside" "Z" (.int (0 : Int32)) := ((((D10 128 (Or.inr rfl) (ty := .boolean) (by decide) : Fld Z h5 a4 "com/example/subsumer/subsumer/core/Description" "existentialInside" "Z" (.int (0 : Int32))).keep K24 nin0).keep K30 (ninS ne42 nin0)).keep K38 nin0)
  have F49 : Fld Z h34 a4 "com/example/subsumer/subsumer/core/Description" "numberInside" "Z" (.int (0 : Int32)) := ((((D10 130 (Or.inr rfl) (ty := .boolean) (by decide) : Fld Z h5 a4 "com/example/subsumer/subsumer/core/Description" "numberInside" "Z" (.int (0 : Int32))).keep K24 nin0).keep K30 (ninS ne42 nin0)).keep K38 nin0)
  refine Go.callI 35 rfl (C := B11) a4 [.ref lem, .ref el, .ref el, .ref el, .ref l36] (rest := [.ref a4]) 61 62 28 63 (c11 Z hw h34 a4 lem el el el l36 el ea em top bot lem non hv z7 F41 F43 F44 F45 F46 F47 F48 F49 none (Or.inl ⟨rfl, rfl⟩) none (Or.inl ⟨rfl, rfl⟩) none (Or.inl ⟨rfl, rfl⟩) (some a20) V39 (fun x hx => by cases hx) (fun x hx => by cases hx)) d44_32 rfl rfl rfl rfl rfl rfl (by decide) pd11 rfl rfl rfl (W := 1) (Nat.le_of_ble_eq_true rfl) (by decide) (by decide) (by decide) (by decide) fun v50 h51 q52 => ?_
  obtain ⟨rfl, K53, F54, F55, F56, F57, F58, q61, q62, F59, F60⟩ := q52
  have ne63 : l36 ≠ a4 := (show @Ne Nat l36 a4 from by have := ltN E9.lt; have := K24.1; have := K30.1; have := g37; omega)
  have F64 : Exa Z h51 a4 "com/example/subsumer/subsumer/core/Description" := (F41.keep K53)
  exact Go.retA d44_35 rfl rfl rfl (by decide) (by decide) ⟨a4, l36, a20, rfl, Nat.le_of_eq g6.symm, ((((((Keep.refl h0 []).trans K8 all0).trans K24 all0).trans K30 (allS (Or.inr (by have := K8.1; have := K24.1; have := g22; omega)) all0)).trans K38 all0).trans K53 (allS (Or.inr (by have := K8.1; have := K24.1; have := K30.1; have := K38.1; have := g6; omega)) all0)), F64, F58, V39.keep K53 (ninS ne63 nin0)⟩
theorem pn0 : plainName "com/example/subsumer/subsumer/core/DescriptionIsTopPinLaw" = true := by first | (simp [plainName, overriddenIn]; done) | decide +kernel
abbrev B0 : Bd := (x, code, maxLocals, ret, room_1, tables_1)
theorem ef0 (mid : MethodId) (p1 : Int32) (p2 : Int32) (p3 : Int32) (p4 : Int32) : entryFrame mid (List.toArray [.int p1, .int p2, .int p3, .int p4]) maxLocals = mkF mid 0 #[.val (.int p1), .val (.int p2), .val (.int p3), .val (.int p4), .unset, .unset, .unset, .unset, .unset, .unset, .unset, .unset, .unset, .unset, .unset, .unset, .unset, .unset] [] := by first | (simp [entryFrame, mkF, argsToLocals, Value.category, maxLocals]; done) | rfl
def Q0  (v : Option Value) (h : Heap) : Prop := v = some (.int 1)
set_option maxRecDepth 65536 in
set_option maxHeartbeats 40000000 in
theorem c0 (Z : State) (hw : Wd Z tables_1) (h0 : Heap) (p1 : Int32) (p2 : Int32) (p3 : Int32) (p4 : Int32)  (el : Addr) (ea : Addr) (em : Addr) (top : Addr) (bot : Addr) (lem : Addr) (non : Addr) (hv : Ev0 Z el ea em top bot lem non) (cs : Int32) (hS : Sta Z Z.heap "java/lang/String" "COMPACT_STRINGS" "Z" (.int cs)) (hcs : ¬ cs = 0) : Con Z B0 (List.toArray [.int p1, .int p2, .int p3, .int p4]) h0 (Q0 ) := by
  refine Con.mk hw pn0 (fun mid => ef0 mid p1 p2 p3 p4) (Go.old fun hle' => ?_)
  have hle := hle'.1
  obtain ⟨hSel, hSem, hStop, hSbot, hSlem, hSnon, hEel, hFel, hAea, hEtop, hTl, hTe, hTu, hTa, hTm, hEbot, hnbt, hElem, hLn, hLg, hAnon⟩ := id hv
  refine Go.iloadN 1 rfl at_0 rfl ?_
  refine Go.bipush 3 rfl (6 : Int32) at_1 rfl ?_
  refine Go.iushr 4 rfl at_3 ?_
  refine Go.iconst 5 rfl (3 : Int32) at_4 rfl ?_
  refine Go.iand 6 rfl at_5 ?_
  refine Go.nameI fun v1 hv1 => ?_
  refine Go.istore 8 rfl at_6 (Ls' := #[.val (.int p1), .val (.int p2), .val (.int p3), .val (.int p4), .val (.int v1), .unset, .unset, .unset, .unset, .unset, .unset, .unset, .unset, .unset, .unset, .unset, .unset, .unset]) rfl ?_
  refine Go.iload 10 rfl at_8 rfl ?_
  refine Go.iconst 11 rfl (1 : Int32) at_10 rfl ?_
  refine Go.icmp_ne 29 14 at_11 (by decide) rfl rfl (fun (b2 : ¬ v1 = (1 : Int32)) => ?_) (fun (b2 : v1 = (1 : Int32)) => ?_)
  · refine Go.iload 31 rfl at_29 rfl ?_
    refine Go.iconst 32 rfl (2 : Int32) at_31 rfl ?_
    refine Go.icmp_ne 42 35 at_32 (by decide) rfl rfl (fun (b11 : ¬ v1 = (2 : Int32)) => ?_) (fun (b11 : v1 = (2 : Int32)) => ?_)
    · refine Go.iloadN 43 rfl at_42 rfl ?_
      refine Go.iconst 44 rfl (1 : Int32) at_43 rfl ?_
      refine Go.iand 45 rfl at_44 ?_
      refine Go.joinI (pcJ := 53) (LsJ := #[.val (.int p1), .val (.int p2), .val (.int p3), .val (.int p4), .val (.int v1), .unset, .unset, .unset, .unset, .unset, .unset, .unset, .unset, .unset, .unset, .unset, .unset, .unset]) (stJ := []) (fun v => v = if (p1 &&& (1 : Int32)) = 0 then 0 else 1) (fun J => ?_) (fun f0 hf0 => ?_)
      · refine Go.if_eq 52 48 at_45 (by decide) rfl rfl (fun (b19 : (p1 &&& (1 : Int32)) = 0) => ?_) (fun (b19 : ¬ (p1 &&& (1 : Int32)) = 0) => ?_)
        · refine Go.iconst 53 rfl (0 : Int32) at_52 rfl ?_
          exact J _ (by simp [b19])
        · refine Go.iconst 49 rfl (1 : Int32) at_48 rfl ?_
          refine Go.goto 53 at_49 (by decide) (by decide) ?_
          exact J _ (by simp [b19])
      · refine Go.istore 55 rfl at_53 (Ls' := #[.val (.int p1), .val (.int p2), .val (.int p3), .val (.int p4), .val (.int v1), .val (.int f0), .unset, .unset, .unset, .unset, .unset, .unset, .unset, .unset, .unset, .unset, .unset, .unset]) rfl ?_
        refine Go.iloadN 56 rfl at_55 rfl ?_
        refine Go.iconst 57 rfl (2 : Int32) at_56 rfl ?_
        refine Go.iand 58 rfl at_57 ?_
        refine Go.joinI (pcJ := 66) (LsJ := #[.val (.int p1), .val (.int p2), .val (.int p3), .val (.int p4), .val (.int v1), .val (.int f0), .unset, .unset, .unset, .unset, .unset, .unset, .unset, .unset, .unset, .unset, .unset, .unset]) (stJ := []) (fun v => v = if (p1 &&& (2 : Int32)) = 0 then 0 else 1) (fun J => ?_) (fun f1 hf1 => ?_)
        · refine Go.if_eq 65 61 at_58 (by decide) rfl rfl (fun (b20 : (p1 &&& (2 : Int32)) = 0) => ?_) (fun (b20 : ¬ (p1 &&& (2 : Int32)) = 0) => ?_)
          · refine Go.iconst 66 rfl (0 : Int32) at_65 rfl ?_
            exact J _ (by simp [b20])
          · refine Go.iconst 62 rfl (1 : Int32) at_61 rfl ?_
            refine Go.goto 66 at_62 (by decide) (by decide) ?_
            exact J _ (by simp [b20])
        · refine Go.istore 68 rfl at_66 (Ls' := #[.val (.int p1), .val (.int p2), .val (.int p3), .val (.int p4), .val (.int v1), .val (.int f0), .val (.int f1), .unset, .unset, .unset, .unset, .unset, .unset, .unset, .unset, .unset, .unset, .unset]) rfl ?_
          refine Go.iloadN 69 rfl at_68 rfl ?_
          refine Go.iconst 70 rfl (4 : Int32) at_69 rfl ?_
          refine Go.iand 71 rfl at_70 ?_
          refine Go.joinI (pcJ := 79) (LsJ := #[.val (.int p1), .val (.int p2), .val (.int p3), .val (.int p4), .val (.int v1), .val (.int f0), .val (.int f1), .unset, .unset, .unset, .unset, .unset, .unset, .unset, .unset, .unset, .unset, .unset]) (stJ := []) (fun v => v = if (p1 &&& (4 : Int32)) = 0 then 0 else 1) (fun J => ?_) (fun f2 hf2 => ?_)
          · refine Go.if_eq 78 74 at_71 (by decide) rfl rfl (fun (b21 : (p1 &&& (4 : Int32)) = 0) => ?_) (fun (b21 : ¬ (p1 &&& (4 : Int32)) = 0) => ?_)
            · refine Go.iconst 79 rfl (0 : Int32) at_78 rfl ?_
              exact J _ (by simp [b21])
            · refine Go.iconst 75 rfl (1 : Int32) at_74 rfl ?_
              refine Go.goto 79 at_75 (by decide) (by decide) ?_
              exact J _ (by simp [b21])
          · refine Go.istore 81 rfl at_79 (Ls' := #[.val (.int p1), .val (.int p2), .val (.int p3), .val (.int p4), .val (.int v1), .val (.int f0), .val (.int f1), .val (.int f2), .unset, .unset, .unset, .unset, .unset, .unset, .unset, .unset, .unset, .unset]) rfl ?_
            refine Go.iloadN 82 rfl at_81 rfl ?_
            refine Go.bipush 84 rfl (8 : Int32) at_82 rfl ?_
            refine Go.iand 85 rfl at_84 ?_
            refine Go.joinI (pcJ := 93) (LsJ := #[.val (.int p1), .val (.int p2), .val (.int p3), .val (.int p4), .val (.int v1), .val (.int f0), .val (.int f1), .val (.int f2), .unset, .unset, .unset, .unset, .unset, .unset, .unset, .unset, .unset, .unset]) (stJ := []) (fun v => v = if (p1 &&& (8 : Int32)) = 0 then 0 else 1) (fun J => ?_) (fun f3 hf3 => ?_)
            · refine Go.if_eq 92 88 at_85 (by decide) rfl rfl (fun (b22 : (p1 &&& (8 : Int32)) = 0) => ?_) (fun (b22 : ¬ (p1 &&& (8 : Int32)) = 0) => ?_)
              · refine Go.iconst 93 rfl (0 : Int32) at_92 rfl ?_
                exact J _ (by simp [b22])
              · refine Go.iconst 89 rfl (1 : Int32) at_88 rfl ?_
                refine Go.goto 93 at_89 (by decide) (by decide) ?_
                exact J _ (by simp [b22])
            · refine Go.istore 95 rfl at_93 (Ls' := #[.val (.int p1), .val (.int p2), .val (.int p3), .val (.int p4), .val (.int v1), .val (.int f0), .val (.int f1), .val (.int f2), .val (.int f3), .unset, .unset, .unset, .unset, .unset, .unset, .unset, .unset, .unset]) rfl ?_
              refine Go.iloadN 96 rfl at_95 rfl ?_
              refine Go.bipush 98 rfl (16 : Int32) at_96 rfl ?_
              refine Go.iand 99 rfl at_98 ?_
              refine Go.joinI (pcJ := 107) (LsJ := #[.val (.int p1), .val (.int p2), .val (.int p3), .val (.int p4), .val (.int v1), .val (.int f0), .val (.int f1), .val (.int f2), .val (.int f3), .unset, .unset, .unset, .unset, .unset, .unset, .unset, .unset, .unset]) (stJ := []) (fun v => v = if (p1 &&& (16 : Int32)) = 0 then 0 else 1) (fun J => ?_) (fun f4 hf4 => ?_)
              · refine Go.if_eq 106 102 at_99 (by decide) rfl rfl (fun (b23 : (p1 &&& (16 : Int32)) = 0) => ?_) (fun (b23 : ¬ (p1 &&& (16 : Int32)) = 0) => ?_)
                · refine Go.iconst 107 rfl (0 : Int32) at_106 rfl ?_
                  exact J _ (by simp [b23])
                · refine Go.iconst 103 rfl (1 : Int32) at_102 rfl ?_
                  refine Go.goto 107 at_103 (by decide) (by decide) ?_
                  exact J _ (by simp [b23])
              · refine Go.istore 109 rfl at_107 (Ls' := #[.val (.int p1), .val (.int p2), .val (.int p3), .val (.int p4), .val (.int v1), .val (.int f0), .val (.int f1), .val (.int f2), .val (.int f3), .val (.int f4), .unset, .unset, .unset, .unset, .unset, .unset, .unset, .unset]) rfl ?_
                refine Go.iloadN 110 rfl at_109 rfl ?_
                refine Go.bipush 112 rfl (32 : Int32) at_110 rfl ?_
                refine Go.iand 113 rfl at_112 ?_
                refine Go.joinI (pcJ := 121) (LsJ := #[.val (.int p1), .val (.int p2), .val (.int p3), .val (.int p4), .val (.int v1), .val (.int f0), .val (.int f1), .val (.int f2), .val (.int f3), .val (.int f4), .unset, .unset, .unset, .unset, .unset, .unset, .unset, .unset]) (stJ := []) (fun v => v = if (p1 &&& (32 : Int32)) = 0 then 0 else 1) (fun J => ?_) (fun f5 hf5 => ?_)
                · refine Go.if_eq 120 116 at_113 (by decide) rfl rfl (fun (b24 : (p1 &&& (32 : Int32)) = 0) => ?_) (fun (b24 : ¬ (p1 &&& (32 : Int32)) = 0) => ?_)
                  · refine Go.iconst 121 rfl (0 : Int32) at_120 rfl ?_
                    exact J _ (by simp [b24])
                  · refine Go.iconst 117 rfl (1 : Int32) at_116 rfl ?_
                    refine Go.goto 121 at_117 (by decide) (by decide) ?_
                    exact J _ (by simp [b24])
                · refine Go.istore 123 rfl at_121 (Ls' := #[.val (.int p1), .val (.int p2), .val (.int p3), .val (.int p4), .val (.int v1), .val (.int f0), .val (.int f1), .val (.int f2), .val (.int f3), .val (.int f4), .val (.int f5), .unset, .unset, .unset, .unset, .unset, .unset, .unset]) rfl ?_
                  refine Go.iloadN 124 rfl at_123 rfl ?_
                  refine Go.sipush 127 rfl (255 : Int32) at_124 rfl ?_
                  refine Go.iand 128 rfl at_127 ?_
                  refine Go.i2c 129 rfl at_128 ?_
                  refine Go.nameI fun v25 hv25 => ?_
                  refine Go.callS 132 rfl (C := B1) [.int v25] (rest := []) 0 1 2 3 (c1 Z hw h0 v25 cs hS hcs (own_c hv25)) at_129 rfl rfl rfl rfl (by decide) pd1 rfl rfl rfl (W := 0) (Nat.le_of_ble_eq_true rfl) (by decide) (by decide) (by decide) (by decide) fun v26 h27 q28 => ?_
                  obtain ⟨a29, rfl, g30, K31, E32⟩ := q28
                  have z33 : Z.heap.size ≤ a29 := Nat.le_trans hle g30
                  refine Go.astore 134 rfl at_132 rfl (Ls' := #[.val (.int p1), .val (.int p2), .val (.int p3), .val (.int p4), .val (.int v1), .val (.int f0), .val (.int f1), .val (.int f2), .val (.int f3), .val (.int f4), .val (.int f5), .val (.ref a29), .unset, .unset, .unset, .unset, .unset, .unset]) rfl ?_
                  refine Go.iloadN 135 rfl at_134 rfl ?_
                  refine Go.sipush 138 rfl (255 : Int32) at_135 rfl ?_
                  refine Go.iand 139 rfl at_138 ?_
                  refine Go.i2c 140 rfl at_139 ?_
                  refine Go.nameI fun v34 hv34 => ?_
                  refine Go.callS 143 rfl (C := B1) [.int v34] (rest := []) 0 1 2 3 (c1 Z hw h27 v34 cs hS hcs (own_c hv34)) at_140 rfl rfl rfl rfl (by decide) pd1 rfl rfl rfl (W := 0) (Nat.le_of_ble_eq_true rfl) (by decide) (by decide) (by decide) (by decide) fun v35 h36 q37 => ?_
                  obtain ⟨a38, rfl, g39, K40, E41⟩ := q37
                  have z42 : Z.heap.size ≤ a38 := Nat.le_trans (Nat.le_trans hle K31.1) g39
                  refine Go.astore 145 rfl at_143 rfl (Ls' := #[.val (.int p1), .val (.int p2), .val (.int p3), .val (.int p4), .val (.int v1), .val (.int f0), .val (.int f1), .val (.int f2), .val (.int f3), .val (.int f4), .val (.int f5), .val (.ref a29), .val (.ref a38), .unset, .unset, .unset, .unset, .unset]) rfl ?_
                  refine Go.callS 148 rfl (C := B6) [] (rest := []) 26 27 28 29 (c6 Z hw h36 top el ea em bot lem non hv) at_145 rfl rfl rfl rfl (by decide) pd6 rfl rfl rfl (W := 0) (Nat.le_of_ble_eq_true rfl) (by decide) (by decide) (by decide) (by decide) fun v43 h44 q45 => ?_
                  obtain ⟨rfl, rfl⟩ := q45
                  refine Go.astore 150 rfl at_148 rfl (Ls' := #[.val (.int p1), .val (.int p2), .val (.int p3), .val (.int p4), .val (.int v1), .val (.int f0), .val (.int f1), .val (.int f2), .val (.int f3), .val (.int f4), .val (.int f5), .val (.ref a29), .val (.ref a38), .val (.ref top), .unset, .unset, .unset, .unset]) rfl ?_
                  refine Go.aload 152 rfl at_150 rfl rfl ?_
                  refine Go.callS 155 rfl (C := B7) [.ref a38] (rest := []) 32 33 28 34 (c7 Z hw h36 a38 el non ea em top bot lem hv E41) at_152 rfl rfl rfl rfl (by decide) pd7 rfl rfl rfl (W := 0) (Nat.le_of_ble_eq_true rfl) (by decide) (by decide) (by decide) (by decide) fun v46 h47 q48 => ?_
                  obtain ⟨fd, flb, ft, fvs, rfl, g49, K50, E51, F52, F53, F54, F55, F56, F57, F58, F59, F60, hfl, fq1, fq2, F61, F62⟩ := q48
                  have z63 : Z.heap.size ≤ fd := Nat.le_trans (Nat.le_trans (Nat.le_trans hle K31.1) K40.1) g49
                  have hfdb : ¬ fd = bot := fun q => absurd (ltN hEbot.lt) (by rw [← q]; have := z63; omega)
                  refine Go.astore 157 rfl at_155 rfl (Ls' := #[.val (.int p1), .val (.int p2), .val (.int p3), .val (.int p4), .val (.int v1), .val (.int f0), .val (.int f1), .val (.int f2), .val (.int f3), .val (.int f4), .val (.int f5), .val (.ref a29), .val (.ref a38), .val (.ref top), .val (.ref fd), .unset, .unset, .unset]) rfl ?_
                  refine Go.newO 160 rfl 131 38 39 at_157 rfl rfl rfl (by decide) (by decide) fun h65 a64 g66 z67 K68 E69 D70 => ?_
                  refine Go.dup 161 rfl at_160 rfl ?_
                  refine Go.iload 163 rfl at_161 rfl ?_
                  refine cut (∀ (hX : Heap) (t : Addr) (vs : List Value), Keep h65 hX [] → Ary Z hX t (.object "java/lang/String") vs → (vs.length = 0 ↔ f0 = 0) → Go Q0 Z B0 11 31 hX 181 #[.val (.int p1), .val (.int p2), .val (.int p3), .val (.int p4), .val (.int v1), .val (.int f0), .val (.int f1), .val (.int f2), .val (.int f3), .val (.int f4), .val (.int f5), .val (.ref a29), .val (.ref a38), .val (.ref top), .val (.ref fd), .unset, .unset, .unset] (.ref t :: [.ref a64, .ref a64])) (fun J => ?_) (fun hXtA tA vA KXtA AXtA hA0 => ?_)
                  · refine Go.if_eq 178 166 at_163 (by decide) rfl rfl (fun (b71 : f0 = 0) => ?_) (fun (b71 : ¬ f0 = 0) => ?_)
                    · refine Go.getS 181 rfl (v := .ref non) 132 at_178 rfl hSnon ?_
                      refine Go.old fun x72 => ?_
                      refine Go.more (k' := 11) (n' := 31) (by decide) (by decide) ?_
                      exact J _ _ [] (Keep.refl _ _) (hAnon.ext x72) ⟨fun _ => b71, fun _ => rfl⟩
                    · refine Go.iconst 167 rfl (1 : Int32) at_166 rfl ?_
                      refine Go.newR 170 rfl 288 41 1 1 at_167 rfl rfl rfl (by decide) (by decide) (by decide) (by decide) fun h74 a73 g75 z76 K77 A78 E79 O80 => ?_
                      have A81 : Ary Z h74 a73 (.object "java/lang/String") [.null] := A78
                      refine Go.dup 171 rfl at_170 rfl ?_
                      refine Go.iconst 172 rfl (0 : Int32) at_171 rfl ?_
                      refine Go.aload 174 rfl at_172 rfl rfl ?_
                      have F82 : Exa Z h74 a29 "java/lang/String" := ((((E32.keep K40).keep K50).keep K68).keep K77)
                      refine Go.stR 175 rfl at_174 A81 O80 (Ins.self F82) 0 rfl (Nat.le_of_ble_eq_true rfl) z76 fun h83 K84 A85 => ?_
                      have A86 : Ary Z h83 a73 (.object "java/lang/String") [.ref a29] := A85
                      refine Go.goto 181 at_175 (by decide) (by decide) ?_
                      exact J _ _ [.ref a29] (((Keep.refl _ _).trans K77 all0).trans K84 (allS (Or.inr (by have := g75; omega)) all0)) A86 ⟨fun q => (by cases q), fun q => absurd q b71⟩
                  · refine Go.iload 183 rfl at_181 rfl ?_
                    refine cut (∀ (hX : Heap) (t : Addr) (vs : List Value), Keep hXtA hX [] → Ary Z hX t (.object "java/lang/String") vs → (vs.length = 0 ↔ f1 = 0) → Go Q0 Z B0 12 32 hX 201 #[.val (.int p1), .val (.int p2), .val (.int p3), .val (.int p4), .val (.int v1), .val (.int f0), .val (.int f1), .val (.int f2), .val (.int f3), .val (.int f4), .val (.int f5), .val (.ref a29), .val (.ref a38), .val (.ref top), .val (.ref fd), .unset, .unset, .unset] (.ref t :: [.ref tA, .ref a64, .ref a64])) (fun J => ?_) (fun hXtB tB vB KXtB AXtB hB0 => ?_)
                    · refine Go.if_eq 198 186 at_183 (by decide) rfl rfl (fun (b87 : f1 = 0) => ?_) (fun (b87 : ¬ f1 = 0) => ?_)
                      · refine Go.getS 201 rfl (v := .ref non) 132 at_198 rfl hSnon ?_
                        refine Go.old fun x88 => ?_
                        refine Go.more (k' := 12) (n' := 32) (by decide) (by decide) ?_
                        exact J _ _ [] (Keep.refl _ _) (hAnon.ext x88) ⟨fun _ => b87, fun _ => rfl⟩
                      · refine Go.iconst 187 rfl (1 : Int32) at_186 rfl ?_
                        refine Go.newR 190 rfl 288 41 1 1 at_187 rfl rfl rfl (by decide) (by decide) (by decide) (by decide) fun h90 a89 g91 z92 K93 A94 E95 O96 => ?_
                        have A97 : Ary Z h90 a89 (.object "java/lang/String") [.null] := A94
                        refine Go.dup 191 rfl at_190 rfl ?_
                        refine Go.iconst 192 rfl (0 : Int32) at_191 rfl ?_
                        refine Go.aload 194 rfl at_192 rfl rfl ?_
                        have F98 : Exa Z h90 a38 "java/lang/String" := ((((E41.keep K50).keep K68).keep KXtA).keep K93)
                        refine Go.stR 195 rfl at_194 A97 O96 (Ins.self F98) 0 rfl (Nat.le_of_ble_eq_true rfl) z92 fun h99 K100 A101 => ?_
                        have A102 : Ary Z h99 a89 (.object "java/lang/String") [.ref a38] := A101
                        refine Go.goto 201 at_195 (by decide) (by decide) ?_
                        exact J _ _ [.ref a38] (((Keep.refl _ _).trans K93 all0).trans K100 (allS (Or.inr (by have := g91; omega)) all0)) A102 ⟨fun q => (by cases q), fun q => absurd q b87⟩
                    · have F104 : Exa Z hXtB a64 "com/example/subsumer/subsumer/core/Label" := ((E69.keep KXtA).keep KXtB)
                      have F105 : Ary Z hXtB tA (.object "java/lang/String") vA := (AXtA.keep KXtB nin0)
                      have ne103 : tA ≠ a64 := own_na hw 38 rfl F104 F105
                      have ne106 : tB ≠ a64 := own_na hw 38 rfl F104 AXtB
                      have F107 : Fld Z hXtB a64 "com/example/subsumer/subsumer/core/Label" "names" "[Ljava/lang/String;" (.null) := (((D70 49 (Or.inr rfl) (ty := (.array (.object "java/lang/String"))) (by decide) : Fld Z h65 a64 "com/example/subsumer/subsumer/core/Label" "names" "[Ljava/lang/String;" (.null)).keep KXtA nin0).keep KXtB nin0)
                      have F108 : Fld Z hXtB a64 "com/example/subsumer/subsumer/core/Label" "negated" "[Ljava/lang/String;" (.null) := (((D70 51 (Or.inr rfl) (ty := (.array (.object "java/lang/String"))) (by decide) : Fld Z h65 a64 "com/example/subsumer/subsumer/core/Label" "negated" "[Ljava/lang/String;" (.null)).keep KXtA nin0).keep KXtB nin0)
                      refine Go.callI 204 rfl (C := B8) a64 [.ref tA, .ref tB] (rest := [.ref a64]) 133 45 39 46 (c8 Z hw hXtB a64 tA tB z67 F104 F107 F108) at_201 rfl rfl rfl rfl rfl rfl (by decide) pd8 rfl rfl rfl (W := 1) (Nat.le_of_ble_eq_true rfl) (by decide) (by decide) (by decide) (by decide) fun v109 h110 q111 => ?_
                      obtain ⟨rfl, K112, F113, F114⟩ := q111
                      refine Go.astore 206 rfl at_204 rfl (Ls' := #[.val (.int p1), .val (.int p2), .val (.int p3), .val (.int p4), .val (.int v1), .val (.int f0), .val (.int f1), .val (.int f2), .val (.int f3), .val (.int f4), .val (.int f5), .val (.ref a29), .val (.ref a38), .val (.ref top), .val (.ref fd), .val (.ref a64), .unset, .unset]) rfl ?_
                      refine Go.newO 209 rfl 134 36 28 at_206 rfl rfl rfl (by decide) (by decide) fun h116 a115 g117 z118 K119 E120 D121 => ?_
                      refine Go.dup 210 rfl at_209 rfl ?_
                      refine Go.aload 212 rfl at_210 rfl rfl ?_
                      refine Go.iload 214 rfl at_212 rfl ?_
                      refine cut (∀ (hX : Heap) (l : Addr) (o : Option Addr), Keep h116 hX [] → LV Z hX el em l o → (o = none ↔ f2 = 0) → (∀ x, o = some x → EV Z hX "com/example/subsumer/subsumer/core/Existential" x) → Go Q0 Z B0 18 58 hX 235 #[.val (.int p1), .val (.int p2), .val (.int p3), .val (.int p4), .val (.int v1), .val (.int f0), .val (.int f1), .val (.int f2), .val (.int f3), .val (.int f4), .val (.int f5), .val (.ref a29), .val (.ref a38), .val (.ref top), .val (.ref fd), .val (.ref a64), .unset, .unset] (.ref l :: [.ref a64, .ref a115, .ref a115])) (fun J => ?_) (fun hXE lE oE KXE VXE hOE eXE => ?_)
                      · refine Go.if_eq 230 217 at_214 (by decide) rfl rfl (fun (b122 : f2 = 0) => ?_) (fun (b122 : ¬ f2 = 0) => ?_)
                        · refine Go.aload 232 rfl at_230 rfl rfl ?_
                          refine Go.old fun x123 => ?_
                          refine Go.callV 235 rfl (C := B17) top [] (rest := [.ref a64, .ref a115, .ref a115]) 135 136 138 137 28 139 (c17 Z hw h116 top el (hTe.ext x123)) (hEtop.ext x123) at_232 rfl rfl rfl rfl rfl rfl (by decide) pd17 rfl rfl rfl (W := 3) (Nat.le_of_ble_eq_true rfl) (by decide) (by decide) (by decide) (by decide) fun v124 h125 q126 => ?_
                          obtain ⟨rfl, rfl⟩ := q126
                          refine Go.more (k' := 18) (n' := 58) (by decide) (by decide) ?_
                          exact J _ _ none (Keep.refl _ _) (Or.inl ⟨rfl, rfl⟩) ⟨fun _ => b122, fun _ => rfl⟩ (fun x hx => by cases hx)
                        · refine Go.aload 219 rfl at_217 rfl rfl ?_
                          refine Go.aload 221 rfl at_219 rfl rfl ?_
                          have F127 : Exa Z h116 fd "com/example/subsumer/subsumer/core/Description" := (((((E51.keep K68).keep KXtA).keep KXtB).keep K112).keep K119)
                          have ne128 : fd ≠ a64 := (show @Ne Nat fd a64 from by have := ltN E51.lt; have := g66; omega)
                          have F129 : Fld Z h116 fd "com/example/subsumer/subsumer/core/Description" "existentialInside" "Z" (.int fq1) := (((((F61.keep K68 nin0).keep KXtA nin0).keep KXtB nin0).keep K112 (ninS ne128 nin0)).keep K119 nin0)
                          have F130 : Fld Z h116 fd "com/example/subsumer/subsumer/core/Description" "numberInside" "Z" (.int fq2) := (((((F62.keep K68 nin0).keep KXtA nin0).keep KXtB nin0).keep K112 (ninS ne128 nin0)).keep K119 nin0)
                          refine Go.callS 224 rfl (C := B23) [.ref a29, .ref fd] (rest := [.ref a64, .ref a115, .ref a115]) 168 169 28 170 (c23 Z hw h116 a29 fd el em ea top bot lem non hv fq1 fq2 F127 hfdb F129 F130) at_221 rfl rfl rfl rfl (by decide) pd23 rfl rfl rfl (W := 3) (Nat.le_of_ble_eq_true rfl) (by decide) (by decide) (by decide) (by decide) fun v131 h132 q133 => ?_
                          obtain ⟨sd, sl, sx, rfl, sg, sK, sE, sF, sV, sX, sY⟩ := q133
                          have F134 : Fld Z h132 fd "com/example/subsumer/subsumer/core/Description" "existentialInside" "Z" (.int fq1) := (F129.keep sK nin0)
                          have F135 : Fld Z h132 fd "com/example/subsumer/subsumer/core/Description" "numberInside" "Z" (.int fq2) := (F130.keep sK nin0)
                          refine Go.callV 227 rfl (C := B17) sd [] (rest := [.ref a64, .ref a115, .ref a115]) 135 136 138 137 28 139 (c17 Z hw h132 sd sl sF) sE at_224 rfl rfl rfl rfl rfl rfl (by decide) pd17 rfl rfl rfl (W := 3) (Nat.le_of_ble_eq_true rfl) (by decide) (by decide) (by decide) (by decide) fun v136 h137 q138 => ?_
                          obtain ⟨rfl, rfl⟩ := q138
                          refine Go.goto 235 at_227 (by decide) (by decide) ?_
                          exact J _ _ (some sx) sK sV ⟨fun q => (by cases q), fun q => absurd q b122⟩ (fun _ q => Option.some.inj q ▸ (⟨sX, fd, fq1, fq2, sY, F134, F135⟩ : EV Z h132 "com/example/subsumer/subsumer/core/Existential" sx))
                      · refine Go.iload 237 rfl at_235 rfl ?_
                        refine cut (∀ (hX : Heap) (l : Addr) (o : Option Addr), Keep hXE hX [] → LV Z hX el em l o → (o = none ↔ f3 = 0) → (∀ x, o = some x → EV Z hX "com/example/subsumer/subsumer/core/Universal" x) → Go Q0 Z B0 23 77 hX 258 #[.val (.int p1), .val (.int p2), .val (.int p3), .val (.int p4), .val (.int v1), .val (.int f0), .val (.int f1), .val (.int f2), .val (.int f3), .val (.int f4), .val (.int f5), .val (.ref a29), .val (.ref a38), .val (.ref top), .val (.ref fd), .val (.ref a64), .unset, .unset] (.ref l :: [.ref lE, .ref a64, .ref a115, .ref a115])) (fun J => ?_) (fun hXU lU oU KXU VXU hOU eXU => ?_)
                        · refine Go.if_eq 253 240 at_237 (by decide) rfl rfl (fun (b139 : f3 = 0) => ?_) (fun (b139 : ¬ f3 = 0) => ?_)
                          · refine Go.aload 255 rfl at_253 rfl rfl ?_
                            refine Go.old fun x140 => ?_
                            refine Go.callV 258 rfl (C := B18) top [] (rest := [.ref lE, .ref a64, .ref a115, .ref a115]) 140 141 143 142 28 144 (c18 Z hw hXE top el (hTu.ext x140)) (hEtop.ext x140) at_255 rfl rfl rfl rfl rfl rfl (by decide) pd18 rfl rfl rfl (W := 4) (Nat.le_of_ble_eq_true rfl) (by decide) (by decide) (by decide) (by decide) fun v141 h142 q143 => ?_
                            obtain ⟨rfl, rfl⟩ := q143
                            refine Go.more (k' := 23) (n' := 77) (by decide) (by decide) ?_
                            exact J _ _ none (Keep.refl _ _) (Or.inl ⟨rfl, rfl⟩) ⟨fun _ => b139, fun _ => rfl⟩ (fun x hx => by cases hx)
                          · refine Go.aload 242 rfl at_240 rfl rfl ?_
                            refine Go.aload 244 rfl at_242 rfl rfl ?_
                            have F144 : Exa Z hXE fd "com/example/subsumer/subsumer/core/Description" := ((((((E51.keep K68).keep KXtA).keep KXtB).keep K112).keep K119).keep KXE)
                            have ne145 : fd ≠ a64 := (show @Ne Nat fd a64 from by have := ltN E51.lt; have := g66; omega)
                            have F146 : Fld Z hXE fd "com/example/subsumer/subsumer/core/Description" "label" "Lcom/example/subsumer/subsumer/core/Label;" (.ref flb) := ((((((F52.keep K68 nin0).keep KXtA nin0).keep KXtB nin0).keep K112 (ninS ne145 nin0)).keep K119 nin0).keep KXE nin0)
                            have F147 : Fld Z hXE fd "com/example/subsumer/subsumer/core/Description" "existentials" "Ljava/util/List;" (.ref el) := ((((((F53.keep K68 nin0).keep KXtA nin0).keep KXtB nin0).keep K112 (ninS ne145 nin0)).keep K119 nin0).keep KXE nin0)
                            have F148 : Fld Z hXE fd "com/example/subsumer/subsumer/core/Description" "universals" "Ljava/util/List;" (.ref el) := ((((((F54.keep K68 nin0).keep KXtA nin0).keep KXtB nin0).keep K112 (ninS ne145 nin0)).keep K119 nin0).keep KXE nin0)
                            have F149 : Fld Z hXE fd "com/example/subsumer/subsumer/core/Description" "atLeast" "Ljava/util/List;" (.ref el) := ((((((F55.keep K68 nin0).keep KXtA nin0).keep KXtB nin0).keep K112 (ninS ne145 nin0)).keep K119 nin0).keep KXE nin0)
                            have F150 : Fld Z hXE fd "com/example/subsumer/subsumer/core/Description" "atMost" "Ljava/util/List;" (.ref el) := ((((((F56.keep K68 nin0).keep KXtA nin0).keep KXtB nin0).keep K112 (ninS ne145 nin0)).keep K119 nin0).keep KXE nin0)
                            have F151 : Exa Z hXE flb "com/example/subsumer/subsumer/core/Label" := ((((((F57.keep K68).keep KXtA).keep KXtB).keep K112).keep K119).keep KXE)
                            have ne152 : flb ≠ a64 := (show @Ne Nat flb a64 from by have := ltN F57.lt; have := g66; omega)
                            have F153 : Fld Z hXE flb "com/example/subsumer/subsumer/core/Label" "names" "[Ljava/lang/String;" (.ref ft) := ((((((F58.keep K68 nin0).keep KXtA nin0).keep KXtB nin0).keep K112 (ninS ne152 nin0)).keep K119 nin0).keep KXE nin0)
                            have F154 : Fld Z hXE flb "com/example/subsumer/subsumer/core/Label" "negated" "[Ljava/lang/String;" (.ref non) := ((((((F59.keep K68 nin0).keep KXtA nin0).keep KXtB nin0).keep K112 (ninS ne152 nin0)).keep K119 nin0).keep KXE nin0)
                            have ne155 : ft ≠ a64 := (show @Ne Nat ft a64 from by have := ltN F60.lt; have := g66; omega)
                            have F156 : Ary Z hXE ft (.object "java/lang/String") fvs := ((((((F60.keep K68 nin0).keep KXtA nin0).keep KXtB nin0).keep K112 (ninS ne155 nin0)).keep K119 nin0).keep KXE nin0)
                            have F157 : Fld Z hXE fd "com/example/subsumer/subsumer/core/Description" "existentialInside" "Z" (.int fq1) := ((((((F61.keep K68 nin0).keep KXtA nin0).keep KXtB nin0).keep K112 (ninS ne145 nin0)).keep K119 nin0).keep KXE nin0)
                            have F158 : Fld Z hXE fd "com/example/subsumer/subsumer/core/Description" "numberInside" "Z" (.int fq2) := ((((((F62.keep K68 nin0).keep KXtA nin0).keep KXtB nin0).keep K112 (ninS ne145 nin0)).keep K119 nin0).keep KXE nin0)
                            refine Go.callS 247 rfl (C := B37) [.ref a29, .ref fd] (rest := [.ref lE, .ref a64, .ref a115, .ref a115]) 264 265 28 266 (c37 Z hw hXE a29 fd el em ea top bot lem non hv flb ft fvs fq1 fq2 F144 hfdb F146 F147 F148 F149 F150 F151 F153 F154 F156 hfl F157 F158) at_244 rfl rfl rfl rfl (by decide) pd37 rfl rfl rfl (W := 4) (Nat.le_of_ble_eq_true rfl) (by decide) (by decide) (by decide) (by decide) fun v159 h160 q161 => ?_
                            obtain ⟨sd, sl, sx, rfl, sg, sK, sE, sF, sV, sX, sY⟩ := q161
                            have F162 : Fld Z h160 fd "com/example/subsumer/subsumer/core/Description" "existentialInside" "Z" (.int fq1) := (F157.keep sK nin0)
                            have F163 : Fld Z h160 fd "com/example/subsumer/subsumer/core/Description" "numberInside" "Z" (.int fq2) := (F158.keep sK nin0)
                            refine Go.callV 250 rfl (C := B18) sd [] (rest := [.ref lE, .ref a64, .ref a115, .ref a115]) 140 141 143 142 28 144 (c18 Z hw h160 sd sl sF) sE at_247 rfl rfl rfl rfl rfl rfl (by decide) pd18 rfl rfl rfl (W := 4) (Nat.le_of_ble_eq_true rfl) (by decide) (by decide) (by decide) (by decide) fun v164 h165 q166 => ?_
                            obtain ⟨rfl, rfl⟩ := q166
                            refine Go.goto 258 at_250 (by decide) (by decide) ?_
                            exact J _ _ (some sx) sK sV ⟨fun q => (by cases q), fun q => absurd q b139⟩ (fun _ q => Option.some.inj q ▸ (⟨sX, fd, fq1, fq2, sY, F162, F163⟩ : EV Z h160 "com/example/subsumer/subsumer/core/Universal" sx))
                        · refine Go.iload 260 rfl at_258 rfl ?_
                          refine cut (∀ (hX : Heap) (l : Addr) (o : Option Addr), Keep hXU hX [] → LV Z hX el em l o → (o = none ↔ f4 = 0) → Go Q0 Z B0 28 96 hX 285 #[.val (.int p1), .val (.int p2), .val (.int p3), .val (.int p4), .val (.int v1), .val (.int f0), .val (.int f1), .val (.int f2), .val (.int f3), .val (.int f4), .val (.int f5), .val (.ref a29), .val (.ref a38), .val (.ref top), .val (.ref fd), .val (.ref a64), .unset, .unset] (.ref l :: [.ref lU, .ref lE, .ref a64, .ref a115, .ref a115])) (fun J => ?_) (fun hXA lA oA KXA VXA hOA => ?_)
                          · refine Go.if_eq 280 263 at_260 (by decide) rfl rfl (fun (b167 : f4 = 0) => ?_) (fun (b167 : ¬ f4 = 0) => ?_)
                            · refine Go.aload 282 rfl at_280 rfl rfl ?_
                              refine Go.old fun x168 => ?_
                              refine Go.callV 285 rfl (C := B19) top [] (rest := [.ref lU, .ref lE, .ref a64, .ref a115, .ref a115]) 145 146 148 147 28 149 (c19 Z hw hXU top el (hTa.ext x168)) (hEtop.ext x168) at_282 rfl rfl rfl rfl rfl rfl (by decide) pd19 rfl rfl rfl (W := 5) (Nat.le_of_ble_eq_true rfl) (by decide) (by decide) (by decide) (by decide) fun v169 h170 q171 => ?_
                              obtain ⟨rfl, rfl⟩ := q171
                              refine Go.more (k' := 28) (n' := 96) (by decide) (by decide) ?_
                              exact J _ _ none (Keep.refl _ _) (Or.inl ⟨rfl, rfl⟩) ⟨fun _ => b167, fun _ => rfl⟩
                            · refine Go.aload 265 rfl at_263 rfl rfl ?_
                              refine Go.iloadN 266 rfl at_265 rfl ?_
                              refine Go.ldcI 268 rfl (v := (1073741823 : Int32)) 289 at_266 rfl ?_
                              refine Go.iand 269 rfl at_268 ?_
                              refine Go.iconst 270 rfl (1 : Int32) at_269 rfl ?_
                              refine Go.iadd 271 rfl at_270 ?_
                              refine Go.nameI fun v172 hv172 => ?_
                              refine Go.callS 274 rfl (C := B41) [.ref a29, .int v172] (rest := [.ref lU, .ref lE, .ref a64, .ref a115, .ref a115]) 290 291 28 292 (c41 Z hw hXU a29 v172 el em ea top bot lem non hv (own_m1 hv172) (own_m0 hv172)) at_271 rfl rfl rfl rfl (by decide) pd41 rfl rfl rfl (W := 5) (Nat.le_of_ble_eq_true rfl) (by decide) (by decide) (by decide) (by decide) fun v173 h174 q175 => ?_
                              obtain ⟨sd, sl, sx, rfl, sg, sK, sE, sF, sV⟩ := q175
                              refine Go.callV 277 rfl (C := B19) sd [] (rest := [.ref lU, .ref lE, .ref a64, .ref a115, .ref a115]) 145 146 148 147 28 149 (c19 Z hw h174 sd sl sF) sE at_274 rfl rfl rfl rfl rfl rfl (by decide) pd19 rfl rfl rfl (W := 5) (Nat.le_of_ble_eq_true rfl) (by decide) (by decide) (by decide) (by decide) fun v176 h177 q178 => ?_
                              obtain ⟨rfl, rfl⟩ := q178
                              refine Go.goto 285 at_277 (by decide) (by decide) ?_
                              exact J _ _ (some sx) sK sV ⟨fun q => (by cases q), fun q => absurd q b167⟩
                          · refine Go.iload 287 rfl at_285 rfl ?_
                            refine cut (∀ (hX : Heap) (l : Addr) (o : Option Addr), Keep hXA hX [] → LV Z hX el em l o → (o = none ↔ f5 = 0) → Go Q0 Z B0 33 115 hX 310 #[.val (.int p1), .val (.int p2), .val (.int p3), .val (.int p4), .val (.int v1), .val (.int f0), .val (.int f1), .val (.int f2), .val (.int f3), .val (.int f4), .val (.int f5), .val (.ref a29), .val (.ref a38), .val (.ref top), .val (.ref fd), .val (.ref a64), .unset, .unset] (.ref l :: [.ref lA, .ref lU, .ref lE, .ref a64, .ref a115, .ref a115])) (fun J => ?_) (fun hXM lM oM KXM VXM hOM => ?_)
                            · refine Go.if_eq 305 290 at_287 (by decide) rfl rfl (fun (b179 : f5 = 0) => ?_) (fun (b179 : ¬ f5 = 0) => ?_)
                              · refine Go.aload 307 rfl at_305 rfl rfl ?_
                                refine Go.old fun x180 => ?_
                                refine Go.callV 310 rfl (C := B20) top [] (rest := [.ref lA, .ref lU, .ref lE, .ref a64, .ref a115, .ref a115]) 150 151 153 152 28 154 (c20 Z hw hXA top el (hTm.ext x180)) (hEtop.ext x180) at_307 rfl rfl rfl rfl rfl rfl (by decide) pd20 rfl rfl rfl (W := 6) (Nat.le_of_ble_eq_true rfl) (by decide) (by decide) (by decide) (by decide) fun v181 h182 q183 => ?_
                                obtain ⟨rfl, rfl⟩ := q183
                                refine Go.more (k' := 33) (n' := 115) (by decide) (by decide) ?_
                                exact J _ _ none (Keep.refl _ _) (Or.inl ⟨rfl, rfl⟩) ⟨fun _ => b179, fun _ => rfl⟩
                              · refine Go.aload 292 rfl at_290 rfl rfl ?_
                                refine Go.iloadN 293 rfl at_292 rfl ?_
                                refine Go.ldcI 295 rfl (v := (2147483647 : Int32)) 307 at_293 rfl ?_
                                refine Go.iand 296 rfl at_295 ?_
                                refine Go.nameI fun v184 hv184 => ?_
                                refine Go.callS 299 rfl (C := B44) [.ref a29, .int v184] (rest := [.ref lA, .ref lU, .ref lE, .ref a64, .ref a115, .ref a115]) 308 309 28 310 (c44 Z hw hXA a29 v184 el em ea top bot lem non hv (own_mx hv184)) at_296 rfl rfl rfl rfl (by decide) pd44 rfl rfl rfl (W := 6) (Nat.le_of_ble_eq_true rfl) (by decide) (by decide) (by decide) (by decide) fun v185 h186 q187 => ?_
                                obtain ⟨sd, sl, sx, rfl, sg, sK, sE, sF, sV⟩ := q187
                                refine Go.callV 302 rfl (C := B20) sd [] (rest := [.ref lA, .ref lU, .ref lE, .ref a64, .ref a115, .ref a115]) 150 151 153 152 28 154 (c20 Z hw h186 sd sl sF) sE at_299 rfl rfl rfl rfl rfl rfl (by decide) pd20 rfl rfl rfl (W := 6) (Nat.le_of_ble_eq_true rfl) (by decide) (by decide) (by decide) (by decide) fun v188 h189 q190 => ?_
                                obtain ⟨rfl, rfl⟩ := q190
                                refine Go.goto 310 at_302 (by decide) (by decide) ?_
                                exact J _ _ (some sx) sK sV ⟨fun q => (by cases q), fun q => absurd q b179⟩
                            · have VE := (((VXE.keep KXU nin0).keep KXA nin0).keep KXM nin0)
                              have VU := ((VXU.keep KXA nin0).keep KXM nin0)
                              have VA := (VXA.keep KXM nin0)
                              have eE := fun x hx => (((eXE x hx).keep0 KXU).keep0 KXA).keep0 KXM
                              have eU := fun x hx => ((eXU x hx).keep0 KXA).keep0 KXM
                              have F191 : Exa Z hXM a115 "com/example/subsumer/subsumer/core/Description" := ((((E120.keep KXE).keep KXU).keep KXA).keep KXM)
                              have nlE := own_lne hv VE F191 z118
                              have nlU := own_lne hv VU F191 z118
                              have nlA := own_lne hv VA F191 z118
                              have nlM := own_lne hv VXM F191 z118
                              have F192 : Fld Z hXM a115 "com/example/subsumer/subsumer/core/Description" "label" "Lcom/example/subsumer/subsumer/core/Label;" (.null) := (((((D121 66 (Or.inr rfl) (ty := (.object "com/example/subsumer/subsumer/core/Label")) (by decide) : Fld Z h116 a115 "com/example/subsumer/subsumer/core/Description" "label" "Lcom/example/subsumer/subsumer/core/Label;" (.null)).keep KXE nin0).keep KXU nin0).keep KXA nin0).keep KXM nin0)
                              have F193 : Fld Z hXM a115 "com/example/subsumer/subsumer/core/Description" "existentials" "Ljava/util/List;" (.null) := (((((D121 68 (Or.inr rfl) (ty := (.object "java/util/List")) (by decide) : Fld Z h116 a115 "com/example/subsumer/subsumer/core/Description" "existentials" "Ljava/util/List;" (.null)).keep KXE nin0).keep KXU nin0).keep KXA nin0).keep KXM nin0)
                              have F194 : Fld Z hXM a115 "com/example/subsumer/subsumer/core/Description" "universals" "Ljava/util/List;" (.null) := (((((D121 70 (Or.inr rfl) (ty := (.object "java/util/List")) (by decide) : Fld Z h116 a115 "com/example/subsumer/subsumer/core/Description" "universals" "Ljava/util/List;" (.null)).keep KXE nin0).keep KXU nin0).keep KXA nin0).keep KXM nin0)
                              have F195 : Fld Z hXM a115 "com/example/subsumer/subsumer/core/Description" "atLeast" "Ljava/util/List;" (.null) := (((((D121 72 (Or.inr rfl) (ty := (.object "java/util/List")) (by decide) : Fld Z h116 a115 "com/example/subsumer/subsumer/core/Description" "atLeast" "Ljava/util/List;" (.null)).keep KXE nin0).keep KXU nin0).keep KXA nin0).keep KXM nin0)
                              have F196 : Fld Z hXM a115 "com/example/subsumer/subsumer/core/Description" "atMost" "Ljava/util/List;" (.null) := (((((D121 74 (Or.inr rfl) (ty := (.object "java/util/List")) (by decide) : Fld Z h116 a115 "com/example/subsumer/subsumer/core/Description" "atMost" "Ljava/util/List;" (.null)).keep KXE nin0).keep KXU nin0).keep KXA nin0).keep KXM nin0)
                              have F197 : Fld Z hXM a115 "com/example/subsumer/subsumer/core/Description" "existentialInside" "Z" (.int (0 : Int32)) := (((((D121 128 (Or.inr rfl) (ty := .boolean) (by decide) : Fld Z h116 a115 "com/example/subsumer/subsumer/core/Description" "existentialInside" "Z" (.int (0 : Int32))).keep KXE nin0).keep KXU nin0).keep KXA nin0).keep KXM nin0)
                              have F198 : Fld Z hXM a115 "com/example/subsumer/subsumer/core/Description" "numberInside" "Z" (.int (0 : Int32)) := (((((D121 130 (Or.inr rfl) (ty := .boolean) (by decide) : Fld Z h116 a115 "com/example/subsumer/subsumer/core/Description" "numberInside" "Z" (.int (0 : Int32))).keep KXE nin0).keep KXU nin0).keep KXA nin0).keep KXM nin0)
                              refine Go.callI 313 rfl (C := B11) a115 [.ref a64, .ref lE, .ref lU, .ref lA, .ref lM] (rest := [.ref a115]) 155 62 28 63 (c11 Z hw hXM a115 a64 lE lU lA lM el ea em top bot lem non hv z118 F191 F192 F193 F194 F195 F196 F197 F198 oE VE oU VU oA VA oM VXM eE eU) at_310 rfl rfl rfl rfl rfl rfl (by decide) pd11 rfl rfl rfl (W := 1) (Nat.le_of_ble_eq_true rfl) (by decide) (by decide) (by decide) (by decide) fun v199 h200 q201 => ?_
                              obtain ⟨rfl, K202, F203, F204, F205, F206, F207, q210, q211, F208, F209⟩ := q201
                              refine Go.astore 315 rfl at_313 rfl (Ls' := #[.val (.int p1), .val (.int p2), .val (.int p3), .val (.int p4), .val (.int v1), .val (.int f0), .val (.int f1), .val (.int f2), .val (.int f3), .val (.int f4), .val (.int f5), .val (.ref a29), .val (.ref a38), .val (.ref top), .val (.ref fd), .val (.ref a64), .val (.ref a115), .unset]) rfl ?_
                              refine Go.iloadN 316 rfl at_315 rfl ?_
                              refine Go.bipush 318 rfl (63 : Int32) at_316 rfl ?_
                              refine Go.iand 319 rfl at_318 ?_
                              refine Go.joinI (pcJ := 327) (LsJ := #[.val (.int p1), .val (.int p2), .val (.int p3), .val (.int p4), .val (.int v1), .val (.int f0), .val (.int f1), .val (.int f2), .val (.int f3), .val (.int f4), .val (.int f5), .val (.ref a29), .val (.ref a38), .val (.ref top), .val (.ref fd), .val (.ref a64), .val (.ref a115), .unset]) (stJ := []) (fun v => v = if (p1 &&& (63 : Int32)) = 0 then 1 else 0) (fun J => ?_) (fun ex hex => ?_)
                              · refine Go.if_ne 326 322 at_319 (by decide) rfl rfl (fun (b212 : ¬ (p1 &&& (63 : Int32)) = 0) => ?_) (fun (b212 : (p1 &&& (63 : Int32)) = 0) => ?_)
                                · refine Go.iconst 327 rfl (0 : Int32) at_326 rfl ?_
                                  exact J _ (by simp [b212])
                                · refine Go.iconst 323 rfl (1 : Int32) at_322 rfl ?_
                                  refine Go.goto 327 at_323 (by decide) (by decide) ?_
                                  exact J _ (by simp [b212])
                              · refine Go.istore 329 rfl at_327 (Ls' := #[.val (.int p1), .val (.int p2), .val (.int p3), .val (.int p4), .val (.int v1), .val (.int f0), .val (.int f1), .val (.int f2), .val (.int f3), .val (.int f4), .val (.int f5), .val (.ref a29), .val (.ref a38), .val (.ref top), .val (.ref fd), .val (.ref a64), .val (.ref a115), .val (.int ex)]) rfl ?_
                                refine Go.aload 331 rfl at_329 rfl rfl ?_
                                have hdb : ¬ a115 = bot := fun q => absurd (ltN hEbot.lt) (by rw [← q]; have := z118; omega)
                                have F213 : Exa Z h200 a64 "com/example/subsumer/subsumer/core/Label" := (((((((F104.keep K112).keep K119).keep KXE).keep KXU).keep KXA).keep KXM).keep K202)
                                have ne214 : a64 ≠ a115 := (show @Ne Nat a64 a115 from by have := ltN F113.lt; have := g117; omega)
                                have F215 : Fld Z h200 a64 "com/example/subsumer/subsumer/core/Label" "names" "[Ljava/lang/String;" (.ref tA) := ((((((F113.keep K119 nin0).keep KXE nin0).keep KXU nin0).keep KXA nin0).keep KXM nin0).keep K202 (ninS ne214 nin0))
                                have F216 : Fld Z h200 a64 "com/example/subsumer/subsumer/core/Label" "negated" "[Ljava/lang/String;" (.ref tB) := ((((((F114.keep K119 nin0).keep KXE nin0).keep KXU nin0).keep KXA nin0).keep KXM nin0).keep K202 (ninS ne214 nin0))
                                have ne217 : tA ≠ a115 := (show @Ne Nat tA a115 from by have := ltN F105.lt; have := K112.1; have := g117; omega)
                                have F218 : Ary Z h200 tA (.object "java/lang/String") vA := (((((((F105.keep K112 (ninS ne103 nin0)).keep K119 nin0).keep KXE nin0).keep KXU nin0).keep KXA nin0).keep KXM nin0).keep K202 (ninS ne217 nin0))
                                have ne219 : tB ≠ a115 := (show @Ne Nat tB a115 from by have := ltN AXtB.lt; have := K112.1; have := g117; omega)
                                have F220 : Ary Z h200 tB (.object "java/lang/String") vB := (((((((AXtB.keep K112 (ninS ne106 nin0)).keep K119 nin0).keep KXE nin0).keep KXU nin0).keep KXA nin0).keep KXM nin0).keep K202 (ninS ne219 nin0))
                                have F224 : Exa Z h200 a115 "com/example/subsumer/subsumer/core/Description" := (F191.keep K202)
                                refine Go.callV 334 rfl (C := B21) a115 [] (rest := []) 156 157 159 158 28 160 (c21 Z hw h200 a115 vA vB oE oU oA oM el ea em top bot lem non hv a64 lE lU lA lM tA tB F203 F204 F205 F206 F207 F213 hdb F215 F216 F218 F220 (VE.keep K202 nlE) (VU.keep K202 nlU) (VA.keep K202 nlA) (VXM.keep K202 nlM)) F224 at_331 rfl rfl rfl rfl rfl rfl (by decide) pd21 rfl rfl rfl (W := 0) (Nat.le_of_ble_eq_true rfl) (by decide) (by decide) (by decide) (by decide) fun v221 h222 q223 => ?_
                                obtain ⟨rfl, rfl⟩ := q223
                                refine Go.iload 336 rfl at_334 rfl ?_
                                refine Go.icmp_ne 343 339 at_336 (by decide) rfl rfl (fun (b225 : ¬ (if vA.length = 0 ∧ vB.length = 0 ∧ oE = none ∧ oU = none ∧ oA = none ∧ oM = none then 1 else 0) = ex) => ?_) (fun (b225 : (if vA.length = 0 ∧ vB.length = 0 ∧ oE = none ∧ oU = none ∧ oA = none ∧ oM = none then 1 else 0) = ex) => ?_)
                                · exact absurd (own_fin hf0 hf1 hf2 hf3 hf4 hf5 hA0 hB0 hOE hOU hOA hOM hex) b225
                                · refine Go.iconst 340 rfl (1 : Int32) at_339 rfl ?_
                                  refine Go.goto 344 at_340 (by decide) (by decide) ?_
                                  exact Go.retN (t := .boolean) (z' := (1 : Int32)) at_344 rfl (by decide) rfl (by decide) (by decide) rfl
    · refine Go.callS 38 rfl (C := B6) [] (rest := []) 26 27 28 29 (c6 Z hw h0 top el ea em bot lem non hv) at_35 rfl rfl rfl rfl (by decide) pd6 rfl rfl rfl (W := 0) (Nat.le_of_ble_eq_true rfl) (by decide) (by decide) (by decide) (by decide) fun v12 h13 q14 => ?_
      obtain ⟨rfl, rfl⟩ := q14
      refine Go.old fun x15 => ?_
      refine Go.callV 41 rfl (C := B21) top [] (rest := []) 156 157 159 158 28 160 (c21 Z hw h0 top ([] : List Value) ([] : List Value) none none none none el ea em top bot lem non hv lem el el el el non non (hTl.ext x15) (hTe.ext x15) (hTu.ext x15) (hTa.ext x15) (hTm.ext x15) (hElem.ext x15) (fun q => hnbt q.symm) (hLn.ext x15) (hLg.ext x15) (hAnon.ext x15) (hAnon.ext x15) (Or.inl ⟨rfl, rfl⟩) (Or.inl ⟨rfl, rfl⟩) (Or.inl ⟨rfl, rfl⟩) (Or.inl ⟨rfl, rfl⟩)) (hEtop.ext x15) at_38 rfl rfl rfl rfl rfl rfl (by decide) pd21 rfl rfl rfl (W := 0) (Nat.le_of_ble_eq_true rfl) (by decide) (by decide) (by decide) (by decide) fun v16 h17 q18 => ?_
      obtain ⟨rfl, rfl⟩ := q18
      refine Go.eqI (w := 1) (if_pos ⟨rfl, rfl, rfl, rfl, rfl, rfl⟩) ?_
      exact Go.retN (t := .boolean) (z' := (1 : Int32)) at_41 rfl (by decide) rfl (by decide) (by decide) rfl
  · refine Go.callS 17 rfl (C := B40) [] (rest := []) 285 286 28 287 (c40 Z hw h0 bot el ea em top lem non hv) at_14 rfl rfl rfl rfl (by decide) pd40 rfl rfl rfl (W := 0) (Nat.le_of_ble_eq_true rfl) (by decide) (by decide) (by decide) (by decide) fun v3 h4 q5 => ?_
    obtain ⟨rfl, rfl⟩ := q5
    refine Go.old fun x6 => ?_
    refine Go.callV 20 rfl (C := B21) bot [] (rest := []) 156 157 159 158 28 160 (c21b Z hw h0 bot el ea em top lem non hv) (hEbot.ext x6) at_17 rfl rfl rfl rfl rfl rfl (by decide) pd21 rfl rfl rfl (W := 0) (Nat.le_of_ble_eq_true rfl) (by decide) (by decide) (by decide) (by decide) fun v7 h8 q9 => ?_
    obtain ⟨rfl, rfl⟩ := q9
    refine Go.if_ne 27 23 at_20 (by decide) rfl rfl (fun (b10 : ¬ (0 : Int32) = 0) => ?_) (fun (b10 : (0 : Int32) = 0) => ?_)
    · exact absurd rfl b10
    · refine Go.iconst 24 rfl (1 : Int32) at_23 rfl ?_
      refine Go.goto 28 at_24 (by decide) (by decide) ?_
      exact Go.retN (t := .boolean) (z' := (1 : Int32)) at_28 rfl (by decide) rfl (by decide) (by decide) rfl
set_option maxRecDepth 65536 in
set_option maxHeartbeats 40000000 in
theorem comes_1 {Post : Tables → Env → Array Value → State → Outcome → State → Prop} (hpost : ∀ tb e args s v u, (limb_1_1.after args s (.returned v) u = true ∧ limb_1_2.after args s (.returned v) u = true ∧ True) → FrameEnd s (.returned v) u (Jvm.fieldLocs frame_1_writes args s ++ Jvm.arrayLocs frame_1_arrays args s ++ Jvm.staticLocs frame_1_statics s) 80 320 → Post tb e args s (.returned v) u) :
    ArmFor flags0 classFile x code maxLocals ret World_1 tables_1 room_1 Calls_1 rest_1 Pre_1 Post := by
  intro l hfl _ _ p e ha hc hk s m args below hf hA hF happ hP
  obtain ⟨hcalls, hrest, hpre⟩ := hP
  obtain ⟨-, -, -, hnamed, -, -, -, hat⟩ := (Spec.applies_iff hf).mp happ
  obtain ⟨hg, hn⟩ := and_e (Cond.before_iff.mp (show (Jvm.Cond.and given_1 narrow_1).before args s = true from hpre))
  obtain ⟨hg1, hg2⟩ := and_e hg
  obtain ⟨w0, w1, w2, w3, rfl⟩ : ∃ w0 w1 w2 w3 : Value, args = #[w0, w1, w2, w3] := by
    have hs : args.size = 4 := by simpa [Cond.value, given_1] using hg1
    obtain ⟨L⟩ := args
    match L, hs with
    | [w0, w1, w2, w3], _ => exact ⟨w0, w1, w2, w3, rfl⟩
  obtain ⟨ga0, gb0⟩ := and_e hg2
  obtain ⟨i0, e0⟩ := is_v ga0
  obtain rfl : w0 = (.int i0) := Option.some.inj e0
  obtain ⟨ga1, gb1⟩ := and_e gb0
  obtain ⟨i1, e1⟩ := is_v ga1
  obtain rfl : w1 = (.int i1) := Option.some.inj e1
  obtain ⟨ga2, gb2⟩ := and_e gb1
  obtain ⟨i2, e2⟩ := is_v ga2
  obtain rfl : w2 = (.int i2) := Option.some.inj e2
  obtain ⟨i3, e3⟩ := is_v gb2
  obtain rfl : w3 = (.int i3) := Option.some.inj e3
  have hw : Wd s tables_1 := ⟨_, fun d (hd : d ∈ tables_1) => atoms_spec (ws := Jvm.Cond.code x code maxLocals ret :: tables_1) hat d (List.mem_cons_of_mem _ hd)⟩
  have hfit : Fit s := fun {y c} hc i hi => by
    obtain ⟨ha, rfl⟩ := Array.getElem?_eq_some_iff.mp hc
    have q := List.all_eq_true.mp ((Array.all_eq_true_iff_forall_mem.mp hF) _ (Array.getElem_mem ha)) i (List.mem_range.mpr hi)
    simpa [Array.getElem?_eq_getElem hi] using q
  obtain ⟨hsets, hown0⟩ := atoms_of _ (rest_1_c_eq ▸ (show rest_1_c.before _ s = true from hrest))
  obtain ⟨cs, ecs⟩ := is_v (Cond.before_iff.mp (hsets _ (List.mem_of_getElem? (i := 1) rfl)))
  have hS : Sta s s.heap "java/lang/String" "COMPACT_STRINGS" "Z" (.int cs) := Sta.start ecs (Or.inl (hsets _ (List.mem_of_getElem? (i := 0) rfl)))
  have hcs : ¬ (cs = (0 : Int32)) := gotF (Cond.eq_ints ecs (Term.int_eval (0))) (not_v (Cond.before_iff.mp (hsets _ (List.mem_of_getElem? (i := 2) rfl))))
  obtain ⟨hn1, hn⟩ := and_e hn
  obtain ⟨hn2, hn⟩ := and_e hn
  obtain ⟨hn3, hn⟩ := and_e hn
  obtain ⟨hn4, hn⟩ := and_e hn
  obtain ⟨hn5, hn⟩ := and_e hn
  obtain ⟨hn6, hn⟩ := and_e hn
  obtain ⟨hn7, hn⟩ := and_e hn
  obtain ⟨hn8, hn⟩ := and_e hn
  obtain ⟨hn9, hn⟩ := and_e hn
  obtain ⟨hn10, hn⟩ := and_e hn
  obtain ⟨hn11, hn⟩ := and_e hn
  obtain ⟨hn12, hn13⟩ := and_e hn
  obtain ⟨top, etop⟩ := exa_v hn1
  obtain ⟨non, enon⟩ := arr_v hn2
  obtain ⟨bot, ebot⟩ := exa_v hn8
  obtain ⟨lem, elem⟩ := exa_v hn9
  obtain ⟨el, eel⟩ := exa_v (Cond.before_iff.mp (hsets _ (List.mem_of_getElem? (i := 11) rfl)))
  obtain ⟨em, eem⟩ := exa_v (Cond.before_iff.mp (hsets _ (List.mem_of_getElem? (i := 18) rfl)))
  obtain ⟨ea, eea⟩ := arr_v (Cond.before_iff.mp (hsets _ (List.mem_of_getElem? (i := 12) rfl)))
  have wd : ∀ (i : Nat) (d : Cond), tables_1[i]? = some d → d.before _ s = true := fun i d q => atoms_spec (ws := Jvm.Cond.code x code maxLocals ret :: tables_1) hat d (List.mem_cons_of_mem _ (List.mem_of_getElem? q))
  have hv : Ev0 s el ea em top bot lem non := by
    refine ⟨Sta.start eel (Or.inl (hsets _ (List.mem_of_getElem? (i := 10) rfl))), Sta.start eem (Or.inl (hsets _ (List.mem_of_getElem? (i := 17) rfl))), Sta.start etop (Or.inr ⟨wd 28 _ rfl, wd 31 _ rfl⟩), Sta.start ebot (Or.inr ⟨wd 28 _ rfl, wd 162 _ rfl⟩), Sta.start elem (Or.inr ⟨wd 39 _ rfl, wd 177 _ rfl⟩), Sta.start enon (Or.inr ⟨wd 39 _ rfl, wd 43 _ rfl⟩), Exa.start eel (Cond.before_iff.mp (hsets _ (List.mem_of_getElem? (i := 11) rfl))), own_fs eel eea, own_ar0 eea (Cond.before_iff.mp (hsets _ (List.mem_of_getElem? (i := 12) rfl))) (Cond.before_iff.mp (hsets _ (List.mem_of_getElem? (i := 14) rfl))), Exa.start etop hn1, own_fe etop elem hn11, own_fe etop eel hn4, own_fe etop eel hn5, own_fe etop eel hn6, own_fe etop eel hn7, Exa.start ebot hn8, ?_, Exa.start elem hn9, own_fe elem enon hn12, own_fe elem enon hn13, own_ar0 enon hn2 hn3⟩
    have hq := gotF (eq_R ebot etop rfl rfl) (not_v hn10)
    exact fun q => hq (congrArg Value.ref q)
  obtain ⟨n, o, h1, h2, h3, _, L, rfl, ⟨hv, -, N⟩, hq⟩ := c0 s hw s.heap i0 i1 i2 i3 el ea em top bot lem non hv cs hS hcs ⟨Nat.le_refl _, fun _ _ q => q⟩ l tables_1 p e ha hc hk s m _ below hf ((Spec.applies_iff_loose hf).mp happ).1 ⟨rfl, State.Warmed39.refl s, rfl⟩ trivial
  cases (show _ = some (Value.int 1) from hv)
  refine ⟨n, _, h1, h2, h3, hpost _ _ _ _ _ _ ⟨Cond.after_iff.mpr rfl, Cond.after_iff.mpr (eq_i res_at (Term.int_eval (1)) rfl), trivial⟩ ⟨hq.1, hq.2.1, (hq.2.2.sift fun y hy => Or.inr (N y hy)).mono (by decide) (by decide)⟩⟩
theorem main_1_1 : Claimed_1_1 := comes_1 fun _ _ _ _ _ _ h hF => ⟨h.1, hF⟩
theorem main_1_2 : Claimed_1_2 := comes_1 fun _ _ _ _ _ _ h hF => ⟨h.2.1, hF⟩
end Jvm.Pilot.@@N@@
namespace Jvm.Pilot.@@N@@
open Jvm Jvm.ClassFile Sem Op Lib Jvm.Free Jvm.Stand Jvm.Pilot.@@N@@.Jvm.D
/-! MADE BY PROGRAM (witnessworld.py) out of the Statement's table words and the real class files: 40 classes; the members and pool entries that the words name. The judged class is class 1, her method 1. -/
namespace start1
open Jvm.ClassFile
def u (s : String) : CpInfo := .utf8 (stringToUtf16 s)
/-- a pool by its gaps: so many unusable entries, then the entry; so many at the end -/
def gap : Nat → List CpInfo → List CpInfo
  | 0, r => r
  | n + 1, r => .unusable :: gap n r
def poolList (es : List (Nat × CpInfo)) (last : Nat) : List CpInfo := es.foldr (fun e r => gap e.1 (e.2 :: r)) (gap last [])
def pool (es : List (Nat × CpInfo)) (last : Nat) : Array CpInfo := ⟨poolList es last⟩
def fileOf (pool : Array CpInfo) (this : Nat) (attrs : Array Attribute := #[]) (ms : Array MethodInfo := #[]) (fl : Nat := 33) (sup : Nat := 0) (ifs : Array Nat := #[]) (fds : Array FieldInfo := #[]) : ClassFile where
  minorVersion := 0
  majorVersion := 65
  constantPool := pool
  accessFlags := fl
  thisClass := this
  superClass := sup
  interfaces := ifs
  fields := fds
  methods := ms
  attributes := attrs
def plain (name : String) (sup : Option ClassId) : Class where
  name := name
  kind := .ordinary
  loader := none
  accessFlags := 33
  super := sup
  interfaces := #[]
  cf := none
  fields := #[]
  methods := #[]
  instanceTypes := #[]
  staticTypes := #[]
  resolved := #[]
  callSites := []
  init := .initialized
  statics := none
  mirror := none

def pool0 : Array CpInfo := pool [(5, u "<init>"), (0, u "()V"), (1, .class_ 10), (1, u "java/lang/Object")] 113

def k0c0 : Code := { maxStack := 0, maxLocals := 1, code := object_method_1_code, exceptionTable := #[], attributes := #[] }
def k0m0 : Method := { name := "<init>", desc := "()V", sig := { parameters := [], returnType := none }, accessFlags := 1, code := some k0c0 }
/-- java/lang/Object -/
def k0 : Class := { plain "java/lang/Object" none with
  accessFlags := 33
  interfaces := #[]
  cf := some (fileOf pool0 8 #[] #[{ accessFlags := 1, nameIndex := 5, descriptorIndex := 6, attributes := #[] }] 33 0 #[] #[])
  fields := #[]
  methods := #[k0m0]
  instanceTypes := #[]
  staticTypes := #[]
  resolved := Array.replicate 124 none
  statics := none }

def pool1 : Array CpInfo := pool [(2, .class_ 4), (1, u "java/lang/Object"), (0, u "<init>"), (0, u "()V"), (0, .methodref 8 9), (0, .class_ 10), (0, .nameAndType 11 12), (0, u "com/example/subsumer/subsumer/core/Description"), (0, u "bottom"), (0, u "()Lcom/example/subsumer/subsumer/core/Description;"), (0, .methodref 8 14), (0, .nameAndType 15 16), (0, u "isTop"), (0, u "()Z"), (0, .methodref 8 18), (0, .nameAndType 19 12), (0, u "top"), (0, .methodref 21 22), (0, .class_ 23), (0, .nameAndType 24 25), (0, u "java/lang/String"), (0, u "valueOf"), (0, u "(C)Ljava/lang/String;"), (0, .methodref 8 27), (0, .nameAndType 28 29), (0, u "name"), (0, u "(Ljava/lang/String;)Lcom/example/subsumer/subsumer/core/Description;"), (0, .class_ 31), (0, u "com/example/subsumer/subsumer/core/Label"), (0, .fieldref 30 33), (0, .nameAndType 34 35), (0, u "NONE"), (0, u "[Ljava/lang/String;"), (0, .methodref 30 37), (0, .nameAndType 5 38), (0, u "([Ljava/lang/String;[Ljava/lang/String;)V"), (0, .methodref 8 40), (0, .nameAndType 41 42), (0, u "some"), (0, u "(Ljava/lang/String;Lcom/example/subsumer/subsumer/core/Description;)Lcom/example/subsumer/subsumer/core/Description;"), (0, .methodref 8 44), (0, .nameAndType 45 46), (0, u "existentials"), (0, u "()Ljava/util/List;"), (0, .methodref 8 48), (0, .nameAndType 49 42), (0, u "only"), (0, .methodref 8 51), (0, .nameAndType 52 46), (0, u "universals"), (0, .integer 1073741823), (0, .methodref 8 55), (0, .nameAndType 56 57), (0, u "min"), (0, u "(Ljava/lang/String;I)Lcom/example/subsumer/subsumer/core/Description;"), (0, .methodref 8 59), (0, .nameAndType 60 46), (0, u "atLeast"), (0, .integer 2147483647), (0, .methodref 8 63), (0, .nameAndType 64 57), (0, u "max"), (0, .methodref 8 66), (0, .nameAndType 67 46), (0, u "atMost"), (0, .methodref 8 69), (0, .nameAndType 5 70), (0, u "(Lcom/example/subsumer/subsumer/core/Label;Ljava/util/List;Ljava/util/List;Ljava/util/List;Ljava/util/List;)V"), (0, .class_ 72), (0, u "com/example/subsumer/subsumer/core/DescriptionIsTopPinLaw"), (2, u "law"), (0, u "(IIII)Z")] 6

def k1m0 : Method := { name := "<init>", desc := "()V", sig := { parameters := [], returnType := none }, accessFlags := 1, code := none }
def k1c1 : Code := { maxStack := 9, maxLocals := 18, code := code, exceptionTable := #[], attributes := #[] }
def k1m1 : Method := { name := "law", desc := "(IIII)Z", sig := { parameters := [.int, .int, .int, .int], returnType := some .boolean }, accessFlags := 9, code := some k1c1 }
/-- com/example/subsumer/subsumer/core/DescriptionIsTopPinLaw -/
def k1 : Class := { plain "com/example/subsumer/subsumer/core/DescriptionIsTopPinLaw" (some 0) with
  accessFlags := 49
  interfaces := #[]
  cf := some (fileOf pool1 71 #[] #[{ accessFlags := 1, nameIndex := 5, descriptorIndex := 6, attributes := #[] }, { accessFlags := 9, nameIndex := 75, descriptorIndex := 76, attributes := #[] }] 49 2 #[] #[])
  fields := #[]
  methods := #[k1m0, k1m1]
  instanceTypes := #[]
  staticTypes := #[]
  resolved := Array.replicate 83 none
  statics := none }

def pool2 : Array CpInfo := pool [(1, .class_ 2), (0, u "java/io/Serializable"), (0, .class_ 4), (0, u "java/lang/Object")] 2

/-- java/io/Serializable -/
def k2 : Class := { plain "java/io/Serializable" (some 0) with
  accessFlags := 1537
  interfaces := #[]
  cf := some (fileOf pool2 1 #[] #[] 1537 3 #[] #[])
  fields := #[]
  methods := #[]
  instanceTypes := #[]
  staticTypes := #[]
  resolved := Array.replicate 7 none
  statics := none }

def pool3 : Array CpInfo := pool [(1, .class_ 2), (0, u "java/lang/Comparable"), (0, .class_ 4), (0, u "java/lang/Object")] 7

/-- java/lang/Comparable -/
def k3 : Class := { plain "java/lang/Comparable" (some 0) with
  accessFlags := 1537
  interfaces := #[]
  cf := some (fileOf pool3 1 #[] #[] 1537 3 #[] #[])
  fields := #[]
  methods := #[]
  instanceTypes := #[]
  staticTypes := #[]
  resolved := Array.replicate 12 none
  statics := none }

def pool4 : Array CpInfo := pool [(2, .class_ 4), (1, u "java/lang/CharSequence"), (42, .class_ 48), (0, u "java/lang/CharSequence$1CodePointIterator"), (10, .class_ 60), (0, u "java/lang/CharSequence$1CharIterator"), (5, .class_ 67), (0, u "java/lang/Object")] 63

/-- java/lang/CharSequence -/
def k4 : Class := { plain "java/lang/CharSequence" (some 0) with
  accessFlags := 1537
  interfaces := #[]
  cf := some (fileOf pool4 2 #[.nestMembers #[47, 59]] #[] 1537 66 #[] #[])
  fields := #[]
  methods := #[]
  instanceTypes := #[]
  staticTypes := #[]
  resolved := Array.replicate 131 none
  statics := none }

def pool5 : Array CpInfo := pool [(1, .class_ 2), (0, u "java/lang/constant/Constable"), (0, .class_ 4), (0, u "java/lang/Object")] 6

/-- java/lang/constant/Constable -/
def k5 : Class := { plain "java/lang/constant/Constable" (some 0) with
  accessFlags := 1537
  interfaces := #[]
  cf := some (fileOf pool5 1 #[] #[] 1537 3 #[] #[])
  fields := #[]
  methods := #[]
  instanceTypes := #[]
  staticTypes := #[]
  resolved := Array.replicate 11 none
  statics := none }

def pool6 : Array CpInfo := pool [(1, .class_ 2), (0, u "java/lang/constant/ConstantDesc"), (0, .class_ 4), (0, u "java/lang/Object")] 32

/-- java/lang/constant/ConstantDesc -/
def k6 : Class := { plain "java/lang/constant/ConstantDesc" (some 0) with
  accessFlags := 1537
  interfaces := #[]
  cf := some (fileOf pool6 1 #[] #[] 1537 3 #[] #[])
  fields := #[]
  methods := #[]
  instanceTypes := #[]
  staticTypes := #[]
  resolved := Array.replicate 37 none
  statics := none }

def pool7 : Array CpInfo := pool [(1, .methodref 2 3), (0, .class_ 4), (0, .nameAndType 5 6), (0, u "java/lang/Object"), (0, u "<init>"), (0, u "()V"), (2, .fieldref 10 11), (0, .class_ 12), (0, .nameAndType 13 14), (0, u "java/lang/String"), (0, u "value"), (0, u "[B"), (0, .fieldref 10 16), (0, .nameAndType 17 18), (0, u "coder"), (0, u "B"), (2, u "hash"), (0, u "I"), (2, u "hashIsZero"), (0, u "Z"), (11, .fieldref 10 39), (0, .nameAndType 40 26), (0, u "COMPACT_STRINGS"), (12, u "toBytes"), (53, .class_ 109), (1, u "java/lang/StringLatin1"), (99, .methodref 10 210), (0, .nameAndType 5 211), (0, u "([BB)V"), (157, u "(C)Z"), (205, .class_ 576), (0, u "java/lang/CharSequence"), (22, u "CASE_INSENSITIVE_ORDER"), (0, u "Ljava/util/Comparator;"), (181, u "valueOf"), (0, u "(C)Ljava/lang/String;"), (231, .methodref 107 1016), (0, .nameAndType 1017 369), (0, u "canEncode"), (0, .methodref 107 1019), (0, .nameAndType 53 1020), (0, u "(C)[B"), (80, u "serialPersistentFields"), (0, u "[Ljava/io/ObjectStreamField;"), (0, .class_ 1104), (0, u "java/lang/String$CaseInsensitiveComparator"), (1, .class_ 1107), (0, u "java/io/Serializable"), (0, .class_ 1109), (0, u "java/lang/Comparable"), (0, .class_ 1111), (0, u "java/lang/constant/Constable"), (0, .class_ 1113), (0, u "java/lang/constant/ConstantDesc"), (2, u "serialVersionUID"), (0, u "J"), (3, u "REPL"), (0, u "C"), (2, u "LATIN1"), (1, u "UTF16")] 323

def k7m0 : Method := { name := "<init>", desc := "()V", sig := { parameters := [], returnType := none }, accessFlags := 1, code := none }
def k7c1 : Code := { maxStack := 4, maxLocals := 1, code := jdk_42_method_139_code, exceptionTable := #[], attributes := #[] }
def k7m1 : Method := { name := "valueOf", desc := "(C)Ljava/lang/String;", sig := { parameters := [.char], returnType := some (.object "java/lang/String") }, accessFlags := 9, code := some k7c1 }
def k7c2 : Code := { maxStack := 2, maxLocals := 3, code := jdk_42_method_151_code, exceptionTable := #[], attributes := #[] }
def k7m2 : Method := { name := "<init>", desc := "([BB)V", sig := { parameters := [(.array .byte), .byte], returnType := none }, accessFlags := 0, code := some k7c2 }
/-- java/lang/String -/
def k7 : Class := { plain "java/lang/String" (some 0) with
  accessFlags := 49
  interfaces := #[2, 3, 4, 5, 6]
  cf := some (fileOf pool7 10 #[.nestMembers #[1103]] #[{ accessFlags := 1, nameIndex := 5, descriptorIndex := 6, attributes := #[] }, { accessFlags := 9, nameIndex := 782, descriptorIndex := 783, attributes := #[] }, { accessFlags := 0, nameIndex := 5, descriptorIndex := 211, attributes := #[] }] 49 2 #[1106, 1108, 575, 1110, 1112] #[{ accessFlags := 18, nameIndex := 13, descriptorIndex := 14, attributes := #[] }, { accessFlags := 18, nameIndex := 17, descriptorIndex := 18, attributes := #[] }, { accessFlags := 2, nameIndex := 21, descriptorIndex := 22, attributes := #[] }, { accessFlags := 2, nameIndex := 25, descriptorIndex := 26, attributes := #[] }, { accessFlags := 26, nameIndex := 1116, descriptorIndex := 1117, attributes := #[] }, { accessFlags := 24, nameIndex := 40, descriptorIndex := 26, attributes := #[] }, { accessFlags := 26, nameIndex := 1101, descriptorIndex := 1102, attributes := #[] }, { accessFlags := 26, nameIndex := 1121, descriptorIndex := 1122, attributes := #[] }, { accessFlags := 25, nameIndex := 599, descriptorIndex := 600, attributes := #[] }, { accessFlags := 24, nameIndex := 1125, descriptorIndex := 18, attributes := #[] }, { accessFlags := 24, nameIndex := 1127, descriptorIndex := 18, attributes := #[] }])
  fields := #[{ name := "value", type := (.array .byte), accessFlags := 18, slot := 0, constantValue := 0 }, { name := "coder", type := .byte, accessFlags := 18, slot := 1, constantValue := 0 }, { name := "hash", type := .int, accessFlags := 2, slot := 2, constantValue := 0 }, { name := "hashIsZero", type := .boolean, accessFlags := 2, slot := 3, constantValue := 0 }, { name := "serialVersionUID", type := .long, accessFlags := 26, slot := 0, constantValue := 0 }, { name := "COMPACT_STRINGS", type := .boolean, accessFlags := 24, slot := 1, constantValue := 0 }, { name := "serialPersistentFields", type := (.array (.object "java/io/ObjectStreamField")), accessFlags := 26, slot := 2, constantValue := 0 }, { name := "REPL", type := .char, accessFlags := 26, slot := 3, constantValue := 0 }, { name := "CASE_INSENSITIVE_ORDER", type := (.object "java/util/Comparator"), accessFlags := 25, slot := 4, constantValue := 0 }, { name := "LATIN1", type := .byte, accessFlags := 24, slot := 5, constantValue := 0 }, { name := "UTF16", type := .byte, accessFlags := 24, slot := 6, constantValue := 0 }]
  methods := #[k7m0, k7m1, k7m2]
  instanceTypes := #[(.array .byte), .byte, .int, .boolean]
  staticTypes := #[.long, .boolean, (.array (.object "java/io/ObjectStreamField")), .char, (.object "java/util/Comparator"), .byte, .byte]
  resolved := Array.replicate 1451 none
  statics := some 0 }

def pool8 : Array CpInfo := pool [(4, .class_ 6), (1, u "java/lang/Object"), (0, u "<init>"), (0, u "()V"), (5, .class_ 16), (1, u "java/lang/StringLatin1"), (73, u "canEncode"), (14, u "(C)Z"), (15, u "$assertionsDisabled"), (0, u "Z"), (98, .class_ 223), (1, u "java/lang/StringLatin1$LinesSpliterator"), (156, u "toBytes"), (1, u "(C)[B"), (7, .class_ 391), (0, u "java/lang/StringLatin1$CharsSpliterator")] 3

def k8m0 : Method := { name := "<init>", desc := "()V", sig := { parameters := [], returnType := none }, accessFlags := 0, code := none }
def k8c1 : Code := { maxStack := 2, maxLocals := 1, code := jdk_43_method_3_code, exceptionTable := #[], attributes := #[] }
def k8m1 : Method := { name := "canEncode", desc := "(C)Z", sig := { parameters := [.char], returnType := some .boolean }, accessFlags := 9, code := some k8c1 }
def k8c2 : Code := { maxStack := 4, maxLocals := 1, code := jdk_43_method_46_code, exceptionTable := #[], attributes := #[] }
def k8m2 : Method := { name := "toBytes", desc := "(C)[B", sig := { parameters := [.char], returnType := some (.array .byte) }, accessFlags := 9, code := some k8c2 }
/-- java/lang/StringLatin1 -/
def k8 : Class := { plain "java/lang/StringLatin1" (some 0) with
  accessFlags := 48
  interfaces := #[]
  cf := some (fileOf pool8 14 #[.nestMembers #[390, 221]] #[{ accessFlags := 0, nameIndex := 7, descriptorIndex := 8, attributes := #[] }, { accessFlags := 9, nameIndex := 90, descriptorIndex := 105, attributes := #[] }, { accessFlags := 9, nameIndex := 380, descriptorIndex := 382, attributes := #[] }] 48 4 #[] #[{ accessFlags := 4120, nameIndex := 121, descriptorIndex := 122, attributes := #[] }])
  fields := #[{ name := "$assertionsDisabled", type := .boolean, accessFlags := 4120, slot := 0, constantValue := 0 }]
  methods := #[k8m0, k8m1, k8m2]
  instanceTypes := #[]
  staticTypes := #[.boolean]
  resolved := Array.replicate 395 none
  statics := none }

def pool9 : Array CpInfo := pool [(1, .interfaceMethodref 2 3), (0, .class_ 4), (0, .nameAndType 5 6), (0, u "java/util/List"), (0, u "of"), (0, u "()Ljava/util/List;"), (0, .methodref 8 9), (0, .class_ 10), (0, .nameAndType 11 12), (0, u "com/example/subsumer/subsumer/core/Description"), (0, u "<init>"), (0, u "(Lcom/example/subsumer/subsumer/core/Label;Ljava/util/List;Ljava/util/List;Ljava/util/List;Ljava/util/List;)V"), (0, .methodref 14 15), (0, .class_ 16), (0, .nameAndType 11 17), (0, u "java/lang/Object"), (0, u "()V"), (0, .fieldref 8 19), (0, .nameAndType 20 21), (0, u "label"), (0, u "Lcom/example/subsumer/subsumer/core/Label;"), (0, .fieldref 8 23), (0, .nameAndType 24 25), (0, u "existentials"), (0, u "Ljava/util/List;"), (0, .fieldref 8 27), (0, .nameAndType 28 25), (0, u "universals"), (0, .fieldref 8 30), (0, .nameAndType 31 25), (0, u "atLeast"), (0, .fieldref 8 33), (0, .nameAndType 34 25), (0, u "atMost"), (0, .interfaceMethodref 2 36), (0, .nameAndType 37 38), (0, u "isEmpty"), (0, u "()Z"), (0, .interfaceMethodref 2 40), (0, .nameAndType 41 42), (0, u "iterator"), (0, u "()Ljava/util/Iterator;"), (0, .interfaceMethodref 44 45), (0, .class_ 46), (0, .nameAndType 47 38), (0, u "java/util/Iterator"), (0, u "hasNext"), (0, .interfaceMethodref 44 49), (0, .nameAndType 50 51), (0, u "next"), (0, u "()Ljava/lang/Object;"), (0, .class_ 53), (0, u "com/example/subsumer/subsumer/core/Existential"), (0, .methodref 52 55), (0, .nameAndType 56 57), (0, u "filler"), (0, u "()Lcom/example/subsumer/subsumer/core/Description;"), (0, .fieldref 8 59), (0, .nameAndType 60 61), (0, u "numberInside"), (0, u "Z"), (0, .class_ 63), (0, u "com/example/subsumer/subsumer/core/Universal"), (0, .methodref 62 55), (0, .fieldref 8 66), (0, .nameAndType 67 61), (0, u "existentialInside"), (0, .fieldref 8 69), (0, .nameAndType 70 71), (0, u "TOP"), (0, u "Lcom/example/subsumer/subsumer/core/Description;"), (0, .fieldref 8 73), (0, .nameAndType 74 71), (0, u "BOTTOM"), (0, .class_ 76), (0, u "com/example/subsumer/subsumer/core/Label"), (0, .class_ 78), (0, u "java/lang/String"), (0, .fieldref 75 80), (0, .nameAndType 81 82), (0, u "NONE"), (0, u "[Ljava/lang/String;"), (0, .methodref 75 84), (0, .nameAndType 11 85), (0, u "([Ljava/lang/String;[Ljava/lang/String;)V"), (0, .methodref 8 87), (0, .nameAndType 11 88), (0, u "(Lcom/example/subsumer/subsumer/core/Label;Ljava/util/List;Ljava/util/List;)V"), (0, .methodref 8 90), (0, .nameAndType 91 38), (0, u "isBottom"), (0, .fieldref 75 93), (0, .nameAndType 94 21), (0, u "EMPTY"), (0, .methodref 52 96), (0, .nameAndType 11 97), (0, u "(Ljava/lang/String;Lcom/example/subsumer/subsumer/core/Description;)V"), (0, .interfaceMethodref 2 99), (0, .nameAndType 5 100), (0, u "(Ljava/lang/Object;)Ljava/util/List;"), (0, .methodref 8 102), (0, .nameAndType 103 38), (0, u "isTop"), (0, .methodref 62 96), (0, .methodref 8 106), (0, .nameAndType 107 108), (0, u "requireCount"), (0, u "(I)V"), (0, .class_ 110), (0, u "com/example/subsumer/subsumer/core/AtLeast"), (0, .methodref 109 112), (0, .nameAndType 11 113), (0, u "(Ljava/lang/String;I)V"), (0, .class_ 115), (0, u "com/example/subsumer/subsumer/core/AtMost"), (0, .methodref 114 112), (47, u "name"), (0, u "(Ljava/lang/String;)Lcom/example/subsumer/subsumer/core/Description;"), (17, u "min"), (0, u "(Ljava/lang/String;I)Lcom/example/subsumer/subsumer/core/Description;"), (4, u "max"), (0, .methodref 75 36), (45, u "top"), (0, u "bottom"), (0, u "some"), (0, u "(Ljava/lang/String;Lcom/example/subsumer/subsumer/core/Description;)Lcom/example/subsumer/subsumer/core/Description;"), (0, u "only")] 37

def k9c0 : Code := { maxStack := 6, maxLocals := 4, code := prog_3_method_1_code, exceptionTable := #[], attributes := #[] }
def k9m0 : Method := { name := "<init>", desc := "(Lcom/example/subsumer/subsumer/core/Label;Ljava/util/List;Ljava/util/List;)V", sig := { parameters := [(.object "com/example/subsumer/subsumer/core/Label"), (.object "java/util/List"), (.object "java/util/List")], returnType := none }, accessFlags := 0, code := some k9c0 }
def k9c1 : Code := { maxStack := 2, maxLocals := 10, code := prog_3_method_2_code, exceptionTable := #[], attributes := #[] }
def k9m1 : Method := { name := "<init>", desc := "(Lcom/example/subsumer/subsumer/core/Label;Ljava/util/List;Ljava/util/List;Ljava/util/List;Ljava/util/List;)V", sig := { parameters := [(.object "com/example/subsumer/subsumer/core/Label"), (.object "java/util/List"), (.object "java/util/List"), (.object "java/util/List"), (.object "java/util/List")], returnType := none }, accessFlags := 0, code := some k9c1 }
def k9c2 : Code := { maxStack := 1, maxLocals := 0, code := prog_3_method_3_code, exceptionTable := #[], attributes := #[] }
def k9m2 : Method := { name := "top", desc := "()Lcom/example/subsumer/subsumer/core/Description;", sig := { parameters := [], returnType := some (.object "com/example/subsumer/subsumer/core/Description") }, accessFlags := 9, code := some k9c2 }
def k9c3 : Code := { maxStack := 1, maxLocals := 0, code := prog_3_method_4_code, exceptionTable := #[], attributes := #[] }
def k9m3 : Method := { name := "bottom", desc := "()Lcom/example/subsumer/subsumer/core/Description;", sig := { parameters := [], returnType := some (.object "com/example/subsumer/subsumer/core/Description") }, accessFlags := 9, code := some k9c3 }
def k9c4 : Code := { maxStack := 8, maxLocals := 1, code := prog_3_method_5_code, exceptionTable := #[], attributes := #[] }
def k9m4 : Method := { name := "name", desc := "(Ljava/lang/String;)Lcom/example/subsumer/subsumer/core/Description;", sig := { parameters := [(.object "java/lang/String")], returnType := some (.object "com/example/subsumer/subsumer/core/Description") }, accessFlags := 9, code := some k9c4 }
def k9c5 : Code := { maxStack := 7, maxLocals := 2, code := prog_3_method_7_code, exceptionTable := #[], attributes := #[] }
def k9m5 : Method := { name := "some", desc := "(Ljava/lang/String;Lcom/example/subsumer/subsumer/core/Description;)Lcom/example/subsumer/subsumer/core/Description;", sig := { parameters := [(.object "java/lang/String"), (.object "com/example/subsumer/subsumer/core/Description")], returnType := some (.object "com/example/subsumer/subsumer/core/Description") }, accessFlags := 9, code := some k9c5 }
def k9c6 : Code := { maxStack := 8, maxLocals := 2, code := prog_3_method_8_code, exceptionTable := #[], attributes := #[] }
def k9m6 : Method := { name := "only", desc := "(Ljava/lang/String;Lcom/example/subsumer/subsumer/core/Description;)Lcom/example/subsumer/subsumer/core/Description;", sig := { parameters := [(.object "java/lang/String"), (.object "com/example/subsumer/subsumer/core/Description")], returnType := some (.object "com/example/subsumer/subsumer/core/Description") }, accessFlags := 9, code := some k9c6 }
def k9c7 : Code := { maxStack := 9, maxLocals := 2, code := prog_3_method_9_code, exceptionTable := #[], attributes := #[] }
def k9m7 : Method := { name := "min", desc := "(Ljava/lang/String;I)Lcom/example/subsumer/subsumer/core/Description;", sig := { parameters := [(.object "java/lang/String"), .int], returnType := some (.object "com/example/subsumer/subsumer/core/Description") }, accessFlags := 9, code := some k9c7 }
def k9c8 : Code := { maxStack := 10, maxLocals := 2, code := prog_3_method_10_code, exceptionTable := #[], attributes := #[] }
def k9m8 : Method := { name := "max", desc := "(Ljava/lang/String;I)Lcom/example/subsumer/subsumer/core/Description;", sig := { parameters := [(.object "java/lang/String"), .int], returnType := some (.object "com/example/subsumer/subsumer/core/Description") }, accessFlags := 9, code := some k9c8 }
def k9c9 : Code := { maxStack := 3, maxLocals := 1, code := prog_3_method_11_code, exceptionTable := #[], attributes := #[] }
def k9m9 : Method := { name := "requireCount", desc := "(I)V", sig := { parameters := [.int], returnType := none }, accessFlags := 10, code := some k9c9 }
def k9c10 : Code := { maxStack := 1, maxLocals := 1, code := prog_3_method_15_code, exceptionTable := #[], attributes := #[] }
def k9m10 : Method := { name := "existentials", desc := "()Ljava/util/List;", sig := { parameters := [], returnType := some (.object "java/util/List") }, accessFlags := 1, code := some k9c10 }
def k9c11 : Code := { maxStack := 1, maxLocals := 1, code := prog_3_method_16_code, exceptionTable := #[], attributes := #[] }
def k9m11 : Method := { name := "universals", desc := "()Ljava/util/List;", sig := { parameters := [], returnType := some (.object "java/util/List") }, accessFlags := 1, code := some k9c11 }
def k9c12 : Code := { maxStack := 1, maxLocals := 1, code := prog_3_method_17_code, exceptionTable := #[], attributes := #[] }
def k9m12 : Method := { name := "atLeast", desc := "()Ljava/util/List;", sig := { parameters := [], returnType := some (.object "java/util/List") }, accessFlags := 1, code := some k9c12 }
def k9c13 : Code := { maxStack := 1, maxLocals := 1, code := prog_3_method_18_code, exceptionTable := #[], attributes := #[] }
def k9m13 : Method := { name := "atMost", desc := "()Ljava/util/List;", sig := { parameters := [], returnType := some (.object "java/util/List") }, accessFlags := 1, code := some k9c13 }
def k9c14 : Code := { maxStack := 2, maxLocals := 1, code := prog_3_method_20_code, exceptionTable := #[], attributes := #[] }
def k9m14 : Method := { name := "isTop", desc := "()Z", sig := { parameters := [], returnType := some .boolean }, accessFlags := 1, code := some k9c14 }
def k9c15 : Code := { maxStack := 2, maxLocals := 1, code := prog_3_method_21_code, exceptionTable := #[], attributes := #[] }
def k9m15 : Method := { name := "isBottom", desc := "()Z", sig := { parameters := [], returnType := some .boolean }, accessFlags := 1, code := some k9c15 }
/-- com/example/subsumer/subsumer/core/Description -/
def k9 : Class := { plain "com/example/subsumer/subsumer/core/Description" (some 0) with
  accessFlags := 49
  interfaces := #[]
  cf := some (fileOf pool9 8 #[] #[{ accessFlags := 0, nameIndex := 11, descriptorIndex := 88, attributes := #[] }, { accessFlags := 0, nameIndex := 11, descriptorIndex := 12, attributes := #[] }, { accessFlags := 9, nameIndex := 236, descriptorIndex := 57, attributes := #[] }, { accessFlags := 9, nameIndex := 237, descriptorIndex := 57, attributes := #[] }, { accessFlags := 9, nameIndex := 164, descriptorIndex := 165, attributes := #[] }, { accessFlags := 9, nameIndex := 238, descriptorIndex := 239, attributes := #[] }, { accessFlags := 9, nameIndex := 240, descriptorIndex := 239, attributes := #[] }, { accessFlags := 9, nameIndex := 183, descriptorIndex := 184, attributes := #[] }, { accessFlags := 9, nameIndex := 189, descriptorIndex := 184, attributes := #[] }, { accessFlags := 10, nameIndex := 107, descriptorIndex := 108, attributes := #[] }, { accessFlags := 1, nameIndex := 24, descriptorIndex := 6, attributes := #[] }, { accessFlags := 1, nameIndex := 28, descriptorIndex := 6, attributes := #[] }, { accessFlags := 1, nameIndex := 31, descriptorIndex := 6, attributes := #[] }, { accessFlags := 1, nameIndex := 34, descriptorIndex := 6, attributes := #[] }, { accessFlags := 1, nameIndex := 103, descriptorIndex := 38, attributes := #[] }, { accessFlags := 1, nameIndex := 91, descriptorIndex := 38, attributes := #[] }] 49 14 #[] #[{ accessFlags := 26, nameIndex := 70, descriptorIndex := 71, attributes := #[] }, { accessFlags := 26, nameIndex := 74, descriptorIndex := 71, attributes := #[] }, { accessFlags := 16, nameIndex := 20, descriptorIndex := 21, attributes := #[] }, { accessFlags := 18, nameIndex := 24, descriptorIndex := 25, attributes := #[] }, { accessFlags := 18, nameIndex := 28, descriptorIndex := 25, attributes := #[] }, { accessFlags := 18, nameIndex := 31, descriptorIndex := 25, attributes := #[] }, { accessFlags := 18, nameIndex := 34, descriptorIndex := 25, attributes := #[] }, { accessFlags := 18, nameIndex := 67, descriptorIndex := 61, attributes := #[] }, { accessFlags := 18, nameIndex := 60, descriptorIndex := 61, attributes := #[] }])
  fields := #[{ name := "TOP", type := (.object "com/example/subsumer/subsumer/core/Description"), accessFlags := 26, slot := 0, constantValue := 0 }, { name := "BOTTOM", type := (.object "com/example/subsumer/subsumer/core/Description"), accessFlags := 26, slot := 1, constantValue := 0 }, { name := "label", type := (.object "com/example/subsumer/subsumer/core/Label"), accessFlags := 16, slot := 0, constantValue := 0 }, { name := "existentials", type := (.object "java/util/List"), accessFlags := 18, slot := 1, constantValue := 0 }, { name := "universals", type := (.object "java/util/List"), accessFlags := 18, slot := 2, constantValue := 0 }, { name := "atLeast", type := (.object "java/util/List"), accessFlags := 18, slot := 3, constantValue := 0 }, { name := "atMost", type := (.object "java/util/List"), accessFlags := 18, slot := 4, constantValue := 0 }, { name := "existentialInside", type := .boolean, accessFlags := 18, slot := 5, constantValue := 0 }, { name := "numberInside", type := .boolean, accessFlags := 18, slot := 6, constantValue := 0 }]
  methods := #[k9m0, k9m1, k9m2, k9m3, k9m4, k9m5, k9m6, k9m7, k9m8, k9m9, k9m10, k9m11, k9m12, k9m13, k9m14, k9m15]
  instanceTypes := #[(.object "com/example/subsumer/subsumer/core/Label"), (.object "java/util/List"), (.object "java/util/List"), (.object "java/util/List"), (.object "java/util/List"), .boolean, .boolean]
  staticTypes := #[(.object "com/example/subsumer/subsumer/core/Description"), (.object "com/example/subsumer/subsumer/core/Description")]
  resolved := Array.replicate 278 none
  statics := some 1 }

def pool10 : Array CpInfo := pool [(1, .methodref 2 3), (0, .class_ 4), (0, .nameAndType 5 6), (0, u "java/lang/Object"), (0, u "<init>"), (0, u "()V"), (0, .fieldref 8 9), (0, .class_ 10), (0, .nameAndType 11 12), (0, u "com/example/subsumer/subsumer/core/Label"), (0, u "names"), (0, u "[Ljava/lang/String;"), (0, .fieldref 8 14), (0, .nameAndType 15 12), (0, u "negated"), (4, u "isEmpty"), (0, u "()Z"), (2, u "EMPTY"), (0, u "Lcom/example/subsumer/subsumer/core/Label;"), (17, u "([Ljava/lang/String;[Ljava/lang/String;)V"), (34, u "NONE")] 60

def k10c0 : Code := { maxStack := 2, maxLocals := 3, code := prog_14_method_1_code, exceptionTable := #[], attributes := #[] }
def k10m0 : Method := { name := "<init>", desc := "([Ljava/lang/String;[Ljava/lang/String;)V", sig := { parameters := [(.array (.object "java/lang/String")), (.array (.object "java/lang/String"))], returnType := none }, accessFlags := 0, code := some k10c0 }
def k10c1 : Code := { maxStack := 1, maxLocals := 1, code := prog_14_method_5_code, exceptionTable := #[], attributes := #[] }
def k10m1 : Method := { name := "isEmpty", desc := "()Z", sig := { parameters := [], returnType := some .boolean }, accessFlags := 1, code := some k10c1 }
/-- com/example/subsumer/subsumer/core/Label -/
def k10 : Class := { plain "com/example/subsumer/subsumer/core/Label" (some 0) with
  accessFlags := 49
  interfaces := #[]
  cf := some (fileOf pool10 8 #[] #[{ accessFlags := 0, nameIndex := 5, descriptorIndex := 43, attributes := #[] }, { accessFlags := 1, nameIndex := 20, descriptorIndex := 21, attributes := #[] }] 49 2 #[] #[{ accessFlags := 24, nameIndex := 78, descriptorIndex := 12, attributes := #[] }, { accessFlags := 25, nameIndex := 24, descriptorIndex := 25, attributes := #[] }, { accessFlags := 16, nameIndex := 11, descriptorIndex := 12, attributes := #[] }, { accessFlags := 16, nameIndex := 15, descriptorIndex := 12, attributes := #[] }])
  fields := #[{ name := "NONE", type := (.array (.object "java/lang/String")), accessFlags := 24, slot := 0, constantValue := 0 }, { name := "EMPTY", type := (.object "com/example/subsumer/subsumer/core/Label"), accessFlags := 25, slot := 1, constantValue := 0 }, { name := "names", type := (.array (.object "java/lang/String")), accessFlags := 16, slot := 0, constantValue := 0 }, { name := "negated", type := (.array (.object "java/lang/String")), accessFlags := 16, slot := 1, constantValue := 0 }]
  methods := #[k10m0, k10m1]
  instanceTypes := #[(.array (.object "java/lang/String")), (.array (.object "java/lang/String"))]
  staticTypes := #[(.array (.object "java/lang/String")), (.object "com/example/subsumer/subsumer/core/Label")]
  resolved := Array.replicate 139 none
  statics := some 2 }

def pool11 : Array CpInfo := pool [(8, .class_ 10), (1, u "java/lang/Iterable"), (24, .class_ 36), (0, u "java/lang/Object")] 25

/-- java/lang/Iterable -/
def k11 : Class := { plain "java/lang/Iterable" (some 0) with
  accessFlags := 1537
  interfaces := #[]
  cf := some (fileOf pool11 8 #[] #[] 1537 35 #[] #[])
  fields := #[]
  methods := #[]
  instanceTypes := #[]
  staticTypes := #[]
  resolved := Array.replicate 62 none
  statics := none }

def pool12 : Array CpInfo := pool [(10, .class_ 12), (1, u "java/util/Collection"), (47, .class_ 61), (0, u "java/lang/Object"), (0, .class_ 63), (0, u "java/lang/Iterable")] 51

/-- java/util/Collection -/
def k12 : Class := { plain "java/util/Collection" (some 0) with
  accessFlags := 1537
  interfaces := #[11]
  cf := some (fileOf pool12 10 #[] #[] 1537 60 #[62] #[])
  fields := #[]
  methods := #[]
  instanceTypes := #[]
  staticTypes := #[]
  resolved := Array.replicate 115 none
  statics := none }

def pool13 : Array CpInfo := pool [(8, .class_ 10), (1, u "java/util/SequencedCollection"), (15, .class_ 27), (0, u "java/lang/Object"), (0, .class_ 29), (0, u "java/util/Collection")] 27

/-- java/util/SequencedCollection -/
def k13 : Class := { plain "java/util/SequencedCollection" (some 0) with
  accessFlags := 1537
  interfaces := #[12]
  cf := some (fileOf pool13 8 #[] #[] 1537 26 #[28] #[])
  fields := #[]
  methods := #[]
  instanceTypes := #[]
  staticTypes := #[]
  resolved := Array.replicate 57 none
  statics := none }

def pool14 : Array CpInfo := pool [(8, .class_ 10), (1, u "java/util/List"), (7, u "()Z"), (12, u "(Ljava/lang/Object;)V"), (16, u "<init>"), (18, u "isEmpty"), (7, u "get"), (0, u "(I)Ljava/lang/Object;"), (11, u "of"), (1, .fieldref 91 92), (0, .class_ 93), (0, .nameAndType 94 95), (0, u "java/util/ImmutableCollections"), (0, u "EMPTY_LIST"), (0, u "Ljava/util/ImmutableCollections$ListN;"), (0, .class_ 97), (0, u "java/util/ImmutableCollections$List12"), (0, .methodref 96 99), (0, .nameAndType 48 31), (3, .class_ 104), (0, u "java/lang/Object"), (14, u "()Ljava/util/List;"), (0, .class_ 121), (0, u "java/util/SequencedCollection"), (1, u "iterator"), (0, u "()Ljava/util/Iterator;"), (73, u "(Ljava/lang/Object;)Ljava/util/List;")] 52

def k14m0 : Method := { name := "isEmpty", desc := "()Z", sig := { parameters := [], returnType := some .boolean }, accessFlags := 1025, code := none }
def k14m1 : Method := { name := "iterator", desc := "()Ljava/util/Iterator;", sig := { parameters := [], returnType := some (.object "java/util/Iterator") }, accessFlags := 1025, code := none }
def k14m2 : Method := { name := "get", desc := "(I)Ljava/lang/Object;", sig := { parameters := [.int], returnType := some (.object "java/lang/Object") }, accessFlags := 1025, code := none }
def k14c3 : Code := { maxStack := 1, maxLocals := 0, code := jdk_40_method_36_code, exceptionTable := #[], attributes := #[] }
def k14m3 : Method := { name := "of", desc := "()Ljava/util/List;", sig := { parameters := [], returnType := some (.object "java/util/List") }, accessFlags := 9, code := some k14c3 }
def k14c4 : Code := { maxStack := 3, maxLocals := 1, code := jdk_40_method_37_code, exceptionTable := #[], attributes := #[] }
def k14m4 : Method := { name := "of", desc := "(Ljava/lang/Object;)Ljava/util/List;", sig := { parameters := [(.object "java/lang/Object")], returnType := some (.object "java/util/List") }, accessFlags := 9, code := some k14c4 }
/-- java/util/List -/
def k14 : Class := { plain "java/util/List" (some 0) with
  accessFlags := 1537
  interfaces := #[13]
  cf := some (fileOf pool14 8 #[] #[{ accessFlags := 1025, nameIndex := 67, descriptorIndex := 18, attributes := #[] }, { accessFlags := 1025, nameIndex := 123, descriptorIndex := 124, attributes := #[] }, { accessFlags := 1025, nameIndex := 75, descriptorIndex := 76, attributes := #[] }, { accessFlags := 9, nameIndex := 88, descriptorIndex := 119, attributes := #[] }, { accessFlags := 9, nameIndex := 88, descriptorIndex := 198, attributes := #[] }] 1537 103 #[120] #[])
  fields := #[]
  methods := #[k14m0, k14m1, k14m2, k14m3, k14m4]
  instanceTypes := #[]
  staticTypes := #[]
  resolved := Array.replicate 251 none
  statics := none }

def pool15 : Array CpInfo := pool [(2, .class_ 4), (1, u "java/lang/Object"), (0, u "<init>"), (0, u "()V"), (3, .class_ 11), (0, u "java/util/ImmutableCollections$List12"), (0, .class_ 13), (0, u "java/util/ImmutableCollections$ListN"), (3, u "Z"), (29, .class_ 49), (1, u "java/util/ImmutableCollections"), (0, u "$assertionsDisabled"), (5, u "[Ljava/lang/Object;"), (5, u "EMPTY_LIST"), (0, u "Ljava/util/ImmutableCollections$ListN;"), (8, u "EMPTY_LIST_NULLS"), (22, u "SALT32L"), (0, u "J"), (2, u "REVERSE"), (6, u "archivedObjects"), (2, u "EMPTY"), (0, u "Ljava/lang/Object;"), (0, .class_ 112), (0, u "java/util/ImmutableCollections$SetN"), (5, u "EMPTY_SET"), (0, u "Ljava/util/ImmutableCollections$SetN;"), (0, .class_ 121), (0, u "java/util/ImmutableCollections$MapN"), (3, u "EMPTY_MAP"), (0, u "Ljava/util/ImmutableCollections$MapN;"), (4, u "EXPAND_FACTOR"), (0, u "I"), (36, .class_ 170), (0, u "java/util/ImmutableCollections$MapN$MapNIterator"), (0, .class_ 172), (0, u "java/util/ImmutableCollections$MapN$1"), (0, .class_ 174), (0, u "java/util/ImmutableCollections$Map1"), (0, .class_ 176), (0, u "java/util/ImmutableCollections$AbstractImmutableMap"), (0, .class_ 178), (0, u "java/util/ImmutableCollections$SetN$SetNIterator"), (0, .class_ 180), (0, u "java/util/ImmutableCollections$Set12"), (0, .class_ 182), (0, u "java/util/ImmutableCollections$Set12$1"), (0, .class_ 184), (0, u "java/util/ImmutableCollections$AbstractImmutableSet"), (0, .class_ 186), (0, u "java/util/ImmutableCollections$SubList"), (0, .class_ 188), (0, u "java/util/ImmutableCollections$ListItr"), (0, .class_ 190), (0, u "java/util/ImmutableCollections$AbstractImmutableList"), (0, .class_ 192), (0, u "java/util/ImmutableCollections$AbstractImmutableCollection"), (0, .class_ 194), (0, u "java/util/ImmutableCollections$Access"), (0, .class_ 196), (0, u "java/util/ImmutableCollections$Access$1")] 16

def k15m0 : Method := { name := "<init>", desc := "()V", sig := { parameters := [], returnType := none }, accessFlags := 2, code := none }
/-- java/util/ImmutableCollections -/
def k15 : Class := { plain "java/util/ImmutableCollections" (some 0) with
  accessFlags := 32
  interfaces := #[]
  cf := some (fileOf pool15 47 #[.nestMembers #[120, 169, 171, 173, 175, 111, 177, 179, 181, 183, 12, 10, 185, 187, 189, 191, 193, 195]] #[{ accessFlags := 2, nameIndex := 5, descriptorIndex := 6, attributes := #[] }] 32 2 #[] #[{ accessFlags := 26, nameIndex := 95, descriptorIndex := 96, attributes := #[] }, { accessFlags := 26, nameIndex := 99, descriptorIndex := 17, attributes := #[] }, { accessFlags := 10, nameIndex := 106, descriptorIndex := 56, attributes := #[] }, { accessFlags := 26, nameIndex := 109, descriptorIndex := 110, attributes := #[] }, { accessFlags := 24, nameIndex := 62, descriptorIndex := 63, attributes := #[] }, { accessFlags := 24, nameIndex := 72, descriptorIndex := 63, attributes := #[] }, { accessFlags := 24, nameIndex := 118, descriptorIndex := 119, attributes := #[] }, { accessFlags := 24, nameIndex := 125, descriptorIndex := 126, attributes := #[] }, { accessFlags := 24, nameIndex := 131, descriptorIndex := 132, attributes := #[] }, { accessFlags := 4120, nameIndex := 50, descriptorIndex := 17, attributes := #[] }])
  fields := #[{ name := "SALT32L", type := .long, accessFlags := 26, slot := 0, constantValue := 0 }, { name := "REVERSE", type := .boolean, accessFlags := 26, slot := 1, constantValue := 0 }, { name := "archivedObjects", type := (.array (.object "java/lang/Object")), accessFlags := 10, slot := 2, constantValue := 0 }, { name := "EMPTY", type := (.object "java/lang/Object"), accessFlags := 26, slot := 3, constantValue := 0 }, { name := "EMPTY_LIST", type := (.object "java/util/ImmutableCollections$ListN"), accessFlags := 24, slot := 4, constantValue := 0 }, { name := "EMPTY_LIST_NULLS", type := (.object "java/util/ImmutableCollections$ListN"), accessFlags := 24, slot := 5, constantValue := 0 }, { name := "EMPTY_SET", type := (.object "java/util/ImmutableCollections$SetN"), accessFlags := 24, slot := 6, constantValue := 0 }, { name := "EMPTY_MAP", type := (.object "java/util/ImmutableCollections$MapN"), accessFlags := 24, slot := 7, constantValue := 0 }, { name := "EXPAND_FACTOR", type := .int, accessFlags := 24, slot := 8, constantValue := 0 }, { name := "$assertionsDisabled", type := .boolean, accessFlags := 4120, slot := 9, constantValue := 0 }]
  methods := #[k15m0]
  instanceTypes := #[]
  staticTypes := #[.long, .boolean, (.array (.object "java/lang/Object")), (.object "java/lang/Object"), (.object "java/util/ImmutableCollections$ListN"), (.object "java/util/ImmutableCollections$ListN"), (.object "java/util/ImmutableCollections$SetN"), (.object "java/util/ImmutableCollections$MapN"), .int, .boolean]
  resolved := Array.replicate 213 none
  statics := some 3 }

def pool16 : Array CpInfo := pool [(1, .methodref 2 3), (0, .class_ 4), (0, .nameAndType 5 6), (0, u "java/lang/Object"), (0, u "<init>"), (0, u "()V"), (1, .class_ 10), (1, u "java/util/AbstractCollection"), (0, u "size"), (0, u "()I"), (64, .class_ 78), (0, u "java/util/Collection")] 81

def k16c0 : Code := { maxStack := 1, maxLocals := 1, code := jdk_22_method_1_code, exceptionTable := #[], attributes := #[] }
def k16m0 : Method := { name := "<init>", desc := "()V", sig := { parameters := [], returnType := none }, accessFlags := 4, code := some k16c0 }
def k16m1 : Method := { name := "size", desc := "()I", sig := { parameters := [], returnType := some .int }, accessFlags := 1025, code := none }
/-- java/util/AbstractCollection -/
def k16 : Class := { plain "java/util/AbstractCollection" (some 0) with
  accessFlags := 1057
  interfaces := #[12]
  cf := some (fileOf pool16 8 #[] #[{ accessFlags := 4, nameIndex := 5, descriptorIndex := 6, attributes := #[] }, { accessFlags := 1025, nameIndex := 11, descriptorIndex := 12, attributes := #[] }] 1057 2 #[77] #[])
  fields := #[]
  methods := #[k16m0, k16m1]
  instanceTypes := #[]
  staticTypes := #[]
  resolved := Array.replicate 160 none
  statics := none }

def pool17 : Array CpInfo := pool [(1, .methodref 2 3), (0, .class_ 4), (0, .nameAndType 5 6), (0, u "java/util/AbstractCollection"), (0, u "<init>"), (0, u "()V"), (1, .class_ 10), (1, u "java/util/ImmutableCollections"), (2, .class_ 14), (0, u "java/util/ImmutableCollections$AbstractImmutableCollection")] 41

def k17c0 : Code := { maxStack := 1, maxLocals := 1, code := jdk_47_method_1_code, exceptionTable := #[], attributes := #[] }
def k17m0 : Method := { name := "<init>", desc := "()V", sig := { parameters := [], returnType := none }, accessFlags := 0, code := some k17c0 }
/-- java/util/ImmutableCollections$AbstractImmutableCollection -/
def k17 : Class := { plain "java/util/ImmutableCollections$AbstractImmutableCollection" (some 16) with
  accessFlags := 1056
  interfaces := #[]
  cf := some (fileOf pool17 13 #[.nestHost 8] #[{ accessFlags := 0, nameIndex := 5, descriptorIndex := 6, attributes := #[] }] 1056 2 #[] #[])
  fields := #[]
  methods := #[k17m0]
  instanceTypes := #[]
  staticTypes := #[]
  resolved := Array.replicate 56 none
  statics := none }

def pool18 : Array CpInfo := pool [(1, .class_ 2), (0, u "java/util/RandomAccess"), (0, .class_ 4), (0, u "java/lang/Object")] 2

/-- java/util/RandomAccess -/
def k18 : Class := { plain "java/util/RandomAccess" (some 0) with
  accessFlags := 1537
  interfaces := #[]
  cf := some (fileOf pool18 1 #[] #[] 1537 3 #[] #[])
  fields := #[]
  methods := #[]
  instanceTypes := #[]
  staticTypes := #[]
  resolved := Array.replicate 7 none
  statics := none }

def pool19 : Array CpInfo := pool [(1, .methodref 2 3), (0, .class_ 4), (0, .nameAndType 5 6), (0, u "java/util/ImmutableCollections$AbstractImmutableCollection"), (0, u "<init>"), (0, u "()V"), (1, .class_ 10), (1, u "java/util/ImmutableCollections"), (2, .methodref 14 15), (0, .class_ 16), (0, .nameAndType 17 18), (0, u "java/util/ImmutableCollections$AbstractImmutableList"), (0, u "size"), (0, u "()I"), (42, .class_ 62), (0, u "java/util/ImmutableCollections$ListItr"), (0, .methodref 61 64), (0, .nameAndType 5 65), (0, u "(Ljava/util/List;I)V"), (11, .class_ 78), (0, u "java/util/List"), (2, u "iterator"), (0, u "()Ljava/util/Iterator;"), (41, .class_ 125), (0, u "java/util/RandomAccess")] 70

def k19c0 : Code := { maxStack := 1, maxLocals := 1, code := jdk_46_method_1_code, exceptionTable := #[], attributes := #[] }
def k19m0 : Method := { name := "<init>", desc := "()V", sig := { parameters := [], returnType := none }, accessFlags := 0, code := some k19c0 }
def k19c1 : Code := { maxStack := 4, maxLocals := 1, code := jdk_46_method_10_code, exceptionTable := #[], attributes := #[] }
def k19m1 : Method := { name := "iterator", desc := "()Ljava/util/Iterator;", sig := { parameters := [], returnType := some (.object "java/util/Iterator") }, accessFlags := 1, code := some k19c1 }
/-- java/util/ImmutableCollections$AbstractImmutableList -/
def k19 : Class := { plain "java/util/ImmutableCollections$AbstractImmutableList" (some 17) with
  accessFlags := 1056
  interfaces := #[14, 18]
  cf := some (fileOf pool19 14 #[.nestHost 8] #[{ accessFlags := 0, nameIndex := 5, descriptorIndex := 6, attributes := #[] }, { accessFlags := 1, nameIndex := 81, descriptorIndex := 82, attributes := #[] }] 1056 2 #[77, 124] #[])
  fields := #[]
  methods := #[k19m0, k19m1]
  instanceTypes := #[]
  staticTypes := #[]
  resolved := Array.replicate 196 none
  statics := none }

def pool20 : Array CpInfo := pool [(2, .class_ 4), (1, u "java/util/ImmutableCollections$AbstractImmutableList"), (2, .fieldref 8 9), (0, .class_ 10), (0, .nameAndType 11 12), (0, u "java/util/ImmutableCollections$ListN"), (0, u "elements"), (0, u "[Ljava/lang/Object;"), (2, u "allowNulls"), (0, u "Z"), (42, .class_ 60), (0, u "java/io/Serializable"), (13, u "isEmpty"), (0, u "()Z"), (1, u "size"), (0, u "()I"), (35, .class_ 115), (0, u "java/util/ImmutableCollections")] 3

def k20c0 : Code := { maxStack := 1, maxLocals := 1, code := jdk_45_method_2_code, exceptionTable := #[], attributes := #[] }
def k20m0 : Method := { name := "isEmpty", desc := "()Z", sig := { parameters := [], returnType := some .boolean }, accessFlags := 1, code := some k20c0 }
def k20c1 : Code := { maxStack := 1, maxLocals := 1, code := jdk_45_method_3_code, exceptionTable := #[], attributes := #[] }
def k20m1 : Method := { name := "size", desc := "()I", sig := { parameters := [], returnType := some .int }, accessFlags := 1, code := some k20c1 }
/-- java/util/ImmutableCollections$ListN -/
def k20 : Class := { plain "java/util/ImmutableCollections$ListN" (some 19) with
  accessFlags := 48
  interfaces := #[2]
  cf := some (fileOf pool20 8 #[.nestHost 114] #[{ accessFlags := 1, nameIndex := 74, descriptorIndex := 75, attributes := #[] }, { accessFlags := 1, nameIndex := 77, descriptorIndex := 78, attributes := #[] }] 48 2 #[59] #[{ accessFlags := 18, nameIndex := 11, descriptorIndex := 12, attributes := #[] }, { accessFlags := 18, nameIndex := 15, descriptorIndex := 16, attributes := #[] }])
  fields := #[{ name := "elements", type := (.array (.object "java/lang/Object")), accessFlags := 18, slot := 0, constantValue := 0 }, { name := "allowNulls", type := .boolean, accessFlags := 18, slot := 1, constantValue := 0 }]
  methods := #[k20m0, k20m1]
  instanceTypes := #[(.array (.object "java/lang/Object")), .boolean]
  staticTypes := #[]
  resolved := Array.replicate 119 none
  statics := none }

def pool21 : Array CpInfo := pool [(16, .class_ 18), (1, u "java/util/Iterator"), (0, u "hasNext"), (0, u "()Z"), (2, u "next"), (0, u "()Ljava/lang/Object;"), (6, .class_ 32), (0, u "java/lang/Object")] 20

def k21m0 : Method := { name := "hasNext", desc := "()Z", sig := { parameters := [], returnType := some .boolean }, accessFlags := 1025, code := none }
def k21m1 : Method := { name := "next", desc := "()Ljava/lang/Object;", sig := { parameters := [], returnType := some (.object "java/lang/Object") }, accessFlags := 1025, code := none }
/-- java/util/Iterator -/
def k21 : Class := { plain "java/util/Iterator" (some 0) with
  accessFlags := 1537
  interfaces := #[]
  cf := some (fileOf pool21 16 #[] #[{ accessFlags := 1025, nameIndex := 19, descriptorIndex := 20, attributes := #[] }, { accessFlags := 1025, nameIndex := 23, descriptorIndex := 24, attributes := #[] }] 1537 31 #[] #[])
  fields := #[]
  methods := #[k21m0, k21m1]
  instanceTypes := #[]
  staticTypes := #[]
  resolved := Array.replicate 53 none
  statics := none }

def pool22 : Array CpInfo := pool [(1, .class_ 2), (0, u "java/util/ListIterator"), (0, .class_ 4), (0, u "java/lang/Object"), (0, .class_ 6), (0, u "java/util/Iterator")] 20

/-- java/util/ListIterator -/
def k22 : Class := { plain "java/util/ListIterator" (some 0) with
  accessFlags := 1537
  interfaces := #[21]
  cf := some (fileOf pool22 1 #[] #[] 1537 3 #[5] #[])
  fields := #[]
  methods := #[]
  instanceTypes := #[]
  staticTypes := #[]
  resolved := Array.replicate 27 none
  statics := none }

def pool23 : Array CpInfo := pool [(1, .methodref 2 3), (0, .class_ 4), (0, .nameAndType 5 6), (0, u "java/lang/Object"), (0, u "<init>"), (0, u "()V"), (0, .fieldref 8 9), (0, .class_ 10), (0, .nameAndType 11 12), (0, u "java/util/ImmutableCollections$ListItr"), (0, u "list"), (0, u "Ljava/util/List;"), (0, .fieldref 8 14), (0, .nameAndType 15 16), (0, u "size"), (0, u "I"), (0, .fieldref 8 18), (0, .nameAndType 19 16), (0, u "cursor"), (0, .fieldref 8 21), (0, .nameAndType 22 23), (0, u "isListIterator"), (0, u "Z"), (0, .interfaceMethodref 25 26), (0, .class_ 27), (0, .nameAndType 28 29), (0, u "java/util/List"), (0, u "get"), (0, u "(I)Ljava/lang/Object;"), (6, .class_ 38), (1, u "java/util/ImmutableCollections"), (2, .class_ 42), (0, u "java/util/ListIterator"), (4, u "(Ljava/util/List;I)V"), (11, u "hasNext"), (0, u "()Z"), (1, u "next"), (0, u "()Ljava/lang/Object;")] 22

def k23c0 : Code := { maxStack := 2, maxLocals := 3, code := jdk_53_method_1_code, exceptionTable := #[], attributes := #[] }
def k23m0 : Method := { name := "<init>", desc := "(Ljava/util/List;I)V", sig := { parameters := [(.object "java/util/List"), .int], returnType := none }, accessFlags := 0, code := some k23c0 }
def k23c1 : Code := { maxStack := 2, maxLocals := 1, code := jdk_53_method_3_code, exceptionTable := #[], attributes := #[] }
def k23m1 : Method := { name := "hasNext", desc := "()Z", sig := { parameters := [], returnType := some .boolean }, accessFlags := 1, code := some k23c1 }
def k23c2 : Code := { maxStack := 3, maxLocals := 3, code := jdk_53_method_4_code, exceptionTable := #[{ startPc := 0, endPc := 24, handlerPc := 25, catchType := 30 }], attributes := #[] }
def k23m2 : Method := { name := "next", desc := "()Ljava/lang/Object;", sig := { parameters := [], returnType := some (.object "java/lang/Object") }, accessFlags := 1, code := some k23c2 }
/-- java/util/ImmutableCollections$ListItr -/
def k23 : Class := { plain "java/util/ImmutableCollections$ListItr" (some 0) with
  accessFlags := 48
  interfaces := #[22]
  cf := some (fileOf pool23 8 #[.nestHost 36] #[{ accessFlags := 0, nameIndex := 5, descriptorIndex := 47, attributes := #[] }, { accessFlags := 1, nameIndex := 59, descriptorIndex := 60, attributes := #[] }, { accessFlags := 1, nameIndex := 62, descriptorIndex := 63, attributes := #[] }] 48 2 #[41] #[{ accessFlags := 18, nameIndex := 11, descriptorIndex := 12, attributes := #[] }, { accessFlags := 18, nameIndex := 15, descriptorIndex := 16, attributes := #[] }, { accessFlags := 18, nameIndex := 22, descriptorIndex := 23, attributes := #[] }, { accessFlags := 2, nameIndex := 19, descriptorIndex := 16, attributes := #[] }])
  fields := #[{ name := "list", type := (.object "java/util/List"), accessFlags := 18, slot := 0, constantValue := 0 }, { name := "size", type := .int, accessFlags := 18, slot := 1, constantValue := 0 }, { name := "isListIterator", type := .boolean, accessFlags := 18, slot := 2, constantValue := 0 }, { name := "cursor", type := .int, accessFlags := 2, slot := 3, constantValue := 0 }]
  methods := #[k23m0, k23m1, k23m2]
  instanceTypes := #[(.object "java/util/List"), .int, .boolean, .int]
  staticTypes := #[]
  resolved := Array.replicate 86 none
  statics := none }

def pool24 : Array CpInfo := pool [(1, .methodref 2 3), (0, .class_ 4), (0, .nameAndType 5 6), (0, u "java/lang/Object"), (0, u "<init>"), (0, u "()V"), (0, .class_ 8), (0, u "java/lang/Record")] 13

def k24c0 : Code := { maxStack := 1, maxLocals := 1, code := jdk_30_method_1_code, exceptionTable := #[], attributes := #[] }
def k24m0 : Method := { name := "<init>", desc := "()V", sig := { parameters := [], returnType := none }, accessFlags := 4, code := some k24c0 }
/-- java/lang/Record -/
def k24 : Class := { plain "java/lang/Record" (some 0) with
  accessFlags := 1057
  interfaces := #[]
  cf := some (fileOf pool24 7 #[] #[{ accessFlags := 4, nameIndex := 5, descriptorIndex := 6, attributes := #[] }] 1057 2 #[] #[])
  fields := #[]
  methods := #[k24m0]
  instanceTypes := #[]
  staticTypes := #[]
  resolved := Array.replicate 22 none
  statics := none }

def pool25 : Array CpInfo := pool [(1, .methodref 2 3), (0, .class_ 4), (0, .nameAndType 5 6), (0, u "java/lang/Record"), (0, u "<init>"), (0, u "()V"), (0, .fieldref 8 9), (0, .class_ 10), (0, .nameAndType 11 12), (0, u "com/example/subsumer/subsumer/core/Existential"), (0, u "property"), (0, u "Ljava/lang/String;"), (0, .fieldref 8 14), (0, .nameAndType 15 16), (0, u "filler"), (0, u "Lcom/example/subsumer/subsumer/core/Description;"), (12, u "(Ljava/lang/String;Lcom/example/subsumer/subsumer/core/Description;)V"), (6, u "()Lcom/example/subsumer/subsumer/core/Description;")] 21

def k25c0 : Code := { maxStack := 2, maxLocals := 3, code := prog_12_method_1_code, exceptionTable := #[], attributes := #[] }
def k25m0 : Method := { name := "<init>", desc := "(Ljava/lang/String;Lcom/example/subsumer/subsumer/core/Description;)V", sig := { parameters := [(.object "java/lang/String"), (.object "com/example/subsumer/subsumer/core/Description")], returnType := none }, accessFlags := 1, code := some k25c0 }
def k25c1 : Code := { maxStack := 1, maxLocals := 1, code := prog_12_method_6_code, exceptionTable := #[], attributes := #[] }
def k25m1 : Method := { name := "filler", desc := "()Lcom/example/subsumer/subsumer/core/Description;", sig := { parameters := [], returnType := some (.object "com/example/subsumer/subsumer/core/Description") }, accessFlags := 1, code := some k25c1 }
/-- com/example/subsumer/subsumer/core/Existential -/
def k25 : Class := { plain "com/example/subsumer/subsumer/core/Existential" (some 24) with
  accessFlags := 49
  interfaces := #[]
  cf := some (fileOf pool25 8 #[] #[{ accessFlags := 1, nameIndex := 5, descriptorIndex := 29, attributes := #[] }, { accessFlags := 1, nameIndex := 15, descriptorIndex := 36, attributes := #[] }] 49 2 #[] #[{ accessFlags := 18, nameIndex := 11, descriptorIndex := 12, attributes := #[] }, { accessFlags := 18, nameIndex := 15, descriptorIndex := 16, attributes := #[] }])
  fields := #[{ name := "property", type := (.object "java/lang/String"), accessFlags := 18, slot := 0, constantValue := 0 }, { name := "filler", type := (.object "com/example/subsumer/subsumer/core/Description"), accessFlags := 18, slot := 1, constantValue := 0 }]
  methods := #[k25m0, k25m1]
  instanceTypes := #[(.object "java/lang/String"), (.object "com/example/subsumer/subsumer/core/Description")]
  staticTypes := #[]
  resolved := Array.replicate 58 none
  statics := none }

def pool26 : Array CpInfo := pool [(1, .methodref 2 3), (0, .class_ 4), (0, .nameAndType 5 6), (0, u "java/util/ImmutableCollections$AbstractImmutableList"), (0, u "<init>"), (0, u "()V"), (0, .methodref 8 9), (0, .class_ 10), (0, .nameAndType 11 12), (0, u "java/util/Objects"), (0, u "requireNonNull"), (0, u "(Ljava/lang/Object;)Ljava/lang/Object;"), (0, .fieldref 14 15), (0, .class_ 16), (0, .nameAndType 17 18), (0, u "java/util/ImmutableCollections$List12"), (0, u "e0"), (0, u "Ljava/lang/Object;"), (0, .fieldref 20 21), (0, .class_ 22), (0, .nameAndType 23 18), (0, u "java/util/ImmutableCollections"), (0, u "EMPTY"), (0, .fieldref 14 25), (0, .nameAndType 26 18), (0, u "e1"), (24, u "size"), (0, u "()I"), (17, .class_ 71), (0, u "java/io/Serializable"), (4, u "(Ljava/lang/Object;)V"), (11, u "isEmpty"), (0, u "()Z"), (0, u "get"), (0, u "(I)Ljava/lang/Object;")] 33

def k26c0 : Code := { maxStack := 2, maxLocals := 2, code := jdk_44_method_1_code, exceptionTable := #[], attributes := #[] }
def k26m0 : Method := { name := "<init>", desc := "(Ljava/lang/Object;)V", sig := { parameters := [(.object "java/lang/Object")], returnType := none }, accessFlags := 0, code := some k26c0 }
def k26c1 : Code := { maxStack := 2, maxLocals := 1, code := jdk_44_method_3_code, exceptionTable := #[], attributes := #[] }
def k26m1 : Method := { name := "size", desc := "()I", sig := { parameters := [], returnType := some .int }, accessFlags := 1, code := some k26c1 }
def k26c2 : Code := { maxStack := 1, maxLocals := 1, code := jdk_44_method_4_code, exceptionTable := #[], attributes := #[] }
def k26m2 : Method := { name := "isEmpty", desc := "()Z", sig := { parameters := [], returnType := some .boolean }, accessFlags := 1, code := some k26c2 }
def k26c3 : Code := { maxStack := 2, maxLocals := 2, code := jdk_44_method_5_code, exceptionTable := #[], attributes := #[] }
def k26m3 : Method := { name := "get", desc := "(I)Ljava/lang/Object;", sig := { parameters := [.int], returnType := some (.object "java/lang/Object") }, accessFlags := 1, code := some k26c3 }
/-- java/util/ImmutableCollections$List12 -/
def k26 : Class := { plain "java/util/ImmutableCollections$List12" (some 19) with
  accessFlags := 48
  interfaces := #[2]
  cf := some (fileOf pool26 14 #[.nestHost 20] #[{ accessFlags := 0, nameIndex := 5, descriptorIndex := 76, attributes := #[] }, { accessFlags := 1, nameIndex := 51, descriptorIndex := 52, attributes := #[] }, { accessFlags := 1, nameIndex := 88, descriptorIndex := 89, attributes := #[] }, { accessFlags := 1, nameIndex := 90, descriptorIndex := 91, attributes := #[] }] 48 2 #[70] #[{ accessFlags := 18, nameIndex := 17, descriptorIndex := 18, attributes := #[] }, { accessFlags := 18, nameIndex := 26, descriptorIndex := 18, attributes := #[] }])
  fields := #[{ name := "e0", type := (.object "java/lang/Object"), accessFlags := 18, slot := 0, constantValue := 0 }, { name := "e1", type := (.object "java/lang/Object"), accessFlags := 18, slot := 1, constantValue := 0 }]
  methods := #[k26m0, k26m1, k26m2, k26m3]
  instanceTypes := #[(.object "java/lang/Object"), (.object "java/lang/Object")]
  staticTypes := #[]
  resolved := Array.replicate 125 none
  statics := none }

def pool27 : Array CpInfo := pool [(2, .class_ 4), (1, u "java/lang/Object"), (0, u "<init>"), (0, u "()V"), (35, .class_ 44), (1, u "java/util/Objects"), (0, u "requireNonNull"), (0, u "(Ljava/lang/Object;)Ljava/lang/Object;")] 137

def k27m0 : Method := { name := "<init>", desc := "()V", sig := { parameters := [], returnType := none }, accessFlags := 2, code := none }
def k27c1 : Code := { maxStack := 2, maxLocals := 1, code := jdk_31_method_10_code, exceptionTable := #[], attributes := #[] }
def k27m1 : Method := { name := "requireNonNull", desc := "(Ljava/lang/Object;)Ljava/lang/Object;", sig := { parameters := [(.object "java/lang/Object")], returnType := some (.object "java/lang/Object") }, accessFlags := 9, code := some k27c1 }
/-- java/util/Objects -/
def k27 : Class := { plain "java/util/Objects" (some 0) with
  accessFlags := 49
  interfaces := #[]
  cf := some (fileOf pool27 42 #[] #[{ accessFlags := 2, nameIndex := 5, descriptorIndex := 6, attributes := #[] }, { accessFlags := 9, nameIndex := 45, descriptorIndex := 46, attributes := #[] }] 49 2 #[] #[])
  fields := #[]
  methods := #[k27m0, k27m1]
  instanceTypes := #[]
  staticTypes := #[]
  resolved := Array.replicate 184 none
  statics := none }

def pool28 : Array CpInfo := pool [(1, .methodref 2 3), (0, .class_ 4), (0, .nameAndType 5 6), (0, u "java/lang/Record"), (0, u "<init>"), (0, u "()V"), (0, .fieldref 8 9), (0, .class_ 10), (0, .nameAndType 11 12), (0, u "com/example/subsumer/subsumer/core/Universal"), (0, u "property"), (0, u "Ljava/lang/String;"), (0, .fieldref 8 14), (0, .nameAndType 15 16), (0, u "filler"), (0, u "Lcom/example/subsumer/subsumer/core/Description;"), (12, u "(Ljava/lang/String;Lcom/example/subsumer/subsumer/core/Description;)V"), (6, u "()Lcom/example/subsumer/subsumer/core/Description;")] 21

def k28c0 : Code := { maxStack := 2, maxLocals := 3, code := prog_34_method_1_code, exceptionTable := #[], attributes := #[] }
def k28m0 : Method := { name := "<init>", desc := "(Ljava/lang/String;Lcom/example/subsumer/subsumer/core/Description;)V", sig := { parameters := [(.object "java/lang/String"), (.object "com/example/subsumer/subsumer/core/Description")], returnType := none }, accessFlags := 1, code := some k28c0 }
def k28c1 : Code := { maxStack := 1, maxLocals := 1, code := prog_34_method_6_code, exceptionTable := #[], attributes := #[] }
def k28m1 : Method := { name := "filler", desc := "()Lcom/example/subsumer/subsumer/core/Description;", sig := { parameters := [], returnType := some (.object "com/example/subsumer/subsumer/core/Description") }, accessFlags := 1, code := some k28c1 }
/-- com/example/subsumer/subsumer/core/Universal -/
def k28 : Class := { plain "com/example/subsumer/subsumer/core/Universal" (some 24) with
  accessFlags := 49
  interfaces := #[]
  cf := some (fileOf pool28 8 #[] #[{ accessFlags := 1, nameIndex := 5, descriptorIndex := 29, attributes := #[] }, { accessFlags := 1, nameIndex := 15, descriptorIndex := 36, attributes := #[] }] 49 2 #[] #[{ accessFlags := 18, nameIndex := 11, descriptorIndex := 12, attributes := #[] }, { accessFlags := 18, nameIndex := 15, descriptorIndex := 16, attributes := #[] }])
  fields := #[{ name := "property", type := (.object "java/lang/String"), accessFlags := 18, slot := 0, constantValue := 0 }, { name := "filler", type := (.object "com/example/subsumer/subsumer/core/Description"), accessFlags := 18, slot := 1, constantValue := 0 }]
  methods := #[k28m0, k28m1]
  instanceTypes := #[(.object "java/lang/String"), (.object "com/example/subsumer/subsumer/core/Description")]
  staticTypes := #[]
  resolved := Array.replicate 58 none
  statics := none }

def pool29 : Array CpInfo := pool [(1, .methodref 2 3), (0, .class_ 4), (0, .nameAndType 5 6), (0, u "java/lang/Record"), (0, u "<init>"), (0, u "()V"), (0, .fieldref 8 9), (0, .class_ 10), (0, .nameAndType 11 12), (0, u "com/example/subsumer/subsumer/core/AtLeast"), (0, u "property"), (0, u "Ljava/lang/String;"), (0, .fieldref 8 14), (0, .nameAndType 15 16), (0, u "number"), (0, u "I"), (12, u "(Ljava/lang/String;I)V")] 27

def k29c0 : Code := { maxStack := 2, maxLocals := 3, code := prog_1_method_1_code, exceptionTable := #[], attributes := #[] }
def k29m0 : Method := { name := "<init>", desc := "(Ljava/lang/String;I)V", sig := { parameters := [(.object "java/lang/String"), .int], returnType := none }, accessFlags := 1, code := some k29c0 }
/-- com/example/subsumer/subsumer/core/AtLeast -/
def k29 : Class := { plain "com/example/subsumer/subsumer/core/AtLeast" (some 24) with
  accessFlags := 49
  interfaces := #[]
  cf := some (fileOf pool29 8 #[] #[{ accessFlags := 1, nameIndex := 5, descriptorIndex := 29, attributes := #[] }] 49 2 #[] #[{ accessFlags := 18, nameIndex := 11, descriptorIndex := 12, attributes := #[] }, { accessFlags := 18, nameIndex := 15, descriptorIndex := 16, attributes := #[] }])
  fields := #[{ name := "property", type := (.object "java/lang/String"), accessFlags := 18, slot := 0, constantValue := 0 }, { name := "number", type := .int, accessFlags := 18, slot := 1, constantValue := 0 }]
  methods := #[k29m0]
  instanceTypes := #[(.object "java/lang/String"), .int]
  staticTypes := #[]
  resolved := Array.replicate 57 none
  statics := none }

def pool30 : Array CpInfo := pool [(1, .methodref 2 3), (0, .class_ 4), (0, .nameAndType 5 6), (0, u "java/lang/Record"), (0, u "<init>"), (0, u "()V"), (0, .fieldref 8 9), (0, .class_ 10), (0, .nameAndType 11 12), (0, u "com/example/subsumer/subsumer/core/AtMost"), (0, u "property"), (0, u "Ljava/lang/String;"), (0, .fieldref 8 14), (0, .nameAndType 15 16), (0, u "number"), (0, u "I"), (12, u "(Ljava/lang/String;I)V")] 27

def k30c0 : Code := { maxStack := 2, maxLocals := 3, code := prog_2_method_1_code, exceptionTable := #[], attributes := #[] }
def k30m0 : Method := { name := "<init>", desc := "(Ljava/lang/String;I)V", sig := { parameters := [(.object "java/lang/String"), .int], returnType := none }, accessFlags := 1, code := some k30c0 }
/-- com/example/subsumer/subsumer/core/AtMost -/
def k30 : Class := { plain "com/example/subsumer/subsumer/core/AtMost" (some 24) with
  accessFlags := 49
  interfaces := #[]
  cf := some (fileOf pool30 8 #[] #[{ accessFlags := 1, nameIndex := 5, descriptorIndex := 29, attributes := #[] }] 49 2 #[] #[{ accessFlags := 18, nameIndex := 11, descriptorIndex := 12, attributes := #[] }, { accessFlags := 18, nameIndex := 15, descriptorIndex := 16, attributes := #[] }])
  fields := #[{ name := "property", type := (.object "java/lang/String"), accessFlags := 18, slot := 0, constantValue := 0 }, { name := "number", type := .int, accessFlags := 18, slot := 1, constantValue := 0 }]
  methods := #[k30m0]
  instanceTypes := #[(.object "java/lang/String"), .int]
  staticTypes := #[]
  resolved := Array.replicate 57 none
  statics := none }

def pool31 : Array CpInfo := pool [(2, .class_ 4), (1, u "java/lang/Object"), (0, u "<init>"), (0, u "()V"), (17, .class_ 26), (1, u "jdk/internal/util/Preconditions"), (28, .class_ 56), (0, u "jdk/internal/util/Preconditions$4"), (57, .class_ 115), (0, u "jdk/internal/util/Preconditions$1"), (7, u "SIOOBE_FORMATTER"), (0, u "Ljava/util/function/BiFunction;"), (0, .class_ 126), (0, u "jdk/internal/util/Preconditions$2"), (3, u "AIOOBE_FORMATTER"), (0, .class_ 132), (0, u "jdk/internal/util/Preconditions$3"), (3, u "IOOBE_FORMATTER")] 57

def k31m0 : Method := { name := "<init>", desc := "()V", sig := { parameters := [], returnType := none }, accessFlags := 1, code := none }
/-- jdk/internal/util/Preconditions -/
def k31 : Class := { plain "jdk/internal/util/Preconditions" (some 0) with
  accessFlags := 33
  interfaces := #[]
  cf := some (fileOf pool31 24 #[.nestMembers #[55, 131, 125, 114]] #[{ accessFlags := 1, nameIndex := 5, descriptorIndex := 6, attributes := #[] }] 33 2 #[] #[{ accessFlags := 25, nameIndex := 123, descriptorIndex := 124, attributes := #[] }, { accessFlags := 25, nameIndex := 130, descriptorIndex := 124, attributes := #[] }, { accessFlags := 25, nameIndex := 136, descriptorIndex := 124, attributes := #[] }])
  fields := #[{ name := "SIOOBE_FORMATTER", type := (.object "java/util/function/BiFunction"), accessFlags := 25, slot := 0, constantValue := 0 }, { name := "AIOOBE_FORMATTER", type := (.object "java/util/function/BiFunction"), accessFlags := 25, slot := 1, constantValue := 0 }, { name := "IOOBE_FORMATTER", type := (.object "java/util/function/BiFunction"), accessFlags := 25, slot := 2, constantValue := 0 }]
  methods := #[k31m0]
  instanceTypes := #[]
  staticTypes := #[(.object "java/util/function/BiFunction"), (.object "java/util/function/BiFunction"), (.object "java/util/function/BiFunction")]
  resolved := Array.replicate 194 none
  statics := some 4 }

def pool32 : Array CpInfo := pool [(9, u "<init>"), (6, .class_ 18), (1, u "java/lang/Object"), (0, u "()V"), (1, .class_ 23), (1, u "jdk/internal/util/ArraysSupport"), (0, u "LOG2_ARRAY_LONG_INDEX_SCALE"), (0, u "I"), (2, u "U"), (0, u "Ljdk/internal/misc/Unsafe;"), (8, u "BIG_ENDIAN"), (0, u "Z"), (8, u "LOG2_BYTE_BIT_SIZE"), (4, u "LOG2_ARRAY_INT_INDEX_SCALE"), (54, u "JLA"), (0, u "Ljdk/internal/access/JavaLangAccess;"), (11, u "LOG2_ARRAY_BOOLEAN_INDEX_SCALE"), (9, u "LOG2_ARRAY_BYTE_INDEX_SCALE"), (5, u "LOG2_ARRAY_CHAR_INDEX_SCALE"), (5, u "LOG2_ARRAY_SHORT_INDEX_SCALE"), (18, u "LOG2_ARRAY_FLOAT_INDEX_SCALE"), (24, u "LOG2_ARRAY_DOUBLE_INDEX_SCALE"), (89, u "T_BOOLEAN"), (2, u "T_CHAR"), (1, u "T_FLOAT"), (1, u "T_DOUBLE"), (1, u "T_BYTE"), (1, u "T_SHORT"), (1, u "T_INT"), (1, u "T_LONG"), (1, u "SOFT_MAX_ARRAY_LENGTH")] 83

def k32m0 : Method := { name := "<init>", desc := "()V", sig := { parameters := [], returnType := none }, accessFlags := 2, code := none }
/-- jdk/internal/util/ArraysSupport -/
def k32 : Class := { plain "jdk/internal/util/ArraysSupport" (some 0) with
  accessFlags := 33
  interfaces := #[]
  cf := some (fileOf pool32 21 #[] #[{ accessFlags := 2, nameIndex := 9, descriptorIndex := 19, attributes := #[] }] 33 16 #[] #[{ accessFlags := 24, nameIndex := 28, descriptorIndex := 29, attributes := #[] }, { accessFlags := 26, nameIndex := 38, descriptorIndex := 39, attributes := #[] }, { accessFlags := 25, nameIndex := 121, descriptorIndex := 25, attributes := #[] }, { accessFlags := 25, nameIndex := 131, descriptorIndex := 25, attributes := #[] }, { accessFlags := 25, nameIndex := 137, descriptorIndex := 25, attributes := #[] }, { accessFlags := 25, nameIndex := 143, descriptorIndex := 25, attributes := #[] }, { accessFlags := 25, nameIndex := 53, descriptorIndex := 25, attributes := #[] }, { accessFlags := 25, nameIndex := 24, descriptorIndex := 25, attributes := #[] }, { accessFlags := 25, nameIndex := 162, descriptorIndex := 25, attributes := #[] }, { accessFlags := 25, nameIndex := 187, descriptorIndex := 25, attributes := #[] }, { accessFlags := 26, nameIndex := 48, descriptorIndex := 25, attributes := #[] }, { accessFlags := 25, nameIndex := 277, descriptorIndex := 25, attributes := #[] }, { accessFlags := 25, nameIndex := 280, descriptorIndex := 25, attributes := #[] }, { accessFlags := 25, nameIndex := 282, descriptorIndex := 25, attributes := #[] }, { accessFlags := 25, nameIndex := 284, descriptorIndex := 25, attributes := #[] }, { accessFlags := 25, nameIndex := 286, descriptorIndex := 25, attributes := #[] }, { accessFlags := 25, nameIndex := 288, descriptorIndex := 25, attributes := #[] }, { accessFlags := 25, nameIndex := 290, descriptorIndex := 25, attributes := #[] }, { accessFlags := 25, nameIndex := 292, descriptorIndex := 25, attributes := #[] }, { accessFlags := 26, nameIndex := 108, descriptorIndex := 109, attributes := #[] }, { accessFlags := 25, nameIndex := 294, descriptorIndex := 25, attributes := #[] }])
  fields := #[{ name := "U", type := (.object "jdk/internal/misc/Unsafe"), accessFlags := 24, slot := 0, constantValue := 0 }, { name := "BIG_ENDIAN", type := .boolean, accessFlags := 26, slot := 1, constantValue := 0 }, { name := "LOG2_ARRAY_BOOLEAN_INDEX_SCALE", type := .int, accessFlags := 25, slot := 2, constantValue := 0 }, { name := "LOG2_ARRAY_BYTE_INDEX_SCALE", type := .int, accessFlags := 25, slot := 3, constantValue := 0 }, { name := "LOG2_ARRAY_CHAR_INDEX_SCALE", type := .int, accessFlags := 25, slot := 4, constantValue := 0 }, { name := "LOG2_ARRAY_SHORT_INDEX_SCALE", type := .int, accessFlags := 25, slot := 5, constantValue := 0 }, { name := "LOG2_ARRAY_INT_INDEX_SCALE", type := .int, accessFlags := 25, slot := 6, constantValue := 0 }, { name := "LOG2_ARRAY_LONG_INDEX_SCALE", type := .int, accessFlags := 25, slot := 7, constantValue := 0 }, { name := "LOG2_ARRAY_FLOAT_INDEX_SCALE", type := .int, accessFlags := 25, slot := 8, constantValue := 0 }, { name := "LOG2_ARRAY_DOUBLE_INDEX_SCALE", type := .int, accessFlags := 25, slot := 9, constantValue := 0 }, { name := "LOG2_BYTE_BIT_SIZE", type := .int, accessFlags := 26, slot := 10, constantValue := 0 }, { name := "T_BOOLEAN", type := .int, accessFlags := 25, slot := 11, constantValue := 0 }, { name := "T_CHAR", type := .int, accessFlags := 25, slot := 12, constantValue := 0 }, { name := "T_FLOAT", type := .int, accessFlags := 25, slot := 13, constantValue := 0 }, { name := "T_DOUBLE", type := .int, accessFlags := 25, slot := 14, constantValue := 0 }, { name := "T_BYTE", type := .int, accessFlags := 25, slot := 15, constantValue := 0 }, { name := "T_SHORT", type := .int, accessFlags := 25, slot := 16, constantValue := 0 }, { name := "T_INT", type := .int, accessFlags := 25, slot := 17, constantValue := 0 }, { name := "T_LONG", type := .int, accessFlags := 25, slot := 18, constantValue := 0 }, { name := "JLA", type := (.object "jdk/internal/access/JavaLangAccess"), accessFlags := 26, slot := 19, constantValue := 0 }, { name := "SOFT_MAX_ARRAY_LENGTH", type := .int, accessFlags := 25, slot := 20, constantValue := 0 }]
  methods := #[k32m0]
  instanceTypes := #[]
  staticTypes := #[(.object "jdk/internal/misc/Unsafe"), .boolean, .int, .int, .int, .int, .int, .int, .int, .int, .int, .int, .int, .int, .int, .int, .int, .int, .int, (.object "jdk/internal/access/JavaLangAccess"), .int]
  resolved := Array.replicate 378 none
  statics := none }

def pool33 : Array CpInfo := pool [(1, u "java/lang/Cloneable"), (0, .class_ 1), (0, u "java/lang/Object"), (0, .class_ 3)] 3

/-- java/lang/Cloneable -/
def k33 : Class := { plain "java/lang/Cloneable" (some 0) with
  accessFlags := 1537
  interfaces := #[]
  cf := some (fileOf pool33 2 #[] #[] 1537 4 #[] #[])
  fields := #[]
  methods := #[]
  instanceTypes := #[]
  staticTypes := #[]
  resolved := Array.replicate 8 none
  statics := none }

/-- the primitive byte -/
def k34 : Class := { plain "byte" none with kind := .primitive 'B', accessFlags := 0x411 }
/-- [B -/
def k35 : Class := { plain "[B" (some 0) with kind := .array 34 .byte, interfaces := #[33, 2], accessFlags := 1041 }

/-- the primitive int -/
def k36 : Class := { plain "int" none with kind := .primitive 'I', accessFlags := 0x411 }
/-- [I -/
def k37 : Class := { plain "[I" (some 0) with kind := .array 36 .int, interfaces := #[33, 2], accessFlags := 1041 }

/-- [Ljava/lang/Object; -/
def k38 : Class := { plain "[Ljava/lang/Object;" (some 0) with kind := .array 0 (.object "java/lang/Object"), interfaces := #[33, 2], accessFlags := 1041 }

/-- [Ljava/lang/String; -/
def k39 : Class := { plain "[Ljava/lang/String;" (some 0) with kind := .array 7 (.object "java/lang/String"), interfaces := #[33, 2], accessFlags := 1041 }

def heap : Heap := #[{ cls := 7, slots := #[.long 0, .int 1, .null, .int 0, .null, .int 0, .int 0], vm := .statics 7 },
  { cls := 9, slots := #[.ref 9, .ref 10], vm := .statics 9 },
  { cls := 10, slots := #[.ref 5, .ref 7], vm := .statics 10 },
  { cls := 15, slots := #[.long 0, .int 0, .null, .ref 11, .ref 8, .null, .null, .null, .int 0, .int 1], vm := .statics 15 },
  { cls := 31, slots := #[.null, .null, .null], vm := .statics 31 },
  { cls := 39, slots := #[], vm := .none },
  { cls := 38, slots := #[], vm := .none },
  { cls := 10, slots := #[.ref 5, .ref 5], vm := .none },
  { cls := 20, slots := #[.ref 6, .int 0], vm := .none },
  { cls := 9, slots := #[.ref 7, .ref 8, .ref 8, .ref 8, .ref 8, .int 0, .int 0], vm := .none },
  { cls := 9, slots := #[.ref 7, .ref 8, .ref 8, .ref 8, .ref 8, .int 0, .int 0], vm := .none },
  { cls := 0, slots := #[], vm := .none }]
def classes : Array Class := #[k0, k1, k2, k3, k4, k5, k6, k7, k8, k9, k10, k11, k12, k13, k14, k15, k16, k17, k18, k19, k20, k21, k22, k23, k24, k25, k26, k27, k28, k29, k30, k31, k32, k33, k34, k35, k36, k37, k38, k39]
def interned : List (Array UInt16 × Addr) := []
def slotsUsed : Nat := 42
def theMethod : MethodId := ⟨1, 1⟩
def args0 : Array Value := #[.int 5, .int 63, .int 65, .int 66]
def aboutOver (below : List Frame) : State where
  vm := { classes := classes, interned := interned.toArray }
  heap := heap
  slotsUsed := slotsUsed
  threads := #[{ frames := .invoking theMethod args0 :: below }]
def below0 : List Frame := [.native { method := ⟨0, 0⟩, args := #[] }]
def about1 : State := aboutOver below0
def p0 : Program := .bare "" "" ""
def e0 : Env := launch0.env 0 0 0
theorem w_frames : about1.frames = Frame.invoking theMethod args0 :: below0 := rfl
set_option maxRecDepth 65536 in
theorem w_args : argsFit about1.vm theMethod args0 = true := by decide +kernel
set_option maxRecDepth 65536 in
theorem w_heap : heapFits about1 = true := by decide +kernel
set_option maxRecDepth 65536 in
theorem w_runnable : about1.curStatus? = some .runnable := by decide +kernel
set_option maxRecDepth 65536 in
theorem w_alone : about1.alone = true := by decide +kernel
set_option maxRecDepth 65536 in
theorem w_named : about1.methodNamed? x = some theMethod := by decide +kernel
set_option maxRecDepth 65536 in
theorem w_hears : about1.hears theMethod below0 = true := by decide +kernel
set_option maxRecDepth 65536 in
theorem w_ripe : about1.ripe theMethod args0 below0 = true := by decide +kernel
theorem w_running : about1.status = .running := rfl
set_option maxRecDepth 65536 in
theorem w_room : about1.hasRoom e0.platform room_1 = true :=
  launch0.hasRoom_least _ room_1 (by decide +kernel) (by decide +kernel) (by decide +kernel) (by decide +kernel) (by decide +kernel) (by decide +kernel)
theorem allAtoms_all (ts : List Jvm.Cond) (a : Array Jvm.Value) (st : Jvm.State) : (allAtoms ts).before a st = ts.all (fun c => c.before a st) := by
  induction ts with
  | nil => rfl
  | cons c t ih =>
    show (Jvm.Cond.and c (allAtoms t)).before a st = _
    rw [Jvm.Cond.before_and, ih, List.all_cons]
def words1 : List Jvm.Cond := Jvm.Cond.code x code maxLocals ret :: tables_1
/-- a 'code' word, met by the world's own term for the bytes: nothing is compared byte by byte -/
theorem code_word {y : MethodName} {bytes : ByteArray} {mx : Nat} {rt : Option FieldType} {a : Array Value} {s : State} {m : MethodId} {meth : Method} {c : Code} (h1 : s.methodNamed? y = some m) (h2 : s.vm.method? m = some meth) (h3 : meth.code = some c) (h4 : c.code = bytes)
    (h5 : (c.maxLocals == mx && c.exceptionTable.isEmpty && decide (c.maxStack ≤ mostOperands) && decide (meth.sig.returnType = rt) && !meth.locks && decide (parseMethodDescriptor y.desc = some meth.sig)) = true) : (Jvm.Cond.code y bytes mx rt).before a s = true := by
  simp only [Bool.and_eq_true, beq_iff_eq, Bool.not_eq_true', decide_eq_true_eq] at h5
  obtain ⟨⟨⟨⟨⟨g1, g2⟩, g3⟩, g4⟩, g5⟩, g6⟩ := h5
  simp [Cond.before, Cond.holds, Cond.value, h1, h2, h3, h4, g1, g2, g3, g4, g5, g6]
def isCode : Jvm.Cond → Bool
  | .code _ _ _ _ => true
  | _ => false
theorem all_split {L : List Jvm.Cond} {P : Jvm.Cond → Bool} (h1 : L.all (fun c => isCode c || P c) = true) (h2 : ∀ c ∈ L.filter isCode, P c = true) : L.all P = true := by
  refine List.all_eq_true.mpr fun c hc => ?_
  have h := List.all_eq_true.mp h1 c hc
  rcases Bool.eq_false_or_eq_true (isCode c) with hi | hi
  · exact h2 c (List.mem_filter.mpr ⟨hc, hi⟩)
  · simpa [hi] using h
set_option maxRecDepth 65536 in
theorem w_c0 : (Jvm.Cond.code x code maxLocals ret).before args0 about1 = true := code_word (m := ⟨1, 1⟩) (meth := k1m1) (c := k1c1) (by decide +kernel) rfl rfl rfl (by decide +kernel)
set_option maxRecDepth 65536 in
theorem w_c1 : (Jvm.Cond.code ({ cls := "java/lang/String", name := "valueOf", desc := "(C)Ljava/lang/String;" } : Jvm.MethodName) jdk_42_method_139_code (1 : Nat) (Option.some (Jvm.ClassFile.FieldType.object "java/lang/String"))).before args0 about1 = true := code_word (m := ⟨7, 1⟩) (meth := k7m1) (c := k7c1) (by decide +kernel) rfl rfl rfl (by decide +kernel)
set_option maxRecDepth 65536 in
theorem w_c2 : (Jvm.Cond.code ({ cls := "java/lang/StringLatin1", name := "canEncode", desc := "(C)Z" } : Jvm.MethodName) jdk_43_method_3_code (1 : Nat) (Option.some Jvm.ClassFile.FieldType.boolean)).before args0 about1 = true := code_word (m := ⟨8, 1⟩) (meth := k8m1) (c := k8c1) (by decide +kernel) rfl rfl rfl (by decide +kernel)
set_option maxRecDepth 65536 in
theorem w_c3 : (Jvm.Cond.code ({ cls := "java/lang/StringLatin1", name := "toBytes", desc := "(C)[B" } : Jvm.MethodName) jdk_43_method_46_code (1 : Nat) (Option.some (Jvm.ClassFile.FieldType.array Jvm.ClassFile.FieldType.byte))).before args0 about1 = true := code_word (m := ⟨8, 2⟩) (meth := k8m2) (c := k8c2) (by decide +kernel) rfl rfl rfl (by decide +kernel)
set_option maxRecDepth 65536 in
theorem w_c4 : (Jvm.Cond.code ({ cls := "java/lang/String", name := "<init>", desc := "([BB)V" } : Jvm.MethodName) jdk_42_method_151_code (3 : Nat) (Option.none : Option Jvm.ClassFile.FieldType)).before args0 about1 = true := code_word (m := ⟨7, 2⟩) (meth := k7m2) (c := k7c2) (by decide +kernel) rfl rfl rfl (by decide +kernel)
set_option maxRecDepth 65536 in
theorem w_c5 : (Jvm.Cond.code ({ cls := "java/lang/Object", name := "<init>", desc := "()V" } : Jvm.MethodName) object_method_1_code (1 : Nat) (Option.none : Option Jvm.ClassFile.FieldType)).before args0 about1 = true := code_word (m := ⟨0, 0⟩) (meth := k0m0) (c := k0c0) (by decide +kernel) rfl rfl rfl (by decide +kernel)
set_option maxRecDepth 65536 in
theorem w_c6 : (Jvm.Cond.code ({ cls := "com/example/subsumer/subsumer/core/Description", name := "top", desc := "()Lcom/example/subsumer/subsumer/core/Description;" } : Jvm.MethodName) prog_3_method_3_code (0 : Nat) (Option.some (Jvm.ClassFile.FieldType.object "com/example/subsumer/subsumer/core/Description"))).before args0 about1 = true := code_word (m := ⟨9, 2⟩) (meth := k9m2) (c := k9c2) (by decide +kernel) rfl rfl rfl (by decide +kernel)
set_option maxRecDepth 65536 in
theorem w_c7 : (Jvm.Cond.code ({ cls := "com/example/subsumer/subsumer/core/Description", name := "name", desc := "(Ljava/lang/String;)Lcom/example/subsumer/subsumer/core/Description;" } : Jvm.MethodName) prog_3_method_5_code (1 : Nat) (Option.some (Jvm.ClassFile.FieldType.object "com/example/subsumer/subsumer/core/Description"))).before args0 about1 = true := code_word (m := ⟨9, 4⟩) (meth := k9m4) (c := k9c4) (by decide +kernel) rfl rfl rfl (by decide +kernel)
set_option maxRecDepth 65536 in
theorem w_c8 : (Jvm.Cond.code ({ cls := "com/example/subsumer/subsumer/core/Label", name := "<init>", desc := "([Ljava/lang/String;[Ljava/lang/String;)V" } : Jvm.MethodName) prog_14_method_1_code (3 : Nat) (Option.none : Option Jvm.ClassFile.FieldType)).before args0 about1 = true := code_word (m := ⟨10, 0⟩) (meth := k10m0) (c := k10c0) (by decide +kernel) rfl rfl rfl (by decide +kernel)
set_option maxRecDepth 65536 in
theorem w_c9 : (Jvm.Cond.code ({ cls := "java/util/List", name := "of", desc := "()Ljava/util/List;" } : Jvm.MethodName) jdk_40_method_36_code (0 : Nat) (Option.some (Jvm.ClassFile.FieldType.object "java/util/List"))).before args0 about1 = true := code_word (m := ⟨14, 3⟩) (meth := k14m3) (c := k14c3) (by decide +kernel) rfl rfl rfl (by decide +kernel)
set_option maxRecDepth 65536 in
theorem w_c10 : (Jvm.Cond.code ({ cls := "com/example/subsumer/subsumer/core/Description", name := "<init>", desc := "(Lcom/example/subsumer/subsumer/core/Label;Ljava/util/List;Ljava/util/List;)V" } : Jvm.MethodName) prog_3_method_1_code (4 : Nat) (Option.none : Option Jvm.ClassFile.FieldType)).before args0 about1 = true := code_word (m := ⟨9, 0⟩) (meth := k9m0) (c := k9c0) (by decide +kernel) rfl rfl rfl (by decide +kernel)
set_option maxRecDepth 65536 in
theorem w_c11 : (Jvm.Cond.code ({ cls := "com/example/subsumer/subsumer/core/Description", name := "<init>", desc := "(Lcom/example/subsumer/subsumer/core/Label;Ljava/util/List;Ljava/util/List;Ljava/util/List;Ljava/util/List;)V" } : Jvm.MethodName) prog_3_method_2_code (10 : Nat) (Option.none : Option Jvm.ClassFile.FieldType)).before args0 about1 = true := code_word (m := ⟨9, 1⟩) (meth := k9m1) (c := k9c1) (by decide +kernel) rfl rfl rfl (by decide +kernel)
set_option maxRecDepth 65536 in
theorem w_c12 : (Jvm.Cond.code ({ cls := "java/util/ImmutableCollections$ListN", name := "isEmpty", desc := "()Z" } : Jvm.MethodName) jdk_45_method_2_code (1 : Nat) (Option.some Jvm.ClassFile.FieldType.boolean)).before args0 about1 = true := code_word (m := ⟨20, 0⟩) (meth := k20m0) (c := k20c0) (by decide +kernel) rfl rfl rfl (by decide +kernel)
set_option maxRecDepth 65536 in
theorem w_c13 : (Jvm.Cond.code ({ cls := "java/util/ImmutableCollections$AbstractImmutableList", name := "iterator", desc := "()Ljava/util/Iterator;" } : Jvm.MethodName) jdk_46_method_10_code (1 : Nat) (Option.some (Jvm.ClassFile.FieldType.object "java/util/Iterator"))).before args0 about1 = true := code_word (m := ⟨19, 1⟩) (meth := k19m1) (c := k19c1) (by decide +kernel) rfl rfl rfl (by decide +kernel)
set_option maxRecDepth 65536 in
theorem w_c14 : (Jvm.Cond.code ({ cls := "java/util/ImmutableCollections$ListN", name := "size", desc := "()I" } : Jvm.MethodName) jdk_45_method_3_code (1 : Nat) (Option.some Jvm.ClassFile.FieldType.int)).before args0 about1 = true := code_word (m := ⟨20, 1⟩) (meth := k20m1) (c := k20c1) (by decide +kernel) rfl rfl rfl (by decide +kernel)
set_option maxRecDepth 65536 in
theorem w_c15 : (Jvm.Cond.code ({ cls := "java/util/ImmutableCollections$ListItr", name := "<init>", desc := "(Ljava/util/List;I)V" } : Jvm.MethodName) jdk_53_method_1_code (3 : Nat) (Option.none : Option Jvm.ClassFile.FieldType)).before args0 about1 = true := code_word (m := ⟨23, 0⟩) (meth := k23m0) (c := k23c0) (by decide +kernel) rfl rfl rfl (by decide +kernel)
set_option maxRecDepth 65536 in
theorem w_c16 : (Jvm.Cond.code ({ cls := "java/util/ImmutableCollections$ListItr", name := "hasNext", desc := "()Z" } : Jvm.MethodName) jdk_53_method_3_code (1 : Nat) (Option.some Jvm.ClassFile.FieldType.boolean)).before args0 about1 = true := code_word (m := ⟨23, 1⟩) (meth := k23m1) (c := k23c1) (by decide +kernel) rfl rfl rfl (by decide +kernel)
set_option maxRecDepth 65536 in
theorem w_c17 : (Jvm.Cond.code ({ cls := "com/example/subsumer/subsumer/core/Description", name := "existentials", desc := "()Ljava/util/List;" } : Jvm.MethodName) prog_3_method_15_code (1 : Nat) (Option.some (Jvm.ClassFile.FieldType.object "java/util/List"))).before args0 about1 = true := code_word (m := ⟨9, 10⟩) (meth := k9m10) (c := k9c10) (by decide +kernel) rfl rfl rfl (by decide +kernel)
set_option maxRecDepth 65536 in
theorem w_c18 : (Jvm.Cond.code ({ cls := "com/example/subsumer/subsumer/core/Description", name := "universals", desc := "()Ljava/util/List;" } : Jvm.MethodName) prog_3_method_16_code (1 : Nat) (Option.some (Jvm.ClassFile.FieldType.object "java/util/List"))).before args0 about1 = true := code_word (m := ⟨9, 11⟩) (meth := k9m11) (c := k9c11) (by decide +kernel) rfl rfl rfl (by decide +kernel)
set_option maxRecDepth 65536 in
theorem w_c19 : (Jvm.Cond.code ({ cls := "com/example/subsumer/subsumer/core/Description", name := "atLeast", desc := "()Ljava/util/List;" } : Jvm.MethodName) prog_3_method_17_code (1 : Nat) (Option.some (Jvm.ClassFile.FieldType.object "java/util/List"))).before args0 about1 = true := code_word (m := ⟨9, 12⟩) (meth := k9m12) (c := k9c12) (by decide +kernel) rfl rfl rfl (by decide +kernel)
set_option maxRecDepth 65536 in
theorem w_c20 : (Jvm.Cond.code ({ cls := "com/example/subsumer/subsumer/core/Description", name := "atMost", desc := "()Ljava/util/List;" } : Jvm.MethodName) prog_3_method_18_code (1 : Nat) (Option.some (Jvm.ClassFile.FieldType.object "java/util/List"))).before args0 about1 = true := code_word (m := ⟨9, 13⟩) (meth := k9m13) (c := k9c13) (by decide +kernel) rfl rfl rfl (by decide +kernel)
set_option maxRecDepth 65536 in
theorem w_c21 : (Jvm.Cond.code ({ cls := "com/example/subsumer/subsumer/core/Description", name := "isTop", desc := "()Z" } : Jvm.MethodName) prog_3_method_20_code (1 : Nat) (Option.some Jvm.ClassFile.FieldType.boolean)).before args0 about1 = true := code_word (m := ⟨9, 14⟩) (meth := k9m14) (c := k9c14) (by decide +kernel) rfl rfl rfl (by decide +kernel)
set_option maxRecDepth 65536 in
theorem w_c22 : (Jvm.Cond.code ({ cls := "com/example/subsumer/subsumer/core/Label", name := "isEmpty", desc := "()Z" } : Jvm.MethodName) prog_14_method_5_code (1 : Nat) (Option.some Jvm.ClassFile.FieldType.boolean)).before args0 about1 = true := code_word (m := ⟨10, 1⟩) (meth := k10m1) (c := k10c1) (by decide +kernel) rfl rfl rfl (by decide +kernel)
set_option maxRecDepth 65536 in
theorem w_c23 : (Jvm.Cond.code ({ cls := "com/example/subsumer/subsumer/core/Description", name := "some", desc := "(Ljava/lang/String;Lcom/example/subsumer/subsumer/core/Description;)Lcom/example/subsumer/subsumer/core/Description;" } : Jvm.MethodName) prog_3_method_7_code (2 : Nat) (Option.some (Jvm.ClassFile.FieldType.object "com/example/subsumer/subsumer/core/Description"))).before args0 about1 = true := code_word (m := ⟨9, 5⟩) (meth := k9m5) (c := k9c5) (by decide +kernel) rfl rfl rfl (by decide +kernel)
set_option maxRecDepth 65536 in
theorem w_c24 : (Jvm.Cond.code ({ cls := "com/example/subsumer/subsumer/core/Description", name := "isBottom", desc := "()Z" } : Jvm.MethodName) prog_3_method_21_code (1 : Nat) (Option.some Jvm.ClassFile.FieldType.boolean)).before args0 about1 = true := code_word (m := ⟨9, 15⟩) (meth := k9m15) (c := k9c15) (by decide +kernel) rfl rfl rfl (by decide +kernel)
set_option maxRecDepth 65536 in
theorem w_c25 : (Jvm.Cond.code ({ cls := "com/example/subsumer/subsumer/core/Existential", name := "<init>", desc := "(Ljava/lang/String;Lcom/example/subsumer/subsumer/core/Description;)V" } : Jvm.MethodName) prog_12_method_1_code (3 : Nat) (Option.none : Option Jvm.ClassFile.FieldType)).before args0 about1 = true := code_word (m := ⟨25, 0⟩) (meth := k25m0) (c := k25c0) (by decide +kernel) rfl rfl rfl (by decide +kernel)
set_option maxRecDepth 65536 in
theorem w_c26 : (Jvm.Cond.code ({ cls := "java/lang/Record", name := "<init>", desc := "()V" } : Jvm.MethodName) jdk_30_method_1_code (1 : Nat) (Option.none : Option Jvm.ClassFile.FieldType)).before args0 about1 = true := code_word (m := ⟨24, 0⟩) (meth := k24m0) (c := k24c0) (by decide +kernel) rfl rfl rfl (by decide +kernel)
set_option maxRecDepth 65536 in
theorem w_c27 : (Jvm.Cond.code ({ cls := "java/util/List", name := "of", desc := "(Ljava/lang/Object;)Ljava/util/List;" } : Jvm.MethodName) jdk_40_method_37_code (1 : Nat) (Option.some (Jvm.ClassFile.FieldType.object "java/util/List"))).before args0 about1 = true := code_word (m := ⟨14, 4⟩) (meth := k14m4) (c := k14c4) (by decide +kernel) rfl rfl rfl (by decide +kernel)
set_option maxRecDepth 65536 in
theorem w_c28 : (Jvm.Cond.code ({ cls := "java/util/ImmutableCollections$List12", name := "<init>", desc := "(Ljava/lang/Object;)V" } : Jvm.MethodName) jdk_44_method_1_code (2 : Nat) (Option.none : Option Jvm.ClassFile.FieldType)).before args0 about1 = true := code_word (m := ⟨26, 0⟩) (meth := k26m0) (c := k26c0) (by decide +kernel) rfl rfl rfl (by decide +kernel)
set_option maxRecDepth 65536 in
theorem w_c29 : (Jvm.Cond.code ({ cls := "java/util/ImmutableCollections$AbstractImmutableList", name := "<init>", desc := "()V" } : Jvm.MethodName) jdk_46_method_1_code (1 : Nat) (Option.none : Option Jvm.ClassFile.FieldType)).before args0 about1 = true := code_word (m := ⟨19, 0⟩) (meth := k19m0) (c := k19c0) (by decide +kernel) rfl rfl rfl (by decide +kernel)
set_option maxRecDepth 65536 in
theorem w_c30 : (Jvm.Cond.code ({ cls := "java/util/ImmutableCollections$AbstractImmutableCollection", name := "<init>", desc := "()V" } : Jvm.MethodName) jdk_47_method_1_code (1 : Nat) (Option.none : Option Jvm.ClassFile.FieldType)).before args0 about1 = true := code_word (m := ⟨17, 0⟩) (meth := k17m0) (c := k17c0) (by decide +kernel) rfl rfl rfl (by decide +kernel)
set_option maxRecDepth 65536 in
theorem w_c31 : (Jvm.Cond.code ({ cls := "java/util/AbstractCollection", name := "<init>", desc := "()V" } : Jvm.MethodName) jdk_22_method_1_code (1 : Nat) (Option.none : Option Jvm.ClassFile.FieldType)).before args0 about1 = true := code_word (m := ⟨16, 0⟩) (meth := k16m0) (c := k16c0) (by decide +kernel) rfl rfl rfl (by decide +kernel)
set_option maxRecDepth 65536 in
theorem w_c32 : (Jvm.Cond.code ({ cls := "java/util/Objects", name := "requireNonNull", desc := "(Ljava/lang/Object;)Ljava/lang/Object;" } : Jvm.MethodName) jdk_31_method_10_code (1 : Nat) (Option.some (Jvm.ClassFile.FieldType.object "java/lang/Object"))).before args0 about1 = true := code_word (m := ⟨27, 1⟩) (meth := k27m1) (c := k27c1) (by decide +kernel) rfl rfl rfl (by decide +kernel)
set_option maxRecDepth 65536 in
theorem w_c33 : (Jvm.Cond.code ({ cls := "java/util/ImmutableCollections$List12", name := "isEmpty", desc := "()Z" } : Jvm.MethodName) jdk_44_method_4_code (1 : Nat) (Option.some Jvm.ClassFile.FieldType.boolean)).before args0 about1 = true := code_word (m := ⟨26, 2⟩) (meth := k26m2) (c := k26c2) (by decide +kernel) rfl rfl rfl (by decide +kernel)
set_option maxRecDepth 65536 in
theorem w_c34 : (Jvm.Cond.code ({ cls := "java/util/ImmutableCollections$List12", name := "size", desc := "()I" } : Jvm.MethodName) jdk_44_method_3_code (1 : Nat) (Option.some Jvm.ClassFile.FieldType.int)).before args0 about1 = true := code_word (m := ⟨26, 1⟩) (meth := k26m1) (c := k26c1) (by decide +kernel) rfl rfl rfl (by decide +kernel)
set_option maxRecDepth 65536 in
theorem w_c35 : (Jvm.Cond.code ({ cls := "java/util/ImmutableCollections$List12", name := "get", desc := "(I)Ljava/lang/Object;" } : Jvm.MethodName) jdk_44_method_5_code (2 : Nat) (Option.some (Jvm.ClassFile.FieldType.object "java/lang/Object"))).before args0 about1 = true := code_word (m := ⟨26, 3⟩) (meth := k26m3) (c := k26c3) (by decide +kernel) rfl rfl rfl (by decide +kernel)
set_option maxRecDepth 65536 in
theorem w_c36 : (Jvm.Cond.code ({ cls := "com/example/subsumer/subsumer/core/Existential", name := "filler", desc := "()Lcom/example/subsumer/subsumer/core/Description;" } : Jvm.MethodName) prog_12_method_6_code (1 : Nat) (Option.some (Jvm.ClassFile.FieldType.object "com/example/subsumer/subsumer/core/Description"))).before args0 about1 = true := code_word (m := ⟨25, 1⟩) (meth := k25m1) (c := k25c1) (by decide +kernel) rfl rfl rfl (by decide +kernel)
set_option maxRecDepth 65536 in
theorem w_c37 : (Jvm.Cond.code ({ cls := "com/example/subsumer/subsumer/core/Description", name := "only", desc := "(Ljava/lang/String;Lcom/example/subsumer/subsumer/core/Description;)Lcom/example/subsumer/subsumer/core/Description;" } : Jvm.MethodName) prog_3_method_8_code (2 : Nat) (Option.some (Jvm.ClassFile.FieldType.object "com/example/subsumer/subsumer/core/Description"))).before args0 about1 = true := code_word (m := ⟨9, 6⟩) (meth := k9m6) (c := k9c6) (by decide +kernel) rfl rfl rfl (by decide +kernel)
set_option maxRecDepth 65536 in
theorem w_c38 : (Jvm.Cond.code ({ cls := "com/example/subsumer/subsumer/core/Universal", name := "<init>", desc := "(Ljava/lang/String;Lcom/example/subsumer/subsumer/core/Description;)V" } : Jvm.MethodName) prog_34_method_1_code (3 : Nat) (Option.none : Option Jvm.ClassFile.FieldType)).before args0 about1 = true := code_word (m := ⟨28, 0⟩) (meth := k28m0) (c := k28c0) (by decide +kernel) rfl rfl rfl (by decide +kernel)
set_option maxRecDepth 65536 in
theorem w_c39 : (Jvm.Cond.code ({ cls := "com/example/subsumer/subsumer/core/Universal", name := "filler", desc := "()Lcom/example/subsumer/subsumer/core/Description;" } : Jvm.MethodName) prog_34_method_6_code (1 : Nat) (Option.some (Jvm.ClassFile.FieldType.object "com/example/subsumer/subsumer/core/Description"))).before args0 about1 = true := code_word (m := ⟨28, 1⟩) (meth := k28m1) (c := k28c1) (by decide +kernel) rfl rfl rfl (by decide +kernel)
set_option maxRecDepth 65536 in
theorem w_c40 : (Jvm.Cond.code ({ cls := "com/example/subsumer/subsumer/core/Description", name := "bottom", desc := "()Lcom/example/subsumer/subsumer/core/Description;" } : Jvm.MethodName) prog_3_method_4_code (0 : Nat) (Option.some (Jvm.ClassFile.FieldType.object "com/example/subsumer/subsumer/core/Description"))).before args0 about1 = true := code_word (m := ⟨9, 3⟩) (meth := k9m3) (c := k9c3) (by decide +kernel) rfl rfl rfl (by decide +kernel)
set_option maxRecDepth 65536 in
theorem w_c41 : (Jvm.Cond.code ({ cls := "com/example/subsumer/subsumer/core/Description", name := "min", desc := "(Ljava/lang/String;I)Lcom/example/subsumer/subsumer/core/Description;" } : Jvm.MethodName) prog_3_method_9_code (2 : Nat) (Option.some (Jvm.ClassFile.FieldType.object "com/example/subsumer/subsumer/core/Description"))).before args0 about1 = true := code_word (m := ⟨9, 7⟩) (meth := k9m7) (c := k9c7) (by decide +kernel) rfl rfl rfl (by decide +kernel)
set_option maxRecDepth 65536 in
theorem w_c42 : (Jvm.Cond.code ({ cls := "com/example/subsumer/subsumer/core/Description", name := "requireCount", desc := "(I)V" } : Jvm.MethodName) prog_3_method_11_code (1 : Nat) (Option.none : Option Jvm.ClassFile.FieldType)).before args0 about1 = true := code_word (m := ⟨9, 9⟩) (meth := k9m9) (c := k9c9) (by decide +kernel) rfl rfl rfl (by decide +kernel)
set_option maxRecDepth 65536 in
theorem w_c43 : (Jvm.Cond.code ({ cls := "com/example/subsumer/subsumer/core/AtLeast", name := "<init>", desc := "(Ljava/lang/String;I)V" } : Jvm.MethodName) prog_1_method_1_code (3 : Nat) (Option.none : Option Jvm.ClassFile.FieldType)).before args0 about1 = true := code_word (m := ⟨29, 0⟩) (meth := k29m0) (c := k29c0) (by decide +kernel) rfl rfl rfl (by decide +kernel)
set_option maxRecDepth 65536 in
theorem w_c44 : (Jvm.Cond.code ({ cls := "com/example/subsumer/subsumer/core/Description", name := "max", desc := "(Ljava/lang/String;I)Lcom/example/subsumer/subsumer/core/Description;" } : Jvm.MethodName) prog_3_method_10_code (2 : Nat) (Option.some (Jvm.ClassFile.FieldType.object "com/example/subsumer/subsumer/core/Description"))).before args0 about1 = true := code_word (m := ⟨9, 8⟩) (meth := k9m8) (c := k9c8) (by decide +kernel) rfl rfl rfl (by decide +kernel)
set_option maxRecDepth 65536 in
theorem w_c45 : (Jvm.Cond.code ({ cls := "com/example/subsumer/subsumer/core/AtMost", name := "<init>", desc := "(Ljava/lang/String;I)V" } : Jvm.MethodName) prog_2_method_1_code (3 : Nat) (Option.none : Option Jvm.ClassFile.FieldType)).before args0 about1 = true := code_word (m := ⟨30, 0⟩) (meth := k30m0) (c := k30c0) (by decide +kernel) rfl rfl rfl (by decide +kernel)
def codes1 : List Jvm.Cond := [Jvm.Cond.code x code maxLocals ret, Jvm.Cond.code ({ cls := "java/lang/String", name := "valueOf", desc := "(C)Ljava/lang/String;" } : Jvm.MethodName) jdk_42_method_139_code (1 : Nat) (Option.some (Jvm.ClassFile.FieldType.object "java/lang/String")), Jvm.Cond.code ({ cls := "java/lang/StringLatin1", name := "canEncode", desc := "(C)Z" } : Jvm.MethodName) jdk_43_method_3_code (1 : Nat) (Option.some Jvm.ClassFile.FieldType.boolean), Jvm.Cond.code ({ cls := "java/lang/StringLatin1", name := "toBytes", desc := "(C)[B" } : Jvm.MethodName) jdk_43_method_46_code (1 : Nat) (Option.some (Jvm.ClassFile.FieldType.array Jvm.ClassFile.FieldType.byte)), Jvm.Cond.code ({ cls := "java/lang/String", name := "<init>", desc := "([BB)V" } : Jvm.MethodName) jdk_42_method_151_code (3 : Nat) (Option.none : Option Jvm.ClassFile.FieldType), Jvm.Cond.code ({ cls := "java/lang/Object", name := "<init>", desc := "()V" } : Jvm.MethodName) object_method_1_code (1 : Nat) (Option.none : Option Jvm.ClassFile.FieldType), Jvm.Cond.code ({ cls := "com/example/subsumer/subsumer/core/Description", name := "top", desc := "()Lcom/example/subsumer/subsumer/core/Description;" } : Jvm.MethodName) prog_3_method_3_code (0 : Nat) (Option.some (Jvm.ClassFile.FieldType.object "com/example/subsumer/subsumer/core/Description")), Jvm.Cond.code ({ cls := "com/example/subsumer/subsumer/core/Description", name := "name", desc := "(Ljava/lang/String;)Lcom/example/subsumer/subsumer/core/Description;" } : Jvm.MethodName) prog_3_method_5_code (1 : Nat) (Option.some (Jvm.ClassFile.FieldType.object "com/example/subsumer/subsumer/core/Description")), Jvm.Cond.code ({ cls := "com/example/subsumer/subsumer/core/Label", name := "<init>", desc := "([Ljava/lang/String;[Ljava/lang/String;)V" } : Jvm.MethodName) prog_14_method_1_code (3 : Nat) (Option.none : Option Jvm.ClassFile.FieldType), Jvm.Cond.code ({ cls := "java/util/List", name := "of", desc := "()Ljava/util/List;" } : Jvm.MethodName) jdk_40_method_36_code (0 : Nat) (Option.some (Jvm.ClassFile.FieldType.object "java/util/List")), Jvm.Cond.code ({ cls := "com/example/subsumer/subsumer/core/Description", name := "<init>", desc := "(Lcom/example/subsumer/subsumer/core/Label;Ljava/util/List;Ljava/util/List;)V" } : Jvm.MethodName) prog_3_method_1_code (4 : Nat) (Option.none : Option Jvm.ClassFile.FieldType), Jvm.Cond.code ({ cls := "com/example/subsumer/subsumer/core/Description", name := "<init>", desc := "(Lcom/example/subsumer/subsumer/core/Label;Ljava/util/List;Ljava/util/List;Ljava/util/List;Ljava/util/List;)V" } : Jvm.MethodName) prog_3_method_2_code (10 : Nat) (Option.none : Option Jvm.ClassFile.FieldType), Jvm.Cond.code ({ cls := "java/util/ImmutableCollections$ListN", name := "isEmpty", desc := "()Z" } : Jvm.MethodName) jdk_45_method_2_code (1 : Nat) (Option.some Jvm.ClassFile.FieldType.boolean), Jvm.Cond.code ({ cls := "java/util/ImmutableCollections$AbstractImmutableList", name := "iterator", desc := "()Ljava/util/Iterator;" } : Jvm.MethodName) jdk_46_method_10_code (1 : Nat) (Option.some (Jvm.ClassFile.FieldType.object "java/util/Iterator")), Jvm.Cond.code ({ cls := "java/util/ImmutableCollections$ListN", name := "size", desc := "()I" } : Jvm.MethodName) jdk_45_method_3_code (1 : Nat) (Option.some Jvm.ClassFile.FieldType.int), Jvm.Cond.code ({ cls := "java/util/ImmutableCollections$ListItr", name := "<init>", desc := "(Ljava/util/List;I)V" } : Jvm.MethodName) jdk_53_method_1_code (3 : Nat) (Option.none : Option Jvm.ClassFile.FieldType), Jvm.Cond.code ({ cls := "java/util/ImmutableCollections$ListItr", name := "hasNext", desc := "()Z" } : Jvm.MethodName) jdk_53_method_3_code (1 : Nat) (Option.some Jvm.ClassFile.FieldType.boolean), Jvm.Cond.code ({ cls := "com/example/subsumer/subsumer/core/Description", name := "existentials", desc := "()Ljava/util/List;" } : Jvm.MethodName) prog_3_method_15_code (1 : Nat) (Option.some (Jvm.ClassFile.FieldType.object "java/util/List")), Jvm.Cond.code ({ cls := "com/example/subsumer/subsumer/core/Description", name := "universals", desc := "()Ljava/util/List;" } : Jvm.MethodName) prog_3_method_16_code (1 : Nat) (Option.some (Jvm.ClassFile.FieldType.object "java/util/List")), Jvm.Cond.code ({ cls := "com/example/subsumer/subsumer/core/Description", name := "atLeast", desc := "()Ljava/util/List;" } : Jvm.MethodName) prog_3_method_17_code (1 : Nat) (Option.some (Jvm.ClassFile.FieldType.object "java/util/List")), Jvm.Cond.code ({ cls := "com/example/subsumer/subsumer/core/Description", name := "atMost", desc := "()Ljava/util/List;" } : Jvm.MethodName) prog_3_method_18_code (1 : Nat) (Option.some (Jvm.ClassFile.FieldType.object "java/util/List")), Jvm.Cond.code ({ cls := "com/example/subsumer/subsumer/core/Description", name := "isTop", desc := "()Z" } : Jvm.MethodName) prog_3_method_20_code (1 : Nat) (Option.some Jvm.ClassFile.FieldType.boolean), Jvm.Cond.code ({ cls := "com/example/subsumer/subsumer/core/Label", name := "isEmpty", desc := "()Z" } : Jvm.MethodName) prog_14_method_5_code (1 : Nat) (Option.some Jvm.ClassFile.FieldType.boolean), Jvm.Cond.code ({ cls := "com/example/subsumer/subsumer/core/Description", name := "some", desc := "(Ljava/lang/String;Lcom/example/subsumer/subsumer/core/Description;)Lcom/example/subsumer/subsumer/core/Description;" } : Jvm.MethodName) prog_3_method_7_code (2 : Nat) (Option.some (Jvm.ClassFile.FieldType.object "com/example/subsumer/subsumer/core/Description")), Jvm.Cond.code ({ cls := "com/example/subsumer/subsumer/core/Description", name := "isBottom", desc := "()Z" } : Jvm.MethodName) prog_3_method_21_code (1 : Nat) (Option.some Jvm.ClassFile.FieldType.boolean), Jvm.Cond.code ({ cls := "com/example/subsumer/subsumer/core/Existential", name := "<init>", desc := "(Ljava/lang/String;Lcom/example/subsumer/subsumer/core/Description;)V" } : Jvm.MethodName) prog_12_method_1_code (3 : Nat) (Option.none : Option Jvm.ClassFile.FieldType), Jvm.Cond.code ({ cls := "java/lang/Record", name := "<init>", desc := "()V" } : Jvm.MethodName) jdk_30_method_1_code (1 : Nat) (Option.none : Option Jvm.ClassFile.FieldType), Jvm.Cond.code ({ cls := "java/util/List", name := "of", desc := "(Ljava/lang/Object;)Ljava/util/List;" } : Jvm.MethodName) jdk_40_method_37_code (1 : Nat) (Option.some (Jvm.ClassFile.FieldType.object "java/util/List")), Jvm.Cond.code ({ cls := "java/util/ImmutableCollections$List12", name := "<init>", desc := "(Ljava/lang/Object;)V" } : Jvm.MethodName) jdk_44_method_1_code (2 : Nat) (Option.none : Option Jvm.ClassFile.FieldType), Jvm.Cond.code ({ cls := "java/util/ImmutableCollections$AbstractImmutableList", name := "<init>", desc := "()V" } : Jvm.MethodName) jdk_46_method_1_code (1 : Nat) (Option.none : Option Jvm.ClassFile.FieldType), Jvm.Cond.code ({ cls := "java/util/ImmutableCollections$AbstractImmutableCollection", name := "<init>", desc := "()V" } : Jvm.MethodName) jdk_47_method_1_code (1 : Nat) (Option.none : Option Jvm.ClassFile.FieldType), Jvm.Cond.code ({ cls := "java/util/AbstractCollection", name := "<init>", desc := "()V" } : Jvm.MethodName) jdk_22_method_1_code (1 : Nat) (Option.none : Option Jvm.ClassFile.FieldType), Jvm.Cond.code ({ cls := "java/util/Objects", name := "requireNonNull", desc := "(Ljava/lang/Object;)Ljava/lang/Object;" } : Jvm.MethodName) jdk_31_method_10_code (1 : Nat) (Option.some (Jvm.ClassFile.FieldType.object "java/lang/Object")), Jvm.Cond.code ({ cls := "java/util/ImmutableCollections$List12", name := "isEmpty", desc := "()Z" } : Jvm.MethodName) jdk_44_method_4_code (1 : Nat) (Option.some Jvm.ClassFile.FieldType.boolean), Jvm.Cond.code ({ cls := "java/util/ImmutableCollections$List12", name := "size", desc := "()I" } : Jvm.MethodName) jdk_44_method_3_code (1 : Nat) (Option.some Jvm.ClassFile.FieldType.int), Jvm.Cond.code ({ cls := "java/util/ImmutableCollections$List12", name := "get", desc := "(I)Ljava/lang/Object;" } : Jvm.MethodName) jdk_44_method_5_code (2 : Nat) (Option.some (Jvm.ClassFile.FieldType.object "java/lang/Object")), Jvm.Cond.code ({ cls := "com/example/subsumer/subsumer/core/Existential", name := "filler", desc := "()Lcom/example/subsumer/subsumer/core/Description;" } : Jvm.MethodName) prog_12_method_6_code (1 : Nat) (Option.some (Jvm.ClassFile.FieldType.object "com/example/subsumer/subsumer/core/Description")), Jvm.Cond.code ({ cls := "com/example/subsumer/subsumer/core/Description", name := "only", desc := "(Ljava/lang/String;Lcom/example/subsumer/subsumer/core/Description;)Lcom/example/subsumer/subsumer/core/Description;" } : Jvm.MethodName) prog_3_method_8_code (2 : Nat) (Option.some (Jvm.ClassFile.FieldType.object "com/example/subsumer/subsumer/core/Description")), Jvm.Cond.code ({ cls := "com/example/subsumer/subsumer/core/Universal", name := "<init>", desc := "(Ljava/lang/String;Lcom/example/subsumer/subsumer/core/Description;)V" } : Jvm.MethodName) prog_34_method_1_code (3 : Nat) (Option.none : Option Jvm.ClassFile.FieldType), Jvm.Cond.code ({ cls := "com/example/subsumer/subsumer/core/Universal", name := "filler", desc := "()Lcom/example/subsumer/subsumer/core/Description;" } : Jvm.MethodName) prog_34_method_6_code (1 : Nat) (Option.some (Jvm.ClassFile.FieldType.object "com/example/subsumer/subsumer/core/Description")), Jvm.Cond.code ({ cls := "com/example/subsumer/subsumer/core/Description", name := "bottom", desc := "()Lcom/example/subsumer/subsumer/core/Description;" } : Jvm.MethodName) prog_3_method_4_code (0 : Nat) (Option.some (Jvm.ClassFile.FieldType.object "com/example/subsumer/subsumer/core/Description")), Jvm.Cond.code ({ cls := "com/example/subsumer/subsumer/core/Description", name := "min", desc := "(Ljava/lang/String;I)Lcom/example/subsumer/subsumer/core/Description;" } : Jvm.MethodName) prog_3_method_9_code (2 : Nat) (Option.some (Jvm.ClassFile.FieldType.object "com/example/subsumer/subsumer/core/Description")), Jvm.Cond.code ({ cls := "com/example/subsumer/subsumer/core/Description", name := "requireCount", desc := "(I)V" } : Jvm.MethodName) prog_3_method_11_code (1 : Nat) (Option.none : Option Jvm.ClassFile.FieldType), Jvm.Cond.code ({ cls := "com/example/subsumer/subsumer/core/AtLeast", name := "<init>", desc := "(Ljava/lang/String;I)V" } : Jvm.MethodName) prog_1_method_1_code (3 : Nat) (Option.none : Option Jvm.ClassFile.FieldType), Jvm.Cond.code ({ cls := "com/example/subsumer/subsumer/core/Description", name := "max", desc := "(Ljava/lang/String;I)Lcom/example/subsumer/subsumer/core/Description;" } : Jvm.MethodName) prog_3_method_10_code (2 : Nat) (Option.some (Jvm.ClassFile.FieldType.object "com/example/subsumer/subsumer/core/Description")), Jvm.Cond.code ({ cls := "com/example/subsumer/subsumer/core/AtMost", name := "<init>", desc := "(Ljava/lang/String;I)V" } : Jvm.MethodName) prog_2_method_1_code (3 : Nat) (Option.none : Option Jvm.ClassFile.FieldType)]
set_option maxRecDepth 65536 in
theorem codes_eq : words1.filter isCode = codes1 := rfl
theorem w_codes : ∀ c ∈ words1.filter isCode, c.before args0 about1 = true := by
  rw [codes_eq]
  intro c hc
  simp only [codes1, List.mem_cons, List.not_mem_nil, or_false] at hc
  rcases hc with rfl | rfl | rfl | rfl | rfl | rfl | rfl | rfl | rfl | rfl | rfl | rfl | rfl | rfl | rfl | rfl | rfl | rfl | rfl | rfl | rfl | rfl | rfl | rfl | rfl | rfl | rfl | rfl | rfl | rfl | rfl | rfl | rfl | rfl | rfl | rfl | rfl | rfl | rfl | rfl | rfl | rfl | rfl | rfl | rfl | rfl
  · exact w_c0
  · exact w_c1
  · exact w_c2
  · exact w_c3
  · exact w_c4
  · exact w_c5
  · exact w_c6
  · exact w_c7
  · exact w_c8
  · exact w_c9
  · exact w_c10
  · exact w_c11
  · exact w_c12
  · exact w_c13
  · exact w_c14
  · exact w_c15
  · exact w_c16
  · exact w_c17
  · exact w_c18
  · exact w_c19
  · exact w_c20
  · exact w_c21
  · exact w_c22
  · exact w_c23
  · exact w_c24
  · exact w_c25
  · exact w_c26
  · exact w_c27
  · exact w_c28
  · exact w_c29
  · exact w_c30
  · exact w_c31
  · exact w_c32
  · exact w_c33
  · exact w_c34
  · exact w_c35
  · exact w_c36
  · exact w_c37
  · exact w_c38
  · exact w_c39
  · exact w_c40
  · exact w_c41
  · exact w_c42
  · exact w_c43
  · exact w_c44
  · exact w_c45
set_option maxRecDepth 65536 in
theorem w_t1 : (words1.take 24).all (fun c => isCode c || c.before args0 about1) = true := by decide +kernel
set_option maxRecDepth 65536 in
theorem w_t2 : ((words1.drop 24).take 24).all (fun c => isCode c || c.before args0 about1) = true := by decide +kernel
set_option maxRecDepth 65536 in
theorem w_t3 : (((words1.drop 24).drop 24).take 24).all (fun c => isCode c || c.before args0 about1) = true := by decide +kernel
set_option maxRecDepth 65536 in
theorem w_t4 : ((((words1.drop 24).drop 24).drop 24).take 24).all (fun c => isCode c || c.before args0 about1) = true := by decide +kernel
set_option maxRecDepth 65536 in
theorem w_t5 : (((((words1.drop 24).drop 24).drop 24).drop 24).take 24).all (fun c => isCode c || c.before args0 about1) = true := by decide +kernel
set_option maxRecDepth 65536 in
theorem w_t6 : ((((((words1.drop 24).drop 24).drop 24).drop 24).drop 24).take 24).all (fun c => isCode c || c.before args0 about1) = true := by decide +kernel
set_option maxRecDepth 65536 in
theorem w_t7 : (((((((words1.drop 24).drop 24).drop 24).drop 24).drop 24).drop 24).take 24).all (fun c => isCode c || c.before args0 about1) = true := by decide +kernel
set_option maxRecDepth 65536 in
theorem w_t8 : ((((((((words1.drop 24).drop 24).drop 24).drop 24).drop 24).drop 24).drop 24).take 24).all (fun c => isCode c || c.before args0 about1) = true := by decide +kernel
set_option maxRecDepth 65536 in
theorem w_t9 : (((((((((words1.drop 24).drop 24).drop 24).drop 24).drop 24).drop 24).drop 24).drop 24).take 24).all (fun c => isCode c || c.before args0 about1) = true := by decide +kernel
set_option maxRecDepth 65536 in
theorem w_t10 : ((((((((((words1.drop 24).drop 24).drop 24).drop 24).drop 24).drop 24).drop 24).drop 24).drop 24).take 24).all (fun c => isCode c || c.before args0 about1) = true := by decide +kernel
set_option maxRecDepth 65536 in
theorem w_t11 : (((((((((((words1.drop 24).drop 24).drop 24).drop 24).drop 24).drop 24).drop 24).drop 24).drop 24).drop 24).take 24).all (fun c => isCode c || c.before args0 about1) = true := by decide +kernel
set_option maxRecDepth 65536 in
theorem w_t12 : ((((((((((((words1.drop 24).drop 24).drop 24).drop 24).drop 24).drop 24).drop 24).drop 24).drop 24).drop 24).drop 24).take 24).all (fun c => isCode c || c.before args0 about1) = true := by decide +kernel
set_option maxRecDepth 65536 in
theorem w_t13 : (((((((((((((words1.drop 24).drop 24).drop 24).drop 24).drop 24).drop 24).drop 24).drop 24).drop 24).drop 24).drop 24).drop 24).take 24).all (fun c => isCode c || c.before args0 about1) = true := by decide +kernel
set_option maxRecDepth 65536 in
theorem w_t14 : (((((((((((((words1.drop 24).drop 24).drop 24).drop 24).drop 24).drop 24).drop 24).drop 24).drop 24).drop 24).drop 24).drop 24).drop 24).all (fun c => isCode c || c.before args0 about1) = true := by decide +kernel
theorem w_tables : (allAtoms (Jvm.Cond.code x code maxLocals ret :: tables_1)).before args0 about1 = true := by
  rw [allAtoms_all]
  show words1.all (fun c => c.before args0 about1) = true
  refine all_split ?_ w_codes
  rw [← List.take_append_drop 24 words1, List.all_append, w_t1, ← List.take_append_drop 24 (words1.drop 24), List.all_append, w_t2, ← List.take_append_drop 24 ((words1.drop 24).drop 24), List.all_append, w_t3, ← List.take_append_drop 24 (((words1.drop 24).drop 24).drop 24), List.all_append, w_t4, ← List.take_append_drop 24 ((((words1.drop 24).drop 24).drop 24).drop 24), List.all_append, w_t5, ← List.take_append_drop 24 (((((words1.drop 24).drop 24).drop 24).drop 24).drop 24), List.all_append, w_t6, ← List.take_append_drop 24 ((((((words1.drop 24).drop 24).drop 24).drop 24).drop 24).drop 24), List.all_append, w_t7, ← List.take_append_drop 24 (((((((words1.drop 24).drop 24).drop 24).drop 24).drop 24).drop 24).drop 24), List.all_append, w_t8, ← List.take_append_drop 24 ((((((((words1.drop 24).drop 24).drop 24).drop 24).drop 24).drop 24).drop 24).drop 24), List.all_append, w_t9, ← List.take_append_drop 24 (((((((((words1.drop 24).drop 24).drop 24).drop 24).drop 24).drop 24).drop 24).drop 24).drop 24), List.all_append, w_t10, ← List.take_append_drop 24 ((((((((((words1.drop 24).drop 24).drop 24).drop 24).drop 24).drop 24).drop 24).drop 24).drop 24).drop 24), List.all_append, w_t11, ← List.take_append_drop 24 (((((((((((words1.drop 24).drop 24).drop 24).drop 24).drop 24).drop 24).drop 24).drop 24).drop 24).drop 24).drop 24), List.all_append, w_t12, ← List.take_append_drop 24 ((((((((((((words1.drop 24).drop 24).drop 24).drop 24).drop 24).drop 24).drop 24).drop 24).drop 24).drop 24).drop 24).drop 24), List.all_append, w_t13, w_t14]
  rfl
set_option maxRecDepth 65536 in
theorem w_rest : rest_1_c.before args0 about1 = true := by decide +kernel
set_option maxRecDepth 65536 in
theorem w_case : (Jvm.Cond.and given_1 narrow_1).before args0 about1 = true := by decide +kernel
theorem w_applies : (headSpec (Jvm.Cond.code x code maxLocals ret :: tables_1) room_1).applies x e0.platform about1 = true :=
  (Spec.applies_iff w_frames).mpr ⟨w_running, w_runnable, w_alone, w_named, w_hears, w_ripe, w_room, w_tables⟩
theorem atStart : AtStart classFile x code maxLocals ret World_1 tables_1 room_1 Calls_1 rest_1 Pre_1 launch0 p0 e0 about1 theMethod args0 below0 :=
  ⟨lists_1, trivial, launch0.admits_env _ _ _, launch0.least_env, fairChoices_fair.cas, fairChoices_fair.clock, w_frames, w_args, w_heap, w_applies, trivial, w_rest, w_case⟩
end start1
theorem witness_1 : WitnessClaimed_1 := ⟨start1.p0, start1.e0, start1.about1, start1.theMethod, start1.args0, start1.below0, start1.atStart⟩
end Jvm.Pilot.@@N@@
