import JvmDerived
import JvmDerived.Pilot.@@N@@Statement
import JvmDerived.Pilot.@@N@@Code
set_option linter.unusedVariables false
set_option linter.unusedSimpArgs false
namespace Jvm.Ow
open Sem ClassFile Op Lib Jvm.Stand Jvm.Free Jvm.LawKit Jvm.RoadKit
/-- what one invocation runs over -/
abbrev Cx : Type := Program × Launch × Env × State × MethodId × Array Value × List Frame × Method × Code
def Cx.p (x : Cx) : Program := x.1
def Cx.l (x : Cx) : Launch := x.2.1
def Cx.e (x : Cx) : Env := x.2.2.1
def Cx.s (x : Cx) : State := x.2.2.2.1
def Cx.m (x : Cx) : MethodId := x.2.2.2.2.1
def Cx.args (x : Cx) : Array Value := x.2.2.2.2.2.1
def Cx.below (x : Cx) : List Frame := x.2.2.2.2.2.2.1
def Cx.meth (x : Cx) : Method := x.2.2.2.2.2.2.2.1
def Cx.c (x : Cx) : Code := x.2.2.2.2.2.2.2.2
/-- a body: its name, bytes, max_locals, return type, room, and the table words of the case -/
abbrev Bd : Type := MethodName × ByteArray × Nat × Option FieldType × Room × List Cond
abbrev Bd.y (b : Bd) : MethodName := b.1
abbrev Bd.by (b : Bd) : ByteArray := b.2.1
abbrev Bd.ml (b : Bd) : Nat := b.2.2.1
abbrev Bd.rt (b : Bd) : Option FieldType := b.2.2.2.1
abbrev Bd.R (b : Bd) : Room := b.2.2.2.2.1
abbrev Bd.tb (b : Bd) : List Cond := b.2.2.2.2.2
def Wd (Z : State) (tb : List Cond) : Prop := ∃ a0 : Array Value, ∀ d ∈ tb, d.before a0 Z = true
def En (Z : State) (x : Cx) (B : Bd) : Prop := x.p.tables.exec = Jvm.exec ∧ x.c.code = B.by ∧ x.c.maxLocals = B.ml ∧ x.s.vm.findClass B.y.cls = some x.m.cls ∧ x.meth.name = B.y.name ∧ x.meth.sig.returnType = B.rt ∧ Z.Warmed39 x.s.vm ∧ x.meth.locks = false ∧ Wd Z B.tb
/-- the invocation stands at T, whose heap is h; k cells and n slots were made; nothing of the start's heap was written -/
def Sp (Z : State) (x : Cx) (B : Bd) (T : State) (k n : Nat) (h : Heap) : Prop := En Z x B ∧ Ext Z.heap h ∧ ∃ locs, Stand x.p x.l x.e B.R x.s x.m x.args x.below x.meth x.c T locs k n ∧ T.heap = h ∧ Fr Z.heap.size locs
/-- from T with this frame the invocation ends as Q says -/
def Rn (Q : Option Value → Heap → Prop) (Z : State) (x : Cx) (B : Bd) (T : State) (pc : Nat) (Ls : Array Slot) (st : List Value) : Prop :=
  ∃ t o, Steps x.p.tables x.e x.below (T.setTop (mkF x.m pc Ls st)) t ∧ t.status = .running ∧ Ended t x.below o ∧ ∃ v L, o = .returned v ∧ (Q v t.heap ∧ Ext Z.heap t.heap ∧ Fr Z.heap.size L) ∧ FrameEnd x.s o t L B.R.cells B.R.slots
/-- from every point with this heap and this frame the invocation ends as Q says -/
def Go (Q : Option Value → Heap → Prop) (Z : State) (B : Bd) (k n : Nat) (h : Heap) (pc : Nat) (Ls : Array Slot) (st : List Value) : Prop := ∀ (x : Cx) (T : State), Sp Z x B T k n h → Rn Q Z x B T pc Ls st
/-- a body's contract: from the heap h0, with the arguments as, it returns v at a heap h with Q v h -/
def Con (Z : State) (B : Bd) (as : Array Value) (h0 : Heap) (Q : Option Value → Heap → Prop) : Prop :=
  Ext Z.heap h0 → ∀ (l : Launch) (ws : List Cond), MetFree l B.y (head1 (Cond.code B.y B.by B.ml B.rt :: ws) B.R) (fun a U => a = as ∧ Z.Warmed39 U.vm ∧ U.heap = h0) (fun _ _ _ _ _ => True)
    (fun _ U o U' => ∃ v L, o = .returned v ∧ (Q v U'.heap ∧ Ext Z.heap U'.heap ∧ Fr Z.heap.size L) ∧ FrameEnd U o U' L B.R.cells B.R.slots)
/-- an array: its values -/
def Ary (Z : State) (h : Heap) (a : Addr) (ty : FieldType) (vs : List Value) : Prop := ∃ c : Cell, Arr Z h a c ty ∧ c.slots.toList = vs ∧ vs.length < 2 ^ 31 ∧ ∀ v ∈ vs, fits ty v = true
/-- an array over objects of class C -/
def Aov (Z : State) (h : Heap) (a : Addr) (C : String) : Prop := ∃ c : Cell, h[a]? = some c ∧ Ovr Z c.cls C
section St
variable {Q : Option Value → Heap → Prop} {Z : State} {x : Cx} {B : Bd} {T : State} {k n : Nat} {h h' : Heap} {pc : Nat} {Ls Ls' : Array Slot} {st rest : List Value}
theorem Wd.w {tb : List Cond} (W : Wd Z tb) : ∃ a0 : Array Value, ∀ {i : Nat} {d : Cond}, tb[i]? = some d → d.before a0 Z = true := by
  obtain ⟨a0, hw⟩ := W; exact ⟨a0, fun hi => hw _ (List.mem_of_getElem? hi)⟩
theorem Con.mk {as : Array Value} {h0 : Heap} (hw : Wd Z B.tb) (hpn : plainFor B.y = true) (hef : ∀ m, entryFrame m as B.ml = mkF m 0 Ls [])
    (body : Go Q Z B 0 0 h0 0 Ls []) : Con Z B as h0 Q := by
  intro hE l ws
  refine MetFree.of_bodySF hpn hisR ?_
  intro p e s m args below meth c s₁ Bd hml0 hP hK
  obtain ⟨rfl, hZ, hh⟩ := hP
  have X0 : Stand p l e B.R s m args below meth c s₁ [] 0 0 := Stand.of_body Bd
  have e0 : s₁.heap = h0 := by rw [← hh, Bd.state]; rfl
  obtain ⟨t, o, h1, h2, h3, h4⟩ := body (p, l, e, s, m, args, below, meth, c) s₁ ⟨⟨Bd.exec, Bd.bytes, hml0, findClass_of_methodNamed Bd.named, (name_of_methodNamed Bd.named Bd.method).1, Bd.returns, hZ, Bd.notSynchronized, hw⟩, hE, [], X0, e0, Fr.nil _⟩
  exact ⟨t, o, castTop (hef m) h1, h2, h3, h4⟩
theorem Con.post {as : Array Value} {h0 : Heap} {Q' : Option Value → Heap → Prop} (C : Con Z B as h0 Q) (q : ∀ v h, Q v h → Q' v h) : Con Z B as h0 Q' := fun hE l ws =>
  (C hE l ws).mono (fun _ _ h => h) (fun _ _ _ _ _ h => h) fun _ _ _ _ _ ⟨v, L, h1, h2, h3⟩ => ⟨v, L, h1, ⟨q _ _ h2.1, h2.2⟩, h3⟩
theorem Sp.here (P : Sp Z x B T k n h) : At T x.m x.c x.below := by obtain ⟨_, _, _, X, _⟩ := P; exact X.here
theorem Sp.ex (P : Sp Z x B T k n h) : x.p.tables.exec = Jvm.exec := P.1.1
theorem Sp.d (P : Sp Z x B T k n h) {r : Except DecodeError (Instr × Nat)} (hd : decode B.by pc = r) : decode x.c.code pc = r := by rw [P.1.2.1]; exact hd
theorem Sp.old (P : Sp Z x B T k n h) : Ext Z.heap h := P.2.1
theorem Sp.wd (P : Sp Z x B T k n h) : Wd Z B.tb := P.1.2.2.2.2.2.2.2.2
theorem Sp.le (P : Sp Z x B T k n h) : Z.heap.size ≤ h.size := P.2.1.1
theorem lift {T' : State} {pc' : Nat} {st' : List Value} (f : ∀ t, Steps x.p.tables x.e x.below (T'.setTop (mkF x.m pc' Ls' st')) t → Steps x.p.tables x.e x.below (T.setTop (mkF x.m pc Ls st)) t) (r : Rn Q Z x B T' pc' Ls' st') : Rn Q Z x B T pc Ls st := by
  obtain ⟨t, o, h1, h2⟩ := r; exact ⟨t, o, f t h1, h2⟩
theorem liftS {T' : State} {pc' : Nat} {st' : List Value} (f : Steps x.p.tables x.e x.below (T.setTop (mkF x.m pc Ls st)) (T'.setTop (mkF x.m pc' Ls' st'))) (r : Rn Q Z x B T' pc' Ls' st') : Rn Q Z x B T pc Ls st := by
  obtain ⟨t, o, h1, h2⟩ := r; exact ⟨t, o, f.trans h1, h2⟩
theorem Go.nameI {z : Int32} (r : ∀ v, z = v → Go Q Z B k n h pc Ls (.int v :: st)) : Go Q Z B k n h pc Ls (.int z :: st) := r z rfl
theorem Go.nameJ {z : Int64} (r : ∀ v, z = v → Go Q Z B k n h pc Ls (.long v :: st)) : Go Q Z B k n h pc Ls (.long z :: st) := r z rfl
theorem Go.nameD {z : UInt64} (r : ∀ v, z = v → Go Q Z B k n h pc Ls (.double v :: st)) : Go Q Z B k n h pc Ls (.double z :: st) := r z rfl
theorem Go.eqI {z w : Int32} (e : z = w) (r : Go Q Z B k n h pc Ls (.int w :: st)) : Go Q Z B k n h pc Ls (.int z :: st) := e ▸ r
theorem Go.eqJ {z w : Int64} (e : z = w) (r : Go Q Z B k n h pc Ls (.long w :: st)) : Go Q Z B k n h pc Ls (.long z :: st) := e ▸ r
theorem Go.eqD {z w : UInt64} (e : z = w) (r : Go Q Z B k n h pc Ls (.double w :: st)) : Go Q Z B k n h pc Ls (.double z :: st) := e ▸ r
theorem Go.joinI {pcJ : Nat} {LsJ : Array Slot} {stJ : List Value} (G : Int32 → Prop) (s : (∀ v, G v → Go Q Z B k n h pcJ LsJ (.int v :: stJ)) → Go Q Z B k n h pc Ls st) (r : ∀ v, G v → Go Q Z B k n h pcJ LsJ (.int v :: stJ)) : Go Q Z B k n h pc Ls st := s r
theorem cut {G : Prop} (X : Prop) (s : X → G) (r : X) : G := s r
theorem Go.old (r : Ext Z.heap h → Go Q Z B k n h pc Ls st) : Go Q Z B k n h pc Ls st := fun x T P => r P.old x T P
theorem Go.more {k' n' : Nat} (hk : k ≤ k') (hn : n ≤ n') (r : Go Q Z B k' n' h pc Ls st) : Go Q Z B k n h pc Ls st := fun x T P => r x T (by
  obtain ⟨E, O, locs, X, e, N⟩ := P
  exact ⟨E, O, locs, { X with same := X.same.mono hk hn }, e, N⟩)
theorem Go.iload (pc' : Nat) (hp : pc + 2 = pc') {i : Nat} {v : Int32} (hd : decode B.by pc = .ok (.iload i, 2)) (hl : Ls[i]? = some (.val (.int v))) (r : Go Q Z B k n h pc' Ls (.int v :: st)) : Go Q Z B k n h pc Ls (st) := fun x T P => by
  subst hp; exact lift (fun t q => XS.iload P.here P.ex rfl (P.d hd) hl q) (r x T P)
theorem Go.iloadN (pc' : Nat) (hp : pc + 1 = pc') {i : Fin 4} {v : Int32} (hd : decode B.by pc = .ok (.iload_n i, 1)) (hl : Ls[i.val]? = some (.val (.int v))) (r : Go Q Z B k n h pc' Ls (.int v :: st)) : Go Q Z B k n h pc Ls (st) := fun x T P => by
  subst hp; exact lift (fun t q => XS.iloadN P.here P.ex rfl (P.d hd) hl q) (r x T P)
theorem Go.istore (pc' : Nat) (hp : pc + 2 = pc') {i : Nat} {v : Int32} (hd : decode B.by pc = .ok (.istore i, 2))  (hl : storeLocals Ls i (.int v) = some Ls') (r : Go Q Z B k n h pc' Ls' (st)) : Go Q Z B k n h pc Ls (.int v :: st) := fun x T P => by
  subst hp; exact lift (fun t q => XS.istore P.here P.ex rfl (P.d hd) rfl hl q) (r x T P)
theorem Go.istoreN (pc' : Nat) (hp : pc + 1 = pc') {i : Fin 4} {v : Int32} (hd : decode B.by pc = .ok (.istore_n i, 1))  (hl : storeLocals Ls i.val (.int v) = some Ls') (r : Go Q Z B k n h pc' Ls' (st)) : Go Q Z B k n h pc Ls (.int v :: st) := fun x T P => by
  subst hp; exact lift (fun t q => XS.istoreN P.here P.ex rfl (P.d hd) rfl hl q) (r x T P)
theorem Go.lload (pc' : Nat) (hp : pc + 2 = pc') {i : Nat} {v : Int64} (hd : decode B.by pc = .ok (.lload i, 2)) (hl : Ls[i]? = some (.val (.long v))) (r : Go Q Z B k n h pc' Ls (.long v :: st)) : Go Q Z B k n h pc Ls (st) := fun x T P => by
  subst hp; exact lift (fun t q => XT.lload P.here P.ex rfl (P.d hd) hl q) (r x T P)
theorem Go.lloadN (pc' : Nat) (hp : pc + 1 = pc') {i : Fin 4} {v : Int64} (hd : decode B.by pc = .ok (.lload_n i, 1)) (hl : Ls[i.val]? = some (.val (.long v))) (r : Go Q Z B k n h pc' Ls (.long v :: st)) : Go Q Z B k n h pc Ls (st) := fun x T P => by
  subst hp; exact lift (fun t q => XT.lloadN P.here P.ex rfl (P.d hd) hl q) (r x T P)
theorem Go.lstore (pc' : Nat) (hp : pc + 2 = pc') {i : Nat} {v : Int64} (hd : decode B.by pc = .ok (.lstore i, 2))  (hl : storeLocals Ls i (.long v) = some Ls') (r : Go Q Z B k n h pc' Ls' (st)) : Go Q Z B k n h pc Ls (.long v :: st) := fun x T P => by
  subst hp; exact lift (fun t q => XT.lstore P.here P.ex rfl (P.d hd) rfl hl q) (r x T P)
theorem Go.lstoreN (pc' : Nat) (hp : pc + 1 = pc') {i : Fin 4} {v : Int64} (hd : decode B.by pc = .ok (.lstore_n i, 1))  (hl : storeLocals Ls i.val (.long v) = some Ls') (r : Go Q Z B k n h pc' Ls' (st)) : Go Q Z B k n h pc Ls (.long v :: st) := fun x T P => by
  subst hp; exact lift (fun t q => XT.lstoreN P.here P.ex rfl (P.d hd) rfl hl q) (r x T P)
theorem Go.aload (pc' : Nat) (hp : pc + 2 = pc') {i : Nat} {v : Value} (hd : decode B.by pc = .ok (.aload i, 2)) (hl : Ls[i]? = some (.val (v))) (hv : v.isRef = true) (r : Go Q Z B k n h pc' Ls (v :: st)) : Go Q Z B k n h pc Ls (st) := fun x T P => by
  subst hp; exact lift (fun t q => XS.aload P.here P.ex rfl (P.d hd) hl hv q) (r x T P)
theorem Go.aloadN (pc' : Nat) (hp : pc + 1 = pc') {i : Fin 4} {v : Value} (hd : decode B.by pc = .ok (.aload_n i, 1)) (hl : Ls[i.val]? = some (.val (v))) (hv : v.isRef = true) (r : Go Q Z B k n h pc' Ls (v :: st)) : Go Q Z B k n h pc Ls (st) := fun x T P => by
  subst hp; exact lift (fun t q => XS.aloadN P.here P.ex rfl (P.d hd) hl hv q) (r x T P)
theorem Go.astore (pc' : Nat) (hp : pc + 2 = pc') {i : Nat} {v : Value} (hd : decode B.by pc = .ok (.astore i, 2))  (hv : v.isRef = true) (hl : storeLocals Ls i (v) = some Ls') (r : Go Q Z B k n h pc' Ls' (st)) : Go Q Z B k n h pc Ls (v :: st) := fun x T P => by
  subst hp; exact lift (fun t q => XS.astore P.here P.ex rfl (P.d hd) rfl hv hl q) (r x T P)
theorem Go.astoreN (pc' : Nat) (hp : pc + 1 = pc') {i : Fin 4} {v : Value} (hd : decode B.by pc = .ok (.astore_n i, 1))  (hv : v.isRef = true) (hl : storeLocals Ls i.val (v) = some Ls') (r : Go Q Z B k n h pc' Ls' (st)) : Go Q Z B k n h pc Ls (v :: st) := fun x T P => by
  subst hp; exact lift (fun t q => XS.astoreN P.here P.ex rfl (P.d hd) rfl hv hl q) (r x T P)
theorem Go.dload (pc' : Nat) (hp : pc + 2 = pc') {i : Nat} {v : UInt64} (hd : decode B.by pc = .ok (.dload i, 2)) (hl : Ls[i]? = some (.val (.double v))) (r : Go Q Z B k n h pc' Ls (.double v :: st)) : Go Q Z B k n h pc Ls (st) := fun x T P => by
  subst hp; exact lift (fun t q => XS.dload P.here P.ex rfl (P.d hd) hl q) (r x T P)
theorem Go.dloadN (pc' : Nat) (hp : pc + 1 = pc') {i : Fin 4} {v : UInt64} (hd : decode B.by pc = .ok (.dload_n i, 1)) (hl : Ls[i.val]? = some (.val (.double v))) (r : Go Q Z B k n h pc' Ls (.double v :: st)) : Go Q Z B k n h pc Ls (st) := fun x T P => by
  subst hp; exact lift (fun t q => XS.dloadN P.here P.ex rfl (P.d hd) hl q) (r x T P)
theorem Go.dstore (pc' : Nat) (hp : pc + 2 = pc') {i : Nat} {v : UInt64} (hd : decode B.by pc = .ok (.dstore i, 2))  (hl : storeLocals Ls i (.double v) = some Ls') (r : Go Q Z B k n h pc' Ls' (st)) : Go Q Z B k n h pc Ls (.double v :: st) := fun x T P => by
  subst hp; exact lift (fun t q => XS.dstore P.here P.ex rfl (P.d hd) rfl hl q) (r x T P)
theorem Go.dstoreN (pc' : Nat) (hp : pc + 1 = pc') {i : Fin 4} {v : UInt64} (hd : decode B.by pc = .ok (.dstore_n i, 1))  (hl : storeLocals Ls i.val (.double v) = some Ls') (r : Go Q Z B k n h pc' Ls' (st)) : Go Q Z B k n h pc Ls (.double v :: st) := fun x T P => by
  subst hp; exact lift (fun t q => XS.dstoreN P.here P.ex rfl (P.d hd) rfl hl q) (r x T P)
theorem Go.iconst (pc' : Nat) (hp : pc + 1 = pc') {i : Int} (v : Int32) (hd : decode B.by pc = .ok (.iconst i, 1)) (hv : Int32.ofInt i = v) (r : Go Q Z B k n h pc' Ls (.int v :: st)) : Go Q Z B k n h pc Ls (st) := fun x T P => by
  subst hp; exact lift (fun t q => XT.iconstV P.here P.ex rfl v (P.d hd) hv q) (r x T P)
theorem Go.bipush (pc' : Nat) (hp : pc + 2 = pc') {i : Int} (v : Int32) (hd : decode B.by pc = .ok (.bipush i, 2)) (hv : (Int8.ofInt i).toInt32 = v) (r : Go Q Z B k n h pc' Ls (.int v :: st)) : Go Q Z B k n h pc Ls (st) := fun x T P => by
  subst hp; exact lift (fun t q => XT.bipushV P.here P.ex rfl v (P.d hd) hv q) (r x T P)
theorem Go.sipush (pc' : Nat) (hp : pc + 3 = pc') {i : Int} (v : Int32) (hd : decode B.by pc = .ok (.sipush i, 3)) (hv : (Int16.ofInt i).toInt32 = v) (r : Go Q Z B k n h pc' Ls (.int v :: st)) : Go Q Z B k n h pc Ls (st) := fun x T P => by
  subst hp; exact lift (fun t q => XT.sipushV P.here P.ex rfl v (P.d hd) hv q) (r x T P)
theorem Go.lconst (pc' : Nat) (hp : pc + 1 = pc') {i : Fin 2} (v : Int64) (hd : decode B.by pc = .ok (.lconst i, 1)) (hv : Int64.ofNat i = v) (r : Go Q Z B k n h pc' Ls (.long v :: st)) : Go Q Z B k n h pc Ls (st) := fun x T P => by
  subst hp; exact lift (fun t q => XT.lconstV P.here P.ex rfl v (P.d hd) hv q) (r x T P)
theorem Go.aconstNull (pc' : Nat) (hp : pc + 1 = pc')  (hd : decode B.by pc = .ok (.aconst_null, 1))  (r : Go Q Z B k n h pc' Ls (.null :: st)) : Go Q Z B k n h pc Ls (st) := fun x T P => by
  subst hp; exact lift (fun t q => XS.aconstNull P.here P.ex rfl (P.d hd) q) (r x T P)
theorem Go.iadd (pc' : Nat) (hp : pc + 1 = pc') {x1 y1 : Int32} (hd : decode B.by pc = .ok (.iadd, 1))  (r : Go Q Z B k n h pc' Ls (.int (x1 + y1) :: st)) : Go Q Z B k n h pc Ls (.int y1 :: .int x1 :: st) := fun x T P => by
  subst hp; exact lift (fun t q => XS.iadd P.here P.ex rfl (P.d hd) rfl q) (r x T P)
theorem Go.isub (pc' : Nat) (hp : pc + 1 = pc') {x1 y1 : Int32} (hd : decode B.by pc = .ok (.isub, 1))  (r : Go Q Z B k n h pc' Ls (.int (x1 - y1) :: st)) : Go Q Z B k n h pc Ls (.int y1 :: .int x1 :: st) := fun x T P => by
  subst hp; exact lift (fun t q => XS.isub P.here P.ex rfl (P.d hd) rfl q) (r x T P)
theorem Go.iand (pc' : Nat) (hp : pc + 1 = pc') {x1 y1 : Int32} (hd : decode B.by pc = .ok (.iand, 1))  (r : Go Q Z B k n h pc' Ls (.int (x1 &&& y1) :: st)) : Go Q Z B k n h pc Ls (.int y1 :: .int x1 :: st) := fun x T P => by
  subst hp; exact lift (fun t q => XS.iand P.here P.ex rfl (P.d hd) rfl q) (r x T P)
theorem Go.imul (pc' : Nat) (hp : pc + 1 = pc') {x1 y1 : Int32} (hd : decode B.by pc = .ok (.imul, 1))  (r : Go Q Z B k n h pc' Ls (.int (x1 * y1) :: st)) : Go Q Z B k n h pc Ls (.int y1 :: .int x1 :: st) := fun x T P => by
  subst hp; exact lift (fun t q => XS.imul P.here P.ex rfl (P.d hd) rfl q) (r x T P)
theorem Go.ixor (pc' : Nat) (hp : pc + 1 = pc') {x1 y1 : Int32} (hd : decode B.by pc = .ok (.ixor, 1))  (r : Go Q Z B k n h pc' Ls (.int (x1 ^^^ y1) :: st)) : Go Q Z B k n h pc Ls (.int y1 :: .int x1 :: st) := fun x T P => by
  subst hp; exact lift (fun t q => XT.ixor P.here P.ex rfl (P.d hd) rfl q) (r x T P)
theorem Go.ior (pc' : Nat) (hp : pc + 1 = pc') {x1 y1 : Int32} (hd : decode B.by pc = .ok (.ior, 1))  (r : Go Q Z B k n h pc' Ls (.int (x1 ||| y1) :: st)) : Go Q Z B k n h pc Ls (.int y1 :: .int x1 :: st) := fun x T P => by
  subst hp; exact lift (fun t q => XT.ior P.here P.ex rfl (P.d hd) rfl q) (r x T P)
theorem Go.ishl (pc' : Nat) (hp : pc + 1 = pc') {x1 y1 : Int32} (hd : decode B.by pc = .ok (.ishl, 1))  (r : Go Q Z B k n h pc' Ls (.int (x1 <<< (y1 &&& 31)) :: st)) : Go Q Z B k n h pc Ls (.int y1 :: .int x1 :: st) := fun x T P => by
  subst hp; exact lift (fun t q => XT.ishl P.here P.ex rfl (P.d hd) rfl q) (r x T P)
theorem Go.ishr (pc' : Nat) (hp : pc + 1 = pc') {x1 y1 : Int32} (hd : decode B.by pc = .ok (.ishr, 1))  (r : Go Q Z B k n h pc' Ls (.int (x1 >>> (y1 &&& 31)) :: st)) : Go Q Z B k n h pc Ls (.int y1 :: .int x1 :: st) := fun x T P => by
  subst hp; exact lift (fun t q => XT.ishr P.here P.ex rfl (P.d hd) rfl q) (r x T P)
theorem Go.iushr (pc' : Nat) (hp : pc + 1 = pc') {x1 y1 : Int32} (hd : decode B.by pc = .ok (.iushr, 1))  (r : Go Q Z B k n h pc' Ls (.int (XT.ushr x1 y1) :: st)) : Go Q Z B k n h pc Ls (.int y1 :: .int x1 :: st) := fun x T P => by
  subst hp; exact lift (fun t q => XT.iushr P.here P.ex rfl (P.d hd) rfl q) (r x T P)
theorem Go.idiv (pc' : Nat) (hp : pc + 1 = pc') {x1 y1 : Int32} (hd : decode B.by pc = .ok (.idiv, 1)) (hy : y1 ≠ 0) (r : Go Q Z B k n h pc' Ls (.int (x1 / y1) :: st)) : Go Q Z B k n h pc Ls (.int y1 :: .int x1 :: st) := fun x T P => by
  subst hp; exact lift (fun t q => XS.idiv P.here P.ex rfl (P.d hd) rfl hy q) (r x T P)
theorem Go.ladd (pc' : Nat) (hp : pc + 1 = pc') {x1 y1 : Int64} (hd : decode B.by pc = .ok (.ladd, 1))  (r : Go Q Z B k n h pc' Ls (.long (x1 + y1) :: st)) : Go Q Z B k n h pc Ls (.long y1 :: .long x1 :: st) := fun x T P => by
  subst hp; exact lift (fun t q => XT.ladd P.here P.ex rfl (P.d hd) rfl q) (r x T P)
theorem Go.lsub (pc' : Nat) (hp : pc + 1 = pc') {x1 y1 : Int64} (hd : decode B.by pc = .ok (.lsub, 1))  (r : Go Q Z B k n h pc' Ls (.long (x1 - y1) :: st)) : Go Q Z B k n h pc Ls (.long y1 :: .long x1 :: st) := fun x T P => by
  subst hp; exact lift (fun t q => XT.lsub P.here P.ex rfl (P.d hd) rfl q) (r x T P)
theorem Go.land (pc' : Nat) (hp : pc + 1 = pc') {x1 y1 : Int64} (hd : decode B.by pc = .ok (.land, 1))  (r : Go Q Z B k n h pc' Ls (.long (x1 &&& y1) :: st)) : Go Q Z B k n h pc Ls (.long y1 :: .long x1 :: st) := fun x T P => by
  subst hp; exact lift (fun t q => XT.land P.here P.ex rfl (P.d hd) rfl q) (r x T P)
theorem Go.lmul (pc' : Nat) (hp : pc + 1 = pc') {x1 y1 : Int64} (hd : decode B.by pc = .ok (.lmul, 1))  (r : Go Q Z B k n h pc' Ls (.long (x1 * y1) :: st)) : Go Q Z B k n h pc Ls (.long y1 :: .long x1 :: st) := fun x T P => by
  subst hp; exact lift (fun t q => XT.lmul P.here P.ex rfl (P.d hd) rfl q) (r x T P)
theorem Go.lxor (pc' : Nat) (hp : pc + 1 = pc') {x1 y1 : Int64} (hd : decode B.by pc = .ok (.lxor, 1))  (r : Go Q Z B k n h pc' Ls (.long (x1 ^^^ y1) :: st)) : Go Q Z B k n h pc Ls (.long y1 :: .long x1 :: st) := fun x T P => by
  subst hp; exact lift (fun t q => XT.lxor P.here P.ex rfl (P.d hd) rfl q) (r x T P)
theorem Go.lor (pc' : Nat) (hp : pc + 1 = pc') {x1 y1 : Int64} (hd : decode B.by pc = .ok (.lor, 1))  (r : Go Q Z B k n h pc' Ls (.long (x1 ||| y1) :: st)) : Go Q Z B k n h pc Ls (.long y1 :: .long x1 :: st) := fun x T P => by
  subst hp; exact lift (fun t q => XT.lor P.here P.ex rfl (P.d hd) rfl q) (r x T P)
theorem Go.lshl (pc' : Nat) (hp : pc + 1 = pc') {x1 : Int64} {y1 : Int32} (hd : decode B.by pc = .ok (.lshl, 1))  (r : Go Q Z B k n h pc' Ls (.long (x1 <<< (y1.toInt64 &&& 63)) :: st)) : Go Q Z B k n h pc Ls (.int y1 :: .long x1 :: st) := fun x T P => by
  subst hp; exact lift (fun t q => XT.lshl P.here P.ex rfl (P.d hd) rfl q) (r x T P)
theorem Go.lshr (pc' : Nat) (hp : pc + 1 = pc') {x1 : Int64} {y1 : Int32} (hd : decode B.by pc = .ok (.lshr, 1))  (r : Go Q Z B k n h pc' Ls (.long (x1 >>> (y1.toInt64 &&& 63)) :: st)) : Go Q Z B k n h pc Ls (.int y1 :: .long x1 :: st) := fun x T P => by
  subst hp; exact lift (fun t q => XT.lshr P.here P.ex rfl (P.d hd) rfl q) (r x T P)
theorem Go.lushr (pc' : Nat) (hp : pc + 1 = pc') {x1 : Int64} {y1 : Int32} (hd : decode B.by pc = .ok (.lushr, 1))  (r : Go Q Z B k n h pc' Ls (.long (XT.ushrL x1 y1) :: st)) : Go Q Z B k n h pc Ls (.int y1 :: .long x1 :: st) := fun x T P => by
  subst hp; exact lift (fun t q => XT.lushr P.here P.ex rfl (P.d hd) rfl q) (r x T P)
theorem Go.ldiv (pc' : Nat) (hp : pc + 1 = pc') {x1 y1 : Int64} (hd : decode B.by pc = .ok (.ldiv, 1)) (hy : y1 ≠ 0) (r : Go Q Z B k n h pc' Ls (.long (x1 / y1) :: st)) : Go Q Z B k n h pc Ls (.long y1 :: .long x1 :: st) := fun x T P => by
  subst hp; exact lift (fun t q => XT.ldiv P.here P.ex rfl (P.d hd) rfl hy q) (r x T P)
theorem Go.lrem (pc' : Nat) (hp : pc + 1 = pc') {x1 y1 : Int64} (hd : decode B.by pc = .ok (.lrem, 1)) (hy : y1 ≠ 0) (r : Go Q Z B k n h pc' Ls (.long (x1 % y1) :: st)) : Go Q Z B k n h pc Ls (.long y1 :: .long x1 :: st) := fun x T P => by
  subst hp; exact lift (fun t q => XT.lrem P.here P.ex rfl (P.d hd) rfl hy (by rw [lrem_mod]; exact q)) (r x T P)
theorem Go.lneg (pc' : Nat) (hp : pc + 1 = pc') {x1 : Int64} (hd : decode B.by pc = .ok (.lneg, 1))  (r : Go Q Z B k n h pc' Ls (.long (-x1) :: st)) : Go Q Z B k n h pc Ls (.long x1 :: st) := fun x T P => by
  subst hp; exact lift (fun t q => XT.lneg P.here P.ex rfl (P.d hd) rfl q) (r x T P)
theorem Go.ineg (pc' : Nat) (hp : pc + 1 = pc') {x1 : Int32} (hd : decode B.by pc = .ok (.ineg, 1))  (r : Go Q Z B k n h pc' Ls (.int (-x1) :: st)) : Go Q Z B k n h pc Ls (.int x1 :: st) := fun x T P => by
  subst hp; exact lift (fun t q => XS.ineg P.here P.ex rfl (P.d hd) rfl q) (r x T P)
theorem Go.i2l (pc' : Nat) (hp : pc + 1 = pc') {x1 : Int32} (hd : decode B.by pc = .ok (.i2l, 1))  (r : Go Q Z B k n h pc' Ls (.long x1.toInt64 :: st)) : Go Q Z B k n h pc Ls (.int x1 :: st) := fun x T P => by
  subst hp; exact lift (fun t q => XT.i2l P.here P.ex rfl (P.d hd) rfl q) (r x T P)
theorem Go.l2i (pc' : Nat) (hp : pc + 1 = pc') {x1 : Int64} (hd : decode B.by pc = .ok (.l2i, 1))  (r : Go Q Z B k n h pc' Ls (.int x1.toInt32 :: st)) : Go Q Z B k n h pc Ls (.long x1 :: st) := fun x T P => by
  subst hp; exact lift (fun t q => XT.l2i P.here P.ex rfl (P.d hd) rfl q) (r x T P)
theorem Go.i2b (pc' : Nat) (hp : pc + 1 = pc') {x1 : Int32} (hd : decode B.by pc = .ok (.i2b, 1))  (r : Go Q Z B k n h pc' Ls (.int x1.toInt8.toInt32 :: st)) : Go Q Z B k n h pc Ls (.int x1 :: st) := fun x T P => by
  subst hp; exact lift (fun t q => XT.i2b P.here P.ex rfl (P.d hd) rfl q) (r x T P)
theorem Go.i2c (pc' : Nat) (hp : pc + 1 = pc') {x1 : Int32} (hd : decode B.by pc = .ok (.i2c, 1))  (r : Go Q Z B k n h pc' Ls (.int x1.toUInt32.toUInt16.toUInt32.toInt32 :: st)) : Go Q Z B k n h pc Ls (.int x1 :: st) := fun x T P => by
  subst hp; exact lift (fun t q => XT.i2c P.here P.ex rfl (P.d hd) rfl q) (r x T P)
theorem Go.i2s (pc' : Nat) (hp : pc + 1 = pc') {x1 : Int32} (hd : decode B.by pc = .ok (.i2s, 1))  (r : Go Q Z B k n h pc' Ls (.int x1.toInt16.toInt32 :: st)) : Go Q Z B k n h pc Ls (.int x1 :: st) := fun x T P => by
  subst hp; exact lift (fun t q => XT.i2s P.here P.ex rfl (P.d hd) rfl q) (r x T P)
theorem Go.lcmp (pc' : Nat) (hp : pc + 1 = pc') {x1 y1 : Int64} (hd : decode B.by pc = .ok (.lcmp, 1))  (r : Go Q Z B k n h pc' Ls (.int (XT.cmpL x1 y1) :: st)) : Go Q Z B k n h pc Ls (.long y1 :: .long x1 :: st) := fun x T P => by
  subst hp; exact lift (fun t q => XT.lcmp P.here P.ex rfl (P.d hd) rfl q) (r x T P)
theorem Go.i2d (pc' : Nat) (hp : pc + 1 = pc') {x1 : Int32} (hd : decode B.by pc = .ok (.i2d, 1))  (r : Go Q Z B k n h pc' Ls (.double (FP.i2d x1) :: st)) : Go Q Z B k n h pc Ls (.int x1 :: st) := fun x T P => by
  subst hp; exact lift (fun t q => XS.i2dS P.here P.ex rfl (P.d hd) rfl rfl q) (r x T P)
theorem Go.l2d (pc' : Nat) (hp : pc + 1 = pc') {x1 : Int64} (hd : decode B.by pc = .ok (.l2d, 1))  (r : Go Q Z B k n h pc' Ls (.double (FP.l2d x1) :: st)) : Go Q Z B k n h pc Ls (.long x1 :: st) := fun x T P => by
  subst hp; exact lift (fun t q => XS.l2dS P.here P.ex rfl (P.d hd) rfl rfl q) (r x T P)
theorem Go.dcmp (pc' : Nat) (hp : pc + 1 = pc') {o : CmpOp} {x1 y1 : UInt64} (v : Int32) (hd : decode B.by pc = .ok (.dcmp o, 1)) (hv : cmpValue (FP.dcmp x1 y1) o = v) (r : Go Q Z B k n h pc' Ls (.int v :: st)) : Go Q Z B k n h pc Ls (.double y1 :: .double x1 :: st) := fun x T P => by
  subst hp; exact lift (fun t q => XS.dcmpS P.here P.ex rfl (P.d hd) rfl hv q) (r x T P)
theorem Go.ddiv (pc' : Nat) (hp : pc + 1 = pc') {x1 y1 : UInt64} (hd : decode B.by pc = .ok (.ddiv, 1)) (hn : Jvm.Free.Fl.NoNaN64 (FP.ddiv x1 y1)) (r : Go Q Z B k n h pc' Ls (.double (FP.ddiv x1 y1) :: st)) : Go Q Z B k n h pc Ls (.double y1 :: .double x1 :: st) := fun x T P => by
  subst hp; exact lift (fun t q => XS.ddivS P.here P.ex rfl (P.d hd) rfl hn rfl q) (r x T P)
theorem Go.dup (pc' : Nat) (hp : pc + 1 = pc') {v : Value} (hd : decode B.by pc = .ok (.dup, 1)) (hc : v.category = 1) (r : Go Q Z B k n h pc' Ls (v :: v :: st)) : Go Q Z B k n h pc Ls (v :: st) := fun x T P => by
  subst hp; exact lift (fun t q => XS.dup P.here P.ex rfl (P.d hd) rfl hc q) (r x T P)
theorem Go.pop (pc' : Nat) (hp : pc + 1 = pc') {v : Value} (hd : decode B.by pc = .ok (.pop, 1)) (hc : v.category = 1) (r : Go Q Z B k n h pc' Ls (st)) : Go Q Z B k n h pc Ls (v :: st) := fun x T P => by
  subst hp; exact lift (fun t q => XT.pop P.here P.ex rfl (P.d hd) rfl hc q) (r x T P)
theorem Go.dupX1 (pc' : Nat) (hp : pc + 1 = pc') {v w : Value} (hd : decode B.by pc = .ok (.dup_x1, 1)) (hc : v.category = 1) (hc' : w.category = 1) (r : Go Q Z B k n h pc' Ls (v :: w :: v :: st)) : Go Q Z B k n h pc Ls (v :: w :: st) := fun x T P => by
  subst hp; exact lift (fun t q => XT.dupX1 P.here P.ex rfl (P.d hd) rfl hc hc' q) (r x T P)
theorem Go.dup2 (pc' : Nat) (hp : pc + 1 = pc') {v w : Value} (hd : decode B.by pc = .ok (.dup2, 1)) (hc : v.category = 1) (hc' : w.category = 1) (r : Go Q Z B k n h pc' Ls (v :: w :: v :: w :: st)) : Go Q Z B k n h pc Ls (v :: w :: st) := fun x T P => by
  subst hp; exact lift (fun t q => XT.dup2 P.here P.ex rfl (P.d hd) rfl hc hc' q) (r x T P)
theorem Go.dup2L (pc' : Nat) (hp : pc + 1 = pc') {v : Int64} (hd : decode B.by pc = .ok (.dup2, 1))  (r : Go Q Z B k n h pc' Ls (.long v :: .long v :: st)) : Go Q Z B k n h pc Ls (.long v :: st) := fun x T P => by
  subst hp; exact lift (fun t q => XT.dup2L P.here P.ex rfl (P.d hd) rfl q) (r x T P)
theorem Go.iinc (pc' : Nat) (hp : pc + 3 = pc') {i : Nat} {cst : Int} {x1 : Int32} (v : Int32) (hd : decode B.by pc = .ok (.iinc i cst, 3)) (hv : Int32.ofInt cst = v) (hl : Ls[i]? = some (.val (.int x1))) (hl' : storeLocals Ls i (.int (x1 + v)) = some Ls') (r : Go Q Z B k n h pc' Ls' (st)) : Go Q Z B k n h pc Ls (st) := fun x T P => by
  subst hp; exact lift (fun t q => XT.iincV P.here P.ex rfl v (P.d hd) hv hl hl' q) (r x T P)
theorem Go.irem (pc' : Nat) (hp : pc + 1 = pc') {x1 y1 : Int32} (hd : decode B.by pc = .ok (.irem, 1)) (hy : y1 ≠ 0) (r : Go Q Z B k n h pc' Ls (.int (x1 % y1) :: st)) : Go Q Z B k n h pc Ls (.int y1 :: .int x1 :: st) := fun x T P => by
  subst hp; obtain ⟨_, _, _, X, _⟩ := id P; exact lift (fun t q => iremM X P.ex rfl (P.d hd) rfl hy q) (r x T P)
theorem Go.goto (pc' : Nat) {o : Int} (hd : decode B.by pc = .ok (.goto o, 3)) (h0 : 0 ≤ (pc : Int) + o) (hp : ((pc : Int) + o).toNat = pc') (r : Go Q Z B k n h pc' Ls st) : Go Q Z B k n h pc Ls st := fun x T P =>
  lift (fun t q => XS.goto P.here P.ex rfl (pc0 := pc) rfl (P.d hd) h0 hp q) (r x T P)
theorem Go.icmp_lt (pT pF : Nat) {x1 y1 : Int32} {o : Int} (hd : decode B.by pc = .ok (.if_icmp .lt o, 3)) (h0 : 0 ≤ (pc : Int) + o) (hT : ((pc : Int) + o).toNat = pT) (hF : pc + 3 = pF) (rT : x1 < y1 → Go Q Z B k n h pT Ls st) (rF : ¬ x1 < y1 → Go Q Z B k n h pF Ls st) : Go Q Z B k n h pc Ls (.int y1 :: .int x1 :: st) := fun x T P => by
  subst hF
  by_cases c : x1 < y1
  · exact lift (fun t q => XS.icmpYes P.here P.ex rfl (pc0 := pc) rfl (P.d hd) rfl (tlt c).1 h0 hT q) (rT c x T P)
  · exact lift (fun t q => XS.icmpNo P.here P.ex rfl (P.d hd) rfl (flt c).1 q) (rF c x T P)
theorem Go.if_lt (pT pF : Nat) {x1 : Int32} {o : Int} (hd : decode B.by pc = .ok (.ifCond .lt o, 3)) (h0 : 0 ≤ (pc : Int) + o) (hT : ((pc : Int) + o).toNat = pT) (hF : pc + 3 = pF) (rT : x1 < 0 → Go Q Z B k n h pT Ls st) (rF : ¬ x1 < 0 → Go Q Z B k n h pF Ls st) : Go Q Z B k n h pc Ls (.int x1 :: st) := fun x T P => by
  subst hF
  by_cases c : x1 < 0
  · exact lift (fun t q => XS.ifYes P.here P.ex rfl (pc0 := pc) rfl (P.d hd) rfl ((if0 _ _).trans (tlt c).1) h0 hT q) (rT c x T P)
  · exact lift (fun t q => XS.ifNo P.here P.ex rfl (P.d hd) rfl ((if0 _ _).trans (flt c).1) q) (rF c x T P)
theorem Go.icmp_ge (pT pF : Nat) {x1 y1 : Int32} {o : Int} (hd : decode B.by pc = .ok (.if_icmp .ge o, 3)) (h0 : 0 ≤ (pc : Int) + o) (hT : ((pc : Int) + o).toNat = pT) (hF : pc + 3 = pF) (rT : ¬ x1 < y1 → Go Q Z B k n h pT Ls st) (rF : x1 < y1 → Go Q Z B k n h pF Ls st) : Go Q Z B k n h pc Ls (.int y1 :: .int x1 :: st) := fun x T P => by
  subst hF
  by_cases c : ¬ x1 < y1
  · exact lift (fun t q => XS.icmpYes P.here P.ex rfl (pc0 := pc) rfl (P.d hd) rfl (flt c).2.1 h0 hT q) (rT c x T P)
  · replace c := Decidable.not_not.mp c
    exact lift (fun t q => XS.icmpNo P.here P.ex rfl (P.d hd) rfl (tlt c).2.1 q) (rF c x T P)
theorem Go.if_ge (pT pF : Nat) {x1 : Int32} {o : Int} (hd : decode B.by pc = .ok (.ifCond .ge o, 3)) (h0 : 0 ≤ (pc : Int) + o) (hT : ((pc : Int) + o).toNat = pT) (hF : pc + 3 = pF) (rT : ¬ x1 < 0 → Go Q Z B k n h pT Ls st) (rF : x1 < 0 → Go Q Z B k n h pF Ls st) : Go Q Z B k n h pc Ls (.int x1 :: st) := fun x T P => by
  subst hF
  by_cases c : ¬ x1 < 0
  · exact lift (fun t q => XS.ifYes P.here P.ex rfl (pc0 := pc) rfl (P.d hd) rfl ((if0 _ _).trans (flt c).2.1) h0 hT q) (rT c x T P)
  · replace c := Decidable.not_not.mp c
    exact lift (fun t q => XS.ifNo P.here P.ex rfl (P.d hd) rfl ((if0 _ _).trans (tlt c).2.1) q) (rF c x T P)
theorem Go.icmp_gt (pT pF : Nat) {x1 y1 : Int32} {o : Int} (hd : decode B.by pc = .ok (.if_icmp .gt o, 3)) (h0 : 0 ≤ (pc : Int) + o) (hT : ((pc : Int) + o).toNat = pT) (hF : pc + 3 = pF) (rT : y1 < x1 → Go Q Z B k n h pT Ls st) (rF : ¬ y1 < x1 → Go Q Z B k n h pF Ls st) : Go Q Z B k n h pc Ls (.int y1 :: .int x1 :: st) := fun x T P => by
  subst hF
  by_cases c : y1 < x1
  · exact lift (fun t q => XS.icmpYes P.here P.ex rfl (pc0 := pc) rfl (P.d hd) rfl (tlt c).2.2.1 h0 hT q) (rT c x T P)
  · exact lift (fun t q => XS.icmpNo P.here P.ex rfl (P.d hd) rfl (flt c).2.2.1 q) (rF c x T P)
theorem Go.if_gt (pT pF : Nat) {x1 : Int32} {o : Int} (hd : decode B.by pc = .ok (.ifCond .gt o, 3)) (h0 : 0 ≤ (pc : Int) + o) (hT : ((pc : Int) + o).toNat = pT) (hF : pc + 3 = pF) (rT : 0 < x1 → Go Q Z B k n h pT Ls st) (rF : ¬ 0 < x1 → Go Q Z B k n h pF Ls st) : Go Q Z B k n h pc Ls (.int x1 :: st) := fun x T P => by
  subst hF
  by_cases c : 0 < x1
  · exact lift (fun t q => XS.ifYes P.here P.ex rfl (pc0 := pc) rfl (P.d hd) rfl ((if0 _ _).trans (tlt c).2.2.1) h0 hT q) (rT c x T P)
  · exact lift (fun t q => XS.ifNo P.here P.ex rfl (P.d hd) rfl ((if0 _ _).trans (flt c).2.2.1) q) (rF c x T P)
theorem Go.icmp_le (pT pF : Nat) {x1 y1 : Int32} {o : Int} (hd : decode B.by pc = .ok (.if_icmp .le o, 3)) (h0 : 0 ≤ (pc : Int) + o) (hT : ((pc : Int) + o).toNat = pT) (hF : pc + 3 = pF) (rT : ¬ y1 < x1 → Go Q Z B k n h pT Ls st) (rF : y1 < x1 → Go Q Z B k n h pF Ls st) : Go Q Z B k n h pc Ls (.int y1 :: .int x1 :: st) := fun x T P => by
  subst hF
  by_cases c : ¬ y1 < x1
  · exact lift (fun t q => XS.icmpYes P.here P.ex rfl (pc0 := pc) rfl (P.d hd) rfl (flt c).2.2.2 h0 hT q) (rT c x T P)
  · replace c := Decidable.not_not.mp c
    exact lift (fun t q => XS.icmpNo P.here P.ex rfl (P.d hd) rfl (tlt c).2.2.2 q) (rF c x T P)
theorem Go.if_le (pT pF : Nat) {x1 : Int32} {o : Int} (hd : decode B.by pc = .ok (.ifCond .le o, 3)) (h0 : 0 ≤ (pc : Int) + o) (hT : ((pc : Int) + o).toNat = pT) (hF : pc + 3 = pF) (rT : ¬ 0 < x1 → Go Q Z B k n h pT Ls st) (rF : 0 < x1 → Go Q Z B k n h pF Ls st) : Go Q Z B k n h pc Ls (.int x1 :: st) := fun x T P => by
  subst hF
  by_cases c : ¬ 0 < x1
  · exact lift (fun t q => XS.ifYes P.here P.ex rfl (pc0 := pc) rfl (P.d hd) rfl ((if0 _ _).trans (flt c).2.2.2) h0 hT q) (rT c x T P)
  · replace c := Decidable.not_not.mp c
    exact lift (fun t q => XS.ifNo P.here P.ex rfl (P.d hd) rfl ((if0 _ _).trans (tlt c).2.2.2) q) (rF c x T P)
theorem Go.icmp_eq (pT pF : Nat) {x1 y1 : Int32} {o : Int} (hd : decode B.by pc = .ok (.if_icmp .eq o, 3)) (h0 : 0 ≤ (pc : Int) + o) (hT : ((pc : Int) + o).toNat = pT) (hF : pc + 3 = pF) (rT : x1 = y1 → Go Q Z B k n h pT Ls st) (rF : ¬ x1 = y1 → Go Q Z B k n h pF Ls st) : Go Q Z B k n h pc Ls (.int y1 :: .int x1 :: st) := fun x T P => by
  subst hF
  by_cases c : x1 = y1
  · exact lift (fun t q => XS.icmpYes P.here P.ex rfl (pc0 := pc) rfl (P.d hd) rfl (teq c).1 h0 hT q) (rT c x T P)
  · exact lift (fun t q => XS.icmpNo P.here P.ex rfl (P.d hd) rfl (feq c).1 q) (rF c x T P)
theorem Go.if_eq (pT pF : Nat) {x1 : Int32} {o : Int} (hd : decode B.by pc = .ok (.ifCond .eq o, 3)) (h0 : 0 ≤ (pc : Int) + o) (hT : ((pc : Int) + o).toNat = pT) (hF : pc + 3 = pF) (rT : x1 = 0 → Go Q Z B k n h pT Ls st) (rF : ¬ x1 = 0 → Go Q Z B k n h pF Ls st) : Go Q Z B k n h pc Ls (.int x1 :: st) := fun x T P => by
  subst hF
  by_cases c : x1 = 0
  · exact lift (fun t q => XS.ifYes P.here P.ex rfl (pc0 := pc) rfl (P.d hd) rfl ((if0 _ _).trans (teq c).1) h0 hT q) (rT c x T P)
  · exact lift (fun t q => XS.ifNo P.here P.ex rfl (P.d hd) rfl ((if0 _ _).trans (feq c).1) q) (rF c x T P)
theorem Go.icmp_ne (pT pF : Nat) {x1 y1 : Int32} {o : Int} (hd : decode B.by pc = .ok (.if_icmp .ne o, 3)) (h0 : 0 ≤ (pc : Int) + o) (hT : ((pc : Int) + o).toNat = pT) (hF : pc + 3 = pF) (rT : ¬ x1 = y1 → Go Q Z B k n h pT Ls st) (rF : x1 = y1 → Go Q Z B k n h pF Ls st) : Go Q Z B k n h pc Ls (.int y1 :: .int x1 :: st) := fun x T P => by
  subst hF
  by_cases c : ¬ x1 = y1
  · exact lift (fun t q => XS.icmpYes P.here P.ex rfl (pc0 := pc) rfl (P.d hd) rfl (feq c).2 h0 hT q) (rT c x T P)
  · replace c := Decidable.not_not.mp c
    exact lift (fun t q => XS.icmpNo P.here P.ex rfl (P.d hd) rfl (teq c).2 q) (rF c x T P)
theorem Go.if_ne (pT pF : Nat) {x1 : Int32} {o : Int} (hd : decode B.by pc = .ok (.ifCond .ne o, 3)) (h0 : 0 ≤ (pc : Int) + o) (hT : ((pc : Int) + o).toNat = pT) (hF : pc + 3 = pF) (rT : ¬ x1 = 0 → Go Q Z B k n h pT Ls st) (rF : x1 = 0 → Go Q Z B k n h pF Ls st) : Go Q Z B k n h pc Ls (.int x1 :: st) := fun x T P => by
  subst hF
  by_cases c : ¬ x1 = 0
  · exact lift (fun t q => XS.ifYes P.here P.ex rfl (pc0 := pc) rfl (P.d hd) rfl ((if0 _ _).trans (feq c).2) h0 hT q) (rT c x T P)
  · replace c := Decidable.not_not.mp c
    exact lift (fun t q => XS.ifNo P.here P.ex rfl (P.d hd) rfl ((if0 _ _).trans (teq c).2) q) (rF c x T P)
theorem Go.ifnull_r (pF : Nat) {o : Int} {b : Addr} (hd : decode B.by pc = .ok (.ifnull o, 3)) (hF : pc + 3 = pF) (r : Go Q Z B k n h pF Ls st) : Go Q Z B k n h pc Ls (.ref b :: st) := fun x T P => by
  subst hF; exact lift (fun t q => XS.ifnullNo P.here P.ex rfl (P.d hd) rfl q) (r x T P)
theorem Go.ifnull_n (pT : Nat) {o : Int} (hd : decode B.by pc = .ok (.ifnull o, 3)) (h0 : 0 ≤ (pc : Int) + o) (hT : ((pc : Int) + o).toNat = pT) (r : Go Q Z B k n h pT Ls st) : Go Q Z B k n h pc Ls (.null :: st) := fun x T P =>
  lift (fun t q => XS.ifnullYes P.here P.ex rfl (pc0 := pc) rfl (P.d hd) rfl h0 hT q) (r x T P)
theorem Go.ifnonnull_r (pT : Nat) {o : Int} {b : Addr} (hd : decode B.by pc = .ok (.ifnonnull o, 3)) (h0 : 0 ≤ (pc : Int) + o) (hT : ((pc : Int) + o).toNat = pT) (r : Go Q Z B k n h pT Ls st) : Go Q Z B k n h pc Ls (.ref b :: st) := fun x T P =>
  lift (fun t q => XT.ifnonnullYes P.here P.ex rfl (pc0 := pc) rfl (P.d hd) rfl h0 hT q) (r x T P)
theorem Go.ifnonnull_n (pF : Nat) {o : Int} (hd : decode B.by pc = .ok (.ifnonnull o, 3)) (hF : pc + 3 = pF) (r : Go Q Z B k n h pF Ls st) : Go Q Z B k n h pc Ls (.null :: st) := fun x T P => by
  subst hF; exact lift (fun t q => XT.ifnonnullNo P.here P.ex rfl (P.d hd) rfl q) (r x T P)
theorem Go.acmp_eq (pT pF : Nat) {v w : Value} {o : Int} (hd : decode B.by pc = .ok (.if_acmp .eq o, 3)) (h0 : 0 ≤ (pc : Int) + o) (hT : ((pc : Int) + o).toNat = pT) (hF : pc + 3 = pF) (hv : v.isRef = true) (hw : w.isRef = true) (rT : v = w → Go Q Z B k n h pT Ls st) (rF : ¬ v = w → Go Q Z B k n h pF Ls st) : Go Q Z B k n h pc Ls (w :: v :: st) := fun x T P => by
  subst hF
  by_cases c : v = w
  · exact lift (fun t q => XT.acmpYes P.here P.ex rfl (pc0 := pc) rfl (P.d hd) rfl hv hw (XT.aa_eq_t c) h0 hT q) (rT c x T P)
  · exact lift (fun t q => XT.acmpNo P.here P.ex rfl (P.d hd) rfl hv hw (XT.aa_eq_f c) q) (rF c x T P)
theorem Go.acmp_ne (pT pF : Nat) {v w : Value} {o : Int} (hd : decode B.by pc = .ok (.if_acmp .ne o, 3)) (h0 : 0 ≤ (pc : Int) + o) (hT : ((pc : Int) + o).toNat = pT) (hF : pc + 3 = pF) (hv : v.isRef = true) (hw : w.isRef = true) (rT : ¬ v = w → Go Q Z B k n h pT Ls st) (rF : v = w → Go Q Z B k n h pF Ls st) : Go Q Z B k n h pc Ls (w :: v :: st) := fun x T P => by
  subst hF
  by_cases c : ¬ v = w
  · exact lift (fun t q => XT.acmpYes P.here P.ex rfl (pc0 := pc) rfl (P.d hd) rfl hv hw (XT.aa_ne_t c) h0 hT q) (rT c x T P)
  · replace c := Decidable.not_not.mp c
    exact lift (fun t q => XT.acmpNo P.here P.ex rfl (P.d hd) rfl hv hw (XT.aa_ne_f c) q) (rF c x T P)
theorem En.zz (E : En Z x B) : Z.Warmed39 x.s.vm := E.2.2.2.2.2.2.1
theorem En.own (E : En Z x B) : x.s.vm.findClass B.y.cls = some x.m.cls := E.2.2.2.1
theorem En.ml (E : En Z x B) : x.c.maxLocals = B.ml := E.2.2.1
theorem En.rt (E : En Z x B) : x.meth.sig.returnType = B.rt := E.2.2.2.2.2.1
theorem En.nl (E : En Z x B) : x.meth.locks = false := E.2.2.2.2.2.2.2.1
/-! ## constants of the pool -/
theorem Go.ldcI (pc' : Nat) (hp : pc + 2 = pc') {ix : Nat} {v : Int32} (i : Nat) (hd : decode B.by pc = .ok (.ldc ix, 2)) (w : B.tb[i]? = some (.constant B.y.cls ix v)) (r : Go Q Z B k n h pc' Ls (.int v :: st)) : Go Q Z B k n h pc Ls st := fun x T P => by
  subst hp
  obtain ⟨a0, hw⟩ := P.wd.w
  obtain ⟨E, _, _, X, _⟩ := id P
  exact lift (fun t q => X.ldcI P.ex E.own (mv E.zz (hw w)) rfl (P.d hd) q) (r x T P)
theorem Go.ldcWI (pc' : Nat) (hp : pc + 3 = pc') {ix : Nat} {v : Int32} (i : Nat) (hd : decode B.by pc = .ok (.ldc_w ix, 3)) (w : B.tb[i]? = some (.constant B.y.cls ix v)) (r : Go Q Z B k n h pc' Ls (.int v :: st)) : Go Q Z B k n h pc Ls st := fun x T P => by
  subst hp
  obtain ⟨a0, hw⟩ := P.wd.w
  obtain ⟨E, _, _, X, _⟩ := id P
  exact lift (fun t q => X.ldcWI P.ex E.own (mv E.zz (hw w)) rfl (P.d hd) q) (r x T P)
theorem Go.ldc2J (pc' : Nat) (hp : pc + 3 = pc') {ix : Nat} {v : Int64} (i : Nat) (hd : decode B.by pc = .ok (.ldc2_w ix, 3)) (w : B.tb[i]? = some (.constantLong B.y.cls ix v)) (r : Go Q Z B k n h pc' Ls (.long v :: st)) : Go Q Z B k n h pc Ls st := fun x T P => by
  subst hp
  obtain ⟨a0, hw⟩ := P.wd.w
  obtain ⟨E, _, _, X, _⟩ := id P
  exact lift (fun t q => X.ldc2J P.ex E.own (mv E.zz (hw w)) rfl (P.d hd) q) (r x T P)
theorem Go.ldc2D (pc' : Nat) (hp : pc + 3 = pc') {ix : Nat} {v : UInt64} (i : Nat) (hd : decode B.by pc = .ok (.ldc2_w ix, 3)) (w : B.tb[i]? = some (.constantDouble B.y.cls ix v)) (r : Go Q Z B k n h pc' Ls (.double v :: st)) : Go Q Z B k n h pc Ls st := fun x T P => by
  subst hp
  obtain ⟨a0, hw⟩ := P.wd.w
  obtain ⟨E, _, _, X, _⟩ := id P
  exact lift (fun t q => X.ldc2DoubleC P.ex E.own (mv E.zz (hw w)) (g := mkF x.m pc Ls st) rfl (P.d hd) t q) (r x T P)
/-! ## objects -/
theorem store_one {l l' : Array Slot} {i : Nat} {v : Value} {o : Slot} (hold : l[i]? = some o) (ho : One o) (hv : v.category = 1) (hl : l.setIfInBounds i (.val v) = l') : storeLocals l i v = some l' := by
  rw [XS.store1 hold ho hv, hl]
theorem ltN {a : Addr} {m : Nat} (q : @LT.lt Nat instLTNat a m) : @LT.lt Nat instLTNat a m := q
theorem keep_ext (E : Ext h h') : Keep h h' [] := (Keep.refl h []).ext E
theorem keep_wr {a : Addr} {sl : Nat} {v : Value} (W : Wr h h' a sl v) : Keep h h' [a] := Keep.of_wr W
theorem ext_keep {H : Heap} {ws : List Addr} (E : Ext H h) (K : Keep h h' ws) (q : ∀ y ∈ ws, H.size ≤ y) : Ext H h' :=
  ⟨Nat.le_trans E.1 K.1, fun y c r => K.2.1 y c (E.2 y c r) fun z => absurd (Array.getElem?_eq_some_iff.mp r).1 (Nat.not_lt.mpr (q y z))⟩
theorem ge1 {H : Nat} {a : Addr} (q : H ≤ a) : ∀ y ∈ [a], H ≤ y := allS q all0
theorem fr_snoc {K : Nat} {locs : List Loc} {a : Addr} {sl : Nat} (N : Fr K locs) (q : K ≤ a) : Fr K (locs ++ [⟨a, sl⟩]) := N.app fun y hy => by cases List.mem_singleton.mp hy; exact q
theorem Go.newO (pc' : Nat) (hp : pc + 3 = pc') {C : String} {ix sz : Nat} (i1 i2 i3 : Nat) (hd : decode B.by pc = .ok (.new ix, 3)) (w1 : B.tb[i1]? = some (.classLink B.y.cls ix C)) (w2 : B.tb[i2]? = some (.instantiable C sz)) (w3 : B.tb[i3]? = some (.initialized C)) (hc : k + 1 ≤ B.R.cells) (hl : n + sz ≤ B.R.slots)
    (r : ∀ (h' : Heap) (a : Addr), @Eq Nat a h.size → Z.heap.size ≤ a → Keep h h' [] → Exa Z h' a C → (∀ (i : Nat) {O nm d : String} {ty : FieldType}, B.tb[i]? = some (.lays C O nm d) ∨ B.tb[i]? = some (.laysFinal C O nm d) → parseFieldDescriptor d = some ty → Fld Z h' a O nm d (defaultValue ty)) → Go Q Z B (k + 1) (n + sz) h' pc' Ls (.ref a :: st)) : Go Q Z B k n h pc Ls st := fun x T P => by
  subst hp
  obtain ⟨a0, hw⟩ := P.wd.w
  obtain ⟨E, O', locs, X, e, N⟩ := id P
  obtain ⟨T', h', X', e', Ex, A, D, -, s'⟩ := RoadKit.newO X P.ex E.zz E.own (hw w1) (hw w2) (hw w3) e (g := mkF x.m pc Ls st) rfl (P.d hd) hc hl
  exact lift s' (r h' h.size rfl P.le (keep_ext Ex) A (fun i {O nm d ty} q ht => D (q.imp (fun z => hw z) (fun z => hw z)) ht) x T' ⟨E, ⟨Nat.le_trans O'.1 Ex.1, fun y c q => Ex.2 y c (O'.2 y c q)⟩, locs, X', e', N⟩)
theorem Go.getF (pc' : Nat) (hp : pc + 3 = pc') {O nm d : String} {ix : Nat} {a : Addr} {v : Value} (i : Nat) (hd : decode B.by pc = .ok (.getfield ix, 3)) (w : B.tb[i]? = some (.fieldLink B.y.cls ix O nm d)) (F : Fld Z h a O nm d v) (r : Go Q Z B k n h pc' Ls (v :: st)) : Go Q Z B k n h pc Ls (.ref a :: st) := fun x T P => by
  subst hp
  obtain ⟨a0, hw⟩ := P.wd.w
  obtain ⟨E, O', locs, X, e, N⟩ := id P
  obtain ⟨T', X', e', s'⟩ := RoadKit.getF X P.ex E.zz E.own (host := "") (Or.inl (hw w)) Via.refl e F (g := mkF x.m pc Ls (.ref a :: st)) rfl rfl (P.d hd)
  exact lift s' (r x T' ⟨E, O', locs, X', e', N⟩)
theorem Go.getFN (pc' : Nat) (hp : pc + 3 = pc') {O nm d host : String} {ix : Nat} {a : Addr} {v : Value} (i : Nat) (hd : decode B.by pc = .ok (.getfield ix, 3)) (w : B.tb[i]? = some (.fieldLinkNest B.y.cls ix O nm d host)) (F : Fld Z h a O nm d v) (r : Go Q Z B k n h pc' Ls (v :: st)) : Go Q Z B k n h pc Ls (.ref a :: st) := fun x T P => by
  subst hp
  obtain ⟨a0, hw⟩ := P.wd.w
  obtain ⟨E, O', locs, X, e, N⟩ := id P
  obtain ⟨T', X', e', s'⟩ := RoadKit.getF X P.ex E.zz E.own (host := host) (Or.inr (hw w)) Via.refl e F (g := mkF x.m pc Ls (.ref a :: st)) rfl rfl (P.d hd)
  exact lift s' (r x T' ⟨E, O', locs, X', e', N⟩)
theorem Go.getFV (pc' : Nat) (hp : pc + 3 = pc') {R0 O nm d : String} {ix : Nat} {a : Addr} {v : Value} (i j : Nat) (hd : decode B.by pc = .ok (.getfield ix, 3)) (w : B.tb[i]? = some (.fieldLink B.y.cls ix R0 nm d)) (w2 : B.tb[j]? = some (.sameField R0 O nm d)) (F : Fld Z h a O nm d v) (r : Go Q Z B k n h pc' Ls (v :: st)) : Go Q Z B k n h pc Ls (.ref a :: st) := fun x T P => by
  subst hp
  obtain ⟨a0, hw⟩ := P.wd.w
  obtain ⟨E, O', locs, X, e, N⟩ := id P
  obtain ⟨T', X', e', s'⟩ := RoadKit.getF X P.ex E.zz E.own (host := "") (Or.inl (hw w)) (Via.of (hw w2)) e F (g := mkF x.m pc Ls (.ref a :: st)) rfl rfl (P.d hd)
  exact lift s' (r x T' ⟨E, O', locs, X', e', N⟩)
theorem Go.putF (pc' : Nat) (hp : pc + 3 = pc') {C O nm d : String} {ix sz : Nat} {ty : FieldType} {a : Addr} {v v' old : Value} (i1 i2 i3 : Nat) (hd : decode B.by pc = .ok (.putfield ix, 3)) (w1 : B.tb[i1]? = some (.fieldLink B.y.cls ix O nm d)) (F : Fld Z h a O nm d old) (Ea : Exa Z h a C)
    (L : B.tb[i2]? = some (.lays C O nm d) ∨ (B.tb[i2]? = some (.laysFinal C O nm d) ∧ B.y.cls = O ∧ B.y.name = "<init>")) (w3 : B.tb[i3]? = some (.instantiable C sz)) (hty : parseFieldDescriptor d = some ty) (hn : narrow ty v = v') (hf : fits ty v' = true) (ge : Z.heap.size ≤ a)
    (r : ∀ h' : Heap, Keep h h' [a] → Wr h h' a (RoadKit.slotOf Z O nm d) v' → Fld Z h' a O nm d v' → Go Q Z B k n h' pc' Ls st) : Go Q Z B k n h pc Ls (v :: .ref a :: st) := fun x T P => by
  subst hp
  obtain ⟨a0, hw⟩ := P.wd.w
  obtain ⟨E, O', locs, X, e, N⟩ := id P
  obtain ⟨T', h', X', e', W, s'⟩ := putFN X P.ex E.zz E.own (hw w1) Via.refl e F Ea (L.imp (fun z => hw z) (fun z => ⟨hw z.1, z.2.1, E.2.2.2.2.1.trans z.2.2⟩)) (hw w3) hty hn hf (g := mkF x.m pc Ls (v :: .ref a :: st)) rfl rfl (P.d hd)
  exact lift s' (r h' (keep_wr W) W (F.same W) x T' ⟨E, ext_keep O' (keep_wr W) (ge1 ge), _, X', e', fr_snoc N ge⟩)
theorem Go.putFV (pc' : Nat) (hp : pc + 3 = pc') {R0 C O nm d : String} {ix sz : Nat} {ty : FieldType} {a : Addr} {v v' old : Value} (i1 i2 i3 i4 : Nat) (hd : decode B.by pc = .ok (.putfield ix, 3)) (w1 : B.tb[i1]? = some (.fieldLink B.y.cls ix R0 nm d)) (w4 : B.tb[i4]? = some (.sameField R0 O nm d)) (F : Fld Z h a O nm d old) (Ea : Exa Z h a C)
    (L : B.tb[i2]? = some (.lays C O nm d) ∨ (B.tb[i2]? = some (.laysFinal C O nm d) ∧ B.y.cls = O ∧ B.y.name = "<init>")) (w3 : B.tb[i3]? = some (.instantiable C sz)) (hty : parseFieldDescriptor d = some ty) (hn : narrow ty v = v') (hf : fits ty v' = true) (ge : Z.heap.size ≤ a)
    (r : ∀ h' : Heap, Keep h h' [a] → Wr h h' a (RoadKit.slotOf Z O nm d) v' → Fld Z h' a O nm d v' → Go Q Z B k n h' pc' Ls st) : Go Q Z B k n h pc Ls (v :: .ref a :: st) := fun x T P => by
  subst hp
  obtain ⟨a0, hw⟩ := P.wd.w
  obtain ⟨E, O', locs, X, e, N⟩ := id P
  obtain ⟨T', h', X', e', W, s'⟩ := putFN X P.ex E.zz E.own (hw w1) (Via.of (hw w4)) e F Ea (L.imp (fun z => hw z) (fun z => ⟨hw z.1, z.2.1, E.2.2.2.2.1.trans z.2.2⟩)) (hw w3) hty hn hf (g := mkF x.m pc Ls (v :: .ref a :: st)) rfl rfl (P.d hd)
  exact lift s' (r h' (keep_wr W) W (F.same W) x T' ⟨E, ext_keep O' (keep_wr W) (ge1 ge), _, X', e', fr_snoc N ge⟩)
/-- another field of the object that was written -/
theorem Fld.oth {C O nm d O2 nm2 d2 : String} {tb : List Cond} {a b : Addr} {v w : Value} {t t' : FieldType} (hw : Wd Z tb) (F : Fld Z h b O nm d w) (W : Wr h h' a (RoadKit.slotOf Z O2 nm2 d2) v) (i j : Nat) (L1 : tb[i]? = some (.lays C O nm d) ∨ tb[i]? = some (.laysFinal C O nm d)) (L2 : tb[j]? = some (.lays C O2 nm2 d2) ∨ tb[j]? = some (.laysFinal C O2 nm2 d2))
    (hn : nm ≠ nm2) (ht : parseFieldDescriptor d = some t) (ht' : parseFieldDescriptor d2 = some t') : Fld Z h' b O nm d w := by
  obtain ⟨a0, hw⟩ := hw.w
  exact F.other W (Or.inr (RoadKit.slot_ne (a0 := a0) (L1.imp (fun z => hw z) (fun z => hw z)) (L2.imp (fun z => hw z) (fun z => hw z)) hn ht ht'))
theorem Go.getS (pc' : Nat) (hp : pc + 3 = pc') {O nm d : String} {ix : Nat} {v : Value} (i : Nat) (hd : decode B.by pc = .ok (.getstatic ix, 3)) (w : B.tb[i]? = some (.fieldLink B.y.cls ix O nm d)) (F : Sta Z Z.heap O nm d v) (r : Go Q Z B k n h pc' Ls (v :: st)) : Go Q Z B k n h pc Ls st := fun x T P => by
  subst hp
  obtain ⟨a0, hw⟩ := P.wd.w
  obtain ⟨E, O', locs, X, e, N⟩ := id P
  obtain ⟨T', X', e', s'⟩ := RoadKit.getS X P.ex E.zz (host := "") E.own (hw w) Via.refl e (F.ext O') (g := mkF x.m pc Ls st) rfl (P.d hd)
  exact lift s' (r x T' ⟨E, O', locs, X', e', N⟩)
theorem Go.getSN (pc' : Nat) (hp : pc + 3 = pc') {O nm d host : String} {ix : Nat} {v : Value} (i : Nat) (hd : decode B.by pc = .ok (.getstatic ix, 3)) (w : B.tb[i]? = some (.fieldLinkNest B.y.cls ix O nm d host)) (F : Sta Z Z.heap O nm d v) (r : Go Q Z B k n h pc' Ls (v :: st)) : Go Q Z B k n h pc Ls st := fun x T P => by
  subst hp
  obtain ⟨a0, hw⟩ := P.wd.w
  obtain ⟨E, O', locs, X, e, N⟩ := id P
  obtain ⟨T', X', e', s'⟩ := getS2 X P.ex E.zz (host := host) E.own (Or.inr (hw w)) Via.refl e (F.ext O') (g := mkF x.m pc Ls st) rfl (P.d hd)
  exact lift s' (r x T' ⟨E, O', locs, X', e', N⟩)
theorem Go.castY (pc' : Nat) (hp : pc + 3 = pc') {K : String} {ix : Nat} {a : Addr} (i : Nat) (hd : decode B.by pc = .ok (.checkcast ix, 3)) (w : B.tb[i]? = some (.classLink B.y.cls ix K)) (F : Ins Z h a K true) (r : Go Q Z B k n h pc' Ls (.ref a :: st)) : Go Q Z B k n h pc Ls (.ref a :: st) := fun x T P => by
  subst hp
  obtain ⟨a0, hw⟩ := P.wd.w
  obtain ⟨E, O', locs, X, e, N⟩ := id P
  obtain ⟨T', X', e', s'⟩ := RoadKit.castY X P.ex E.zz E.own (hw w) e F (g := mkF x.m pc Ls (.ref a :: st)) rfl rfl (P.d hd)
  exact lift s' (r x T' ⟨E, O', locs, X', e', N⟩)
theorem Go.instY (pc' : Nat) (hp : pc + 3 = pc') {K : String} {ix : Nat} {a : Addr} (i : Nat) (hd : decode B.by pc = .ok (.instanceof ix, 3)) (w : B.tb[i]? = some (.classLink B.y.cls ix K)) (F : Ins Z h a K true) (r : Go Q Z B k n h pc' Ls (.int 1 :: st)) : Go Q Z B k n h pc Ls (.ref a :: st) := fun x T P => by
  subst hp
  obtain ⟨a0, hw⟩ := P.wd.w
  obtain ⟨E, O', locs, X, e, N⟩ := id P
  obtain ⟨T', X', e', s'⟩ := RoadKit.instY X P.ex E.zz E.own (hw w) e F (g := mkF x.m pc Ls (.ref a :: st)) rfl rfl (P.d hd)
  exact lift s' (r x T' ⟨E, O', locs, X', e', N⟩)
theorem Go.instNo (pc' : Nat) (hp : pc + 3 = pc') {C K : String} {ix : Nat} {a : Addr} (i : Nat) (hd : decode B.by pc = .ok (.instanceof ix, 3)) (w : B.tb[i]? = some (.classLink B.y.cls ix K)) (Ea : Exa Z h a C) (F : ∃ c t, Z.vm.findClass C = some c ∧ Z.vm.findClass K = some t ∧ Z.vm.assignable c t = false) (r : Go Q Z B k n h pc' Ls (.int 0 :: st)) : Go Q Z B k n h pc Ls (.ref a :: st) := fun x T P => by
  subst hp
  obtain ⟨a0, hw⟩ := P.wd.w
  obtain ⟨E, O', locs, X, e, N⟩ := id P
  obtain ⟨T', X', e', s'⟩ := RoadKit.instNo X P.ex E.zz E.own (hw w) e Ea F (g := mkF x.m pc Ls (.ref a :: st)) rfl rfl (P.d hd)
  exact lift s' (r x T' ⟨E, O', locs, X', e', N⟩)
theorem Go.initO (pc' : Nat) (hp : pc + 3 = pc') {ix : Nat} {a : Addr} (i1 i2 i3 : Nat) (hd : decode B.by pc = .ok (.invokespecial ix, 3)) (w1 : B.tb[i1]? = some (.methodLink B.y.cls ix Lib.objectInit)) (w2 : B.tb[i2]? = some (.instanceMethod Lib.objectInit)) (w3 : B.tb[i3]? = some (.code Lib.objectInit ⟨#[0xb1]⟩ 1 none)) (hs : Ls.size = B.ml) (hf : 1 ≤ B.R.frames) {W : Nat} (hW : (st.map fun v => v.category).sum ≤ W) (hl : W + 12 ≤ B.R.locals)
    (r : Go Q Z B k n h pc' Ls st) : Go Q Z B k n h pc Ls (.ref a :: st) := fun x T P => by
  subst hp
  obtain ⟨a0, hw⟩ := P.wd.w
  obtain ⟨E, O', locs, X, e, N⟩ := id P
  obtain ⟨T', X', e', s'⟩ := RoadKit.initO X P.ex E.zz E.own (hw w1) (hw w2) (hw w3) e (g := mkF x.m pc Ls (.ref a :: st)) rfl (by rw [E.ml]; exact hs) rfl (P.d hd) hf (W := W) (by show 2 * 0 + _ ≤ _; omega) hl
  exact lift s' (r x T' ⟨E, O', locs, X', e', N⟩)
/-! ## arrays -/
theorem Ary.lt {a : Addr} {ty : FieldType} {vs : List Value} (A : Ary Z h a ty vs) : a < h.size := by obtain ⟨c, A, -⟩ := A; exact A.lt
theorem Ary.len {a : Addr} {ty : FieldType} {vs : List Value} (A : Ary Z h a ty vs) : vs.length < 2 ^ 31 := by obtain ⟨c, -, -, r, -⟩ := A; exact r
theorem len_ofNat {m : Nat} (hm : m < 2 ^ 31) : (Int32.ofNat m).toInt = m := Int32.toInt_ofNat_of_lt hm
theorem ofNat_zero {m : Nat} (hm : m < 2 ^ 31) : Int32.ofNat m = 0 ↔ m = 0 := by
  constructor
  · intro q; have := len_ofNat hm; rw [q] at this; have z : (0 : Int32).toInt = 0 := rfl; omega
  · intro q; subst q; rfl
theorem Ary.keep {a : Addr} {ty : FieldType} {vs : List Value} {ws : List Addr} (A : Ary Z h a ty vs) (K : Keep h h' ws) (q : a ∉ ws) : Ary Z h' a ty vs := by
  obtain ⟨c, A, r⟩ := A; exact ⟨c, ⟨K.2.1 a c A.1 q, A.2⟩, r⟩
theorem Ary.ext {a : Addr} {ty : FieldType} {vs : List Value} (E : Ext h h') (A : Ary Z h a ty vs) : Ary Z h' a ty vs := by
  obtain ⟨c, A, r⟩ := A; exact ⟨c, A.ext E, r⟩
theorem Aov.keep {a : Addr} {C : String} {ws : List Addr} (A : Aov Z h a C) (K : Keep h h' ws) : Aov Z h' a C := by
  obtain ⟨c, A, r⟩ := A; obtain ⟨c', q1, q2, -⟩ := K.2.2 a c A; exact ⟨c', q1, q2 ▸ r⟩
theorem Ins.keep {a : Addr} {C : String} {b : Bool} {ws : List Addr} (A : Ins Z h a C b) (K : Keep h h' ws) : Ins Z h' a C b := by
  obtain ⟨c, cT, A, r1, r2⟩ := A; obtain ⟨c', q1, q2, q3, -⟩ := K.2.2 a c A; exact ⟨c', cT, q1, r1, by rw [q2, q3]; exact r2⟩
theorem Sta.keepO {C nm d : String} {w : Value} (E : Ext Z.heap h) (F : Sta Z Z.heap C nm d w) : Sta Z h C nm d w := F.ext E
theorem ix_in {m : Nat} {j : Int32} (h0 : 0 ≤ j.toInt) (h1 : j.toInt < m) : ¬ (j < 0 ∨ m ≤ j.toNatClampNeg) := by
  intro q
  rcases q with q | q
  · rw [Int32.lt_iff_toInt_lt] at q; have : (0 : Int32).toInt = 0 := rfl; omega
  · have := nat_of (j := j) (by rw [Int32.lt_iff_toInt_lt]; have : (0 : Int32).toInt = 0 := rfl; omega); omega
theorem ix_nat {m : Nat} {j : Int32} (h0 : j.toInt = m) : j.toNatClampNeg = m := by
  have := nat_of (j := j) (by rw [Int32.lt_iff_toInt_lt]; have : (0 : Int32).toInt = 0 := rfl; omega); omega
theorem len_nat {m : Nat} (h : m < 2 ^ 31) : m.toInt32.toInt = m := len_toInt h
theorem slots_at {c : Cell} {vs : List Value} (e : c.slots.toList = vs) (j : Nat) : c.slots[j]? = vs[j]? := by rw [← e]; simp
theorem Go.newA (pc' : Nat) (hp : pc + 2 = pc') {aty : ArrayType} {m : Int32} (i cap N : Nat) (hd : decode B.by pc = .ok (.newarray aty, 2)) (w : B.tb[i]? = some (.arrayClass (newarray.typeOf aty))) (hN : m.toInt = N) (hcap : N ≤ cap) (hb : cap * 8 ≤ 536870912) (hc : k + 1 ≤ B.R.cells) (hl : n + cap ≤ B.R.slots)
    (r : ∀ (h' : Heap) (a : Addr), @Eq Nat a h.size → Z.heap.size ≤ a → Keep h h' [] → Ary Z h' a (newarray.typeOf aty) (List.replicate N (defaultValue (newarray.typeOf aty))) → Exa Z h' a ("[" ++ (newarray.typeOf aty).toString) → Go Q Z B (k + 1) (n + cap) h' pc' Ls (.ref a :: st)) : Go Q Z B k n h pc Ls (.int m :: st) := fun x T P => by
  subst hp
  obtain ⟨a0, hw⟩ := P.wd.w
  obtain ⟨E, O', locs, X, e, N'⟩ := id P
  have hm : ¬ m < 0 := by rw [Int32.lt_iff_toInt_lt]; have : (0 : Int32).toInt = 0 := rfl; omega
  obtain ⟨T', h', cA, X', e', Ex, A, A', s'⟩ := newPE X P.ex E.zz (hw w) e (g := mkF x.m pc Ls (.int m :: st)) rfl (P.d hd) rfl hm (cap := cap) (by rw [ix_nat hN]; exact hcap) hb hc hl rfl
  have hlen : N < 2 ^ 31 := by have := m.toInt_lt; omega
  refine lift s' (r h' h.size rfl P.le (keep_ext Ex) ⟨_, A, ?_, ?_, ?_⟩ A' x T' ⟨E, ⟨Nat.le_trans O'.1 Ex.1, fun y c q => Ex.2 y c (O'.2 y c q)⟩, locs, X', e', N'⟩)
  · show (Array.replicate _ _).toList = _
    rw [ix_nat hN, Array.toList_replicate]
  · rw [List.length_replicate]; exact hlen
  · intro v hv
    rw [List.eq_of_mem_replicate hv]
    cases aty <;> rfl
theorem Go.newR (pc' : Nat) (hp : pc + 3 = pc') {C : String} {ix : Nat} {m : Int32} (i1 i2 cap N : Nat) (hd : decode B.by pc = .ok (.anewarray ix, 3)) (w1 : B.tb[i1]? = some (.classLink B.y.cls ix C)) (w2 : B.tb[i2]? = some (.arrayOver (.object C))) (hN : m.toInt = N) (hcap : N ≤ cap) (hb : cap * 8 ≤ 536870912) (hc : k + 1 ≤ B.R.cells) (hl : n + cap ≤ B.R.slots)
    (r : ∀ (h' : Heap) (a : Addr), @Eq Nat a h.size → Z.heap.size ≤ a → Keep h h' [] → Ary Z h' a (.object C) (List.replicate N .null) → Exa Z h' a ("[" ++ (FieldType.object C).toString) → Aov Z h' a C → Go Q Z B (k + 1) (n + cap) h' pc' Ls (.ref a :: st)) : Go Q Z B k n h pc Ls (.int m :: st) := fun x T P => by
  subst hp
  obtain ⟨a0, hw⟩ := P.wd.w
  obtain ⟨E, O', locs, X, e, N'⟩ := id P
  have hm : ¬ m < 0 := by rw [Int32.lt_iff_toInt_lt]; have : (0 : Int32).toInt = 0 := rfl; omega
  obtain ⟨T', h', cA, X', e', Ex, A, A', O1, s'⟩ := newRE X P.ex E.zz E.own (hw w1) (hw w2) e (g := mkF x.m pc Ls (.int m :: st)) rfl (P.d hd) rfl hm (cap := cap) (by rw [ix_nat hN]; exact hcap) hb hc hl rfl
  have hlen : N < 2 ^ 31 := by have := m.toInt_lt; omega
  refine lift s' (r h' h.size rfl P.le (keep_ext Ex) ⟨_, A, ?_, ?_, ?_⟩ A' ⟨_, A.1, O1⟩ x T' ⟨E, ⟨Nat.le_trans O'.1 Ex.1, fun y c q => Ex.2 y c (O'.2 y c q)⟩, locs, X', e', N'⟩)
  · show (Array.replicate _ _).toList = _
    rw [ix_nat hN, Array.toList_replicate]; rfl
  · rw [List.length_replicate]; exact hlen
  · intro v hv
    rw [List.eq_of_mem_replicate hv]; rfl
theorem Go.alen (pc' : Nat) (hp : pc + 1 = pc') {ty : FieldType} {a : Addr} {vs : List Value} (v : Int32) (hd : decode B.by pc = .ok (.arraylength, 1)) (A : Ary Z h a ty vs) (hv : v.toInt = vs.length) (r : Go Q Z B k n h pc' Ls (.int v :: st)) : Go Q Z B k n h pc Ls (.ref a :: st) := fun x T P => by
  subst hp
  obtain ⟨E, O', locs, X, e, N'⟩ := id P
  obtain ⟨c, A, e1, e2, e3⟩ := A
  have : c.slots.size.toInt32 = v := by
    have q : c.slots.size = vs.length := by rw [← e1]; simp
    apply Int32.toInt_inj.mp
    rw [q, hv, len_toInt e2]
  exact lift (fun t q => X.arraylength P.ex (by rw [e]; exact A.1) (State.isArrayOf_alike E.zz.alike A.2.1) (g := mkF x.m pc Ls (.ref a :: st)) rfl rfl (P.d hd) t (by rw [this]; exact q)) (r x T P)
theorem Go.iaload (pc' : Nat) (hp : pc + 1 = pc') {a : Addr} {vs : List Value} {j : Int32} (v : Int32) (hd : decode B.by pc = .ok (.iaload, 1)) (A : Ary Z h a .int vs) (jn : Nat) (hj : j.toInt = jn) (hv : vs[jn]? = some (.int v)) (r : Go Q Z B k n h pc' Ls (.int v :: st)) : Go Q Z B k n h pc Ls (.int j :: .ref a :: st) := fun x T P => by
  subst hp
  obtain ⟨E, O', locs, X, e, N'⟩ := id P
  obtain ⟨c, A, e1, e2, e3⟩ := A
  have q : c.slots.size = vs.length := by rw [← e1]; simp
  have hlt := (List.getElem?_eq_some_iff.mp hv).1
  exact lift (fun t q' => X.iaload P.ex (j := j) (v := .int v) (by rw [e]; exact A.1) (State.isArrayOf_alike E.zz.alike A.2.1) A.2.2 (ix_in (by omega) (by omega)) (by rw [ix_nat hj, slots_at e1]; exact hv) (g := mkF x.m pc Ls (.int j :: .ref a :: st)) rfl rfl (P.d hd) t q') (r x T P)
theorem Go.laload (pc' : Nat) (hp : pc + 1 = pc') {a : Addr} {vs : List Value} {j : Int32} (v : Int64) (hd : decode B.by pc = .ok (.laload, 1)) (A : Ary Z h a .long vs) (jn : Nat) (hj : j.toInt = jn) (hv : vs[jn]? = some (.long v)) (r : Go Q Z B k n h pc' Ls (.long v :: st)) : Go Q Z B k n h pc Ls (.int j :: .ref a :: st) := fun x T P => by
  subst hp
  obtain ⟨E, O', locs, X, e, N'⟩ := id P
  obtain ⟨c, A, e1, e2, e3⟩ := A
  have q : c.slots.size = vs.length := by rw [← e1]; simp
  have hlt := (List.getElem?_eq_some_iff.mp hv).1
  exact lift (fun t q' => X.laload P.ex (j := j) (v := .long v) (by rw [e]; exact A.1) (State.isArrayOf_alike E.zz.alike A.2.1) A.2.2 (ix_in (by omega) (by omega)) (by rw [ix_nat hj, slots_at e1]; exact hv) (g := mkF x.m pc Ls (.int j :: .ref a :: st)) rfl rfl (P.d hd) t q') (r x T P)
theorem Go.caload (pc' : Nat) (hp : pc + 1 = pc') {a : Addr} {vs : List Value} {j : Int32} (v : Int32) (hd : decode B.by pc = .ok (.caload, 1)) (A : Ary Z h a .char vs) (jn : Nat) (hj : j.toInt = jn) (hv : vs[jn]? = some (.int v)) (r : Go Q Z B k n h pc' Ls (.int v :: st)) : Go Q Z B k n h pc Ls (.int j :: .ref a :: st) := fun x T P => by
  subst hp
  obtain ⟨E, O', locs, X, e, N'⟩ := id P
  obtain ⟨c, A, e1, e2, e3⟩ := A
  have q : c.slots.size = vs.length := by rw [← e1]; simp
  have hlt := (List.getElem?_eq_some_iff.mp hv).1
  exact lift (fun t q' => X.caload P.ex (j := j) (v := .int v) (by rw [e]; exact A.1) (State.isArrayOf_alike E.zz.alike A.2.1) A.2.2 (ix_in (by omega) (by omega)) (by rw [ix_nat hj, slots_at e1]; exact hv) (g := mkF x.m pc Ls (.int j :: .ref a :: st)) rfl rfl (P.d hd) t q') (r x T P)
theorem Go.saload (pc' : Nat) (hp : pc + 1 = pc') {a : Addr} {vs : List Value} {j : Int32} (v : Int32) (hd : decode B.by pc = .ok (.saload, 1)) (A : Ary Z h a .short vs) (jn : Nat) (hj : j.toInt = jn) (hv : vs[jn]? = some (.int v)) (r : Go Q Z B k n h pc' Ls (.int v :: st)) : Go Q Z B k n h pc Ls (.int j :: .ref a :: st) := fun x T P => by
  subst hp
  obtain ⟨E, O', locs, X, e, N'⟩ := id P
  obtain ⟨c, A, e1, e2, e3⟩ := A
  have q : c.slots.size = vs.length := by rw [← e1]; simp
  have hlt := (List.getElem?_eq_some_iff.mp hv).1
  exact lift (fun t q' => X.saload P.ex (j := j) (v := .int v) (by rw [e]; exact A.1) (State.isArrayOf_alike E.zz.alike A.2.1) A.2.2 (ix_in (by omega) (by omega)) (by rw [ix_nat hj, slots_at e1]; exact hv) (g := mkF x.m pc Ls (.int j :: .ref a :: st)) rfl rfl (P.d hd) t q') (r x T P)
theorem Go.baload (pc' : Nat) (hp : pc + 1 = pc') {a : Addr} {vs : List Value} {j : Int32} (v : Int32) (hd : decode B.by pc = .ok (.baload, 1)) (A : Ary Z h a .byte vs) (jn : Nat) (hj : j.toInt = jn) (hv : vs[jn]? = some (.int v)) (r : Go Q Z B k n h pc' Ls (.int v :: st)) : Go Q Z B k n h pc Ls (.int j :: .ref a :: st) := fun x T P => by
  subst hp
  obtain ⟨E, O', locs, X, e, N'⟩ := id P
  obtain ⟨c, A, e1, e2, e3⟩ := A
  have q : c.slots.size = vs.length := by rw [← e1]; simp
  have hlt := (List.getElem?_eq_some_iff.mp hv).1
  exact lift (fun t q' => X.baloadBytes P.ex (j := j) (v := .int v) (by rw [e]; exact A.1) (State.isArrayOf_alike E.zz.alike A.2.1) A.2.2 (ix_in (by omega) (by omega)) (by rw [ix_nat hj, slots_at e1]; exact hv) (g := mkF x.m pc Ls (.int j :: .ref a :: st)) rfl rfl (P.d hd) t q') (r x T P)
theorem Go.zaload (pc' : Nat) (hp : pc + 1 = pc') {a : Addr} {vs : List Value} {j : Int32} (v : Int32) (hd : decode B.by pc = .ok (.baload, 1)) (A : Ary Z h a .boolean vs) (jn : Nat) (hj : j.toInt = jn) (hv : vs[jn]? = some (.int v)) (r : Go Q Z B k n h pc' Ls (.int v :: st)) : Go Q Z B k n h pc Ls (.int j :: .ref a :: st) := fun x T P => by
  subst hp
  obtain ⟨E, O', locs, X, e, N'⟩ := id P
  obtain ⟨c, A, e1, e2, e3⟩ := A
  have q : c.slots.size = vs.length := by rw [← e1]; simp
  have hlt := (List.getElem?_eq_some_iff.mp hv).1
  exact lift (fun t q' => X.baloadBooleans P.ex (j := j) (v := .int v) (by rw [e]; exact A.1) (State.isArrayOf_alike E.zz.alike A.2.1) A.2.2 (ix_in (by omega) (by omega)) (by rw [ix_nat hj, slots_at e1]; exact hv) (g := mkF x.m pc Ls (.int j :: .ref a :: st)) rfl rfl (P.d hd) t q') (r x T P)
theorem Go.aaload (pc' : Nat) (hp : pc + 1 = pc') {ty : FieldType} {a : Addr} {vs : List Value} {j : Int32} (v : Value) (hd : decode B.by pc = .ok (.aaload, 1)) (hty : ty.isReference = true) (A : Ary Z h a ty vs) (jn : Nat) (hj : j.toInt = jn) (hv : vs[jn]? = some v) (r : Go Q Z B k n h pc' Ls (v :: st)) : Go Q Z B k n h pc Ls (.int j :: .ref a :: st) := fun x T P => by
  subst hp
  obtain ⟨E, O', locs, X, e, N'⟩ := id P
  obtain ⟨c, A, e1, e2, e3⟩ := A
  have q : c.slots.size = vs.length := by rw [← e1]; simp
  have hlt := (List.getElem?_eq_some_iff.mp hv).1
  exact lift (fun t q' => X.aaload P.ex (j := j) (v := v) (by rw [e]; exact A.1) (State.isArrayOf_alike E.zz.alike A.2.1) hty A.2.2 (ix_in (by omega) (by omega)) (by rw [ix_nat hj, slots_at e1]; exact hv) (g := mkF x.m pc Ls (.int j :: .ref a :: st)) rfl rfl (P.d hd) t q') (r x T P)
/-- a store into an array -/
theorem Ary.set {a : Addr} {ty : FieldType} {vs : List Value} {j : Nat} {v : Value} {c : Cell} (A : Arr Z h a c ty) (e1 : c.slots.toList = vs) (e2 : vs.length < 2 ^ 31) (e3 : ∀ v ∈ vs, fits ty v = true) (W : Wr h h' a j v) (hv : fits ty v = true) : Ary Z h' a ty (vs.set j v) := by
  refine ⟨c.setSlot j v, A.same W, ?_, by rw [List.length_set]; exact e2, fun w hw => ?_⟩
  · show (c.slots.setIfInBounds j v).toList = _
    rw [Array.toList_setIfInBounds, e1]
  · rcases List.mem_or_eq_of_mem_set hw with q | rfl
    · exact e3 _ q
    · exact hv
theorem Go.stI (pc' : Nat) (hp : pc + 1 = pc') {a : Addr} {vs : List Value} {j : Int32} {v : Int32} (hd : decode B.by pc = .ok (.iastore, 1)) (A : Ary Z h a .int vs) (jn : Nat) (hj : j.toInt = jn) (hlt : jn < vs.length) (ge : Z.heap.size ≤ a)
    (r : ∀ h' : Heap, Keep h h' [a] → Ary Z h' a .int (vs.set jn (.int v)) → Go Q Z B k n h' pc' Ls st) : Go Q Z B k n h pc Ls (.int v :: .int j :: .ref a :: st) := fun x T P => by
  subst hp
  obtain ⟨E, O', locs, X, e, N⟩ := id P
  obtain ⟨c, A, e1, e2, e3⟩ := A
  have q : c.slots.size = vs.length := by rw [← e1]; simp
  obtain ⟨T', h', X', e', W, s'⟩ := RoadKit.stI X P.ex E.zz e A (j := j) (ix_in (by omega) (by omega)) (g := mkF x.m pc Ls (.int v :: .int j :: .ref a :: st)) rfl rfl (P.d hd)
  rw [ix_nat hj] at W
  exact lift s' (r h' (keep_wr W) (Ary.set A e1 e2 e3 W (rfl)) x T' ⟨E, ext_keep O' (keep_wr W) (ge1 ge), _, X', e', fr_snoc N ge⟩)
theorem Go.stJ (pc' : Nat) (hp : pc + 1 = pc') {a : Addr} {vs : List Value} {j : Int32} {v : Int64} (hd : decode B.by pc = .ok (.lastore, 1)) (A : Ary Z h a .long vs) (jn : Nat) (hj : j.toInt = jn) (hlt : jn < vs.length) (ge : Z.heap.size ≤ a)
    (r : ∀ h' : Heap, Keep h h' [a] → Ary Z h' a .long (vs.set jn (.long v)) → Go Q Z B k n h' pc' Ls st) : Go Q Z B k n h pc Ls (.long v :: .int j :: .ref a :: st) := fun x T P => by
  subst hp
  obtain ⟨E, O', locs, X, e, N⟩ := id P
  obtain ⟨c, A, e1, e2, e3⟩ := A
  have q : c.slots.size = vs.length := by rw [← e1]; simp
  obtain ⟨T', h', X', e', W, s'⟩ := RoadKit.stJ X P.ex E.zz e A (j := j) (ix_in (by omega) (by omega)) (g := mkF x.m pc Ls (.long v :: .int j :: .ref a :: st)) rfl rfl (P.d hd)
  rw [ix_nat hj] at W
  exact lift s' (r h' (keep_wr W) (Ary.set A e1 e2 e3 W (rfl)) x T' ⟨E, ext_keep O' (keep_wr W) (ge1 ge), _, X', e', fr_snoc N ge⟩)
theorem Go.stC (pc' : Nat) (hp : pc + 1 = pc') {a : Addr} {vs : List Value} {j : Int32} {v : Int32} (hd : decode B.by pc = .ok (.castore, 1)) (A : Ary Z h a .char vs) (jn : Nat) (hj : j.toInt = jn) (hlt : jn < vs.length) (ge : Z.heap.size ≤ a)
    (r : ∀ h' : Heap, Keep h h' [a] → Ary Z h' a .char (vs.set jn (.int (nar .char v))) → Go Q Z B k n h' pc' Ls st) : Go Q Z B k n h pc Ls (.int v :: .int j :: .ref a :: st) := fun x T P => by
  subst hp
  obtain ⟨E, O', locs, X, e, N⟩ := id P
  obtain ⟨c, A, e1, e2, e3⟩ := A
  have q : c.slots.size = vs.length := by rw [← e1]; simp
  obtain ⟨T', h', X', e', W, s'⟩ := RoadKit.stC X P.ex E.zz e A (j := j) (ix_in (by omega) (by omega)) (g := mkF x.m pc Ls (.int v :: .int j :: .ref a :: st)) rfl rfl (P.d hd)
  rw [ix_nat hj] at W
  exact lift s' (r h' (keep_wr W) (Ary.set A e1 e2 e3 W (fits_nar_char v)) x T' ⟨E, ext_keep O' (keep_wr W) (ge1 ge), _, X', e', fr_snoc N ge⟩)
theorem Go.stS (pc' : Nat) (hp : pc + 1 = pc') {a : Addr} {vs : List Value} {j : Int32} {v : Int32} (hd : decode B.by pc = .ok (.sastore, 1)) (A : Ary Z h a .short vs) (jn : Nat) (hj : j.toInt = jn) (hlt : jn < vs.length) (ge : Z.heap.size ≤ a)
    (r : ∀ h' : Heap, Keep h h' [a] → Ary Z h' a .short (vs.set jn (.int (nar .short v))) → Go Q Z B k n h' pc' Ls st) : Go Q Z B k n h pc Ls (.int v :: .int j :: .ref a :: st) := fun x T P => by
  subst hp
  obtain ⟨E, O', locs, X, e, N⟩ := id P
  obtain ⟨c, A, e1, e2, e3⟩ := A
  have q : c.slots.size = vs.length := by rw [← e1]; simp
  obtain ⟨T', h', X', e', W, s'⟩ := RoadKit.stS X P.ex E.zz e A (j := j) (ix_in (by omega) (by omega)) (g := mkF x.m pc Ls (.int v :: .int j :: .ref a :: st)) rfl rfl (P.d hd)
  rw [ix_nat hj] at W
  exact lift s' (r h' (keep_wr W) (Ary.set A e1 e2 e3 W (fits_nar_short v)) x T' ⟨E, ext_keep O' (keep_wr W) (ge1 ge), _, X', e', fr_snoc N ge⟩)
theorem Go.stB (pc' : Nat) (hp : pc + 1 = pc') {a : Addr} {vs : List Value} {j : Int32} {v : Int32} (hd : decode B.by pc = .ok (.bastore, 1)) (A : Ary Z h a .byte vs) (jn : Nat) (hj : j.toInt = jn) (hlt : jn < vs.length) (ge : Z.heap.size ≤ a)
    (r : ∀ h' : Heap, Keep h h' [a] → Ary Z h' a .byte (vs.set jn (.int (nar .byte v))) → Go Q Z B k n h' pc' Ls st) : Go Q Z B k n h pc Ls (.int v :: .int j :: .ref a :: st) := fun x T P => by
  subst hp
  obtain ⟨E, O', locs, X, e, N⟩ := id P
  obtain ⟨c, A, e1, e2, e3⟩ := A
  have q : c.slots.size = vs.length := by rw [← e1]; simp
  obtain ⟨T', h', X', e', W, s'⟩ := RoadKit.stB X P.ex E.zz e A (j := j) (ix_in (by omega) (by omega)) (g := mkF x.m pc Ls (.int v :: .int j :: .ref a :: st)) rfl rfl (P.d hd)
  rw [ix_nat hj] at W
  exact lift s' (r h' (keep_wr W) (Ary.set A e1 e2 e3 W (fits_nar_byte v)) x T' ⟨E, ext_keep O' (keep_wr W) (ge1 ge), _, X', e', fr_snoc N ge⟩)
theorem Go.stZ (pc' : Nat) (hp : pc + 1 = pc') {a : Addr} {vs : List Value} {j : Int32} {v : Int32} (hd : decode B.by pc = .ok (.bastore, 1)) (A : Ary Z h a .boolean vs) (jn : Nat) (hj : j.toInt = jn) (hlt : jn < vs.length) (ge : Z.heap.size ≤ a)
    (r : ∀ h' : Heap, Keep h h' [a] → Ary Z h' a .boolean (vs.set jn (.int (nar .boolean v))) → Go Q Z B k n h' pc' Ls st) : Go Q Z B k n h pc Ls (.int v :: .int j :: .ref a :: st) := fun x T P => by
  subst hp
  obtain ⟨E, O', locs, X, e, N⟩ := id P
  obtain ⟨c, A, e1, e2, e3⟩ := A
  have q : c.slots.size = vs.length := by rw [← e1]; simp
  obtain ⟨T', h', X', e', W, s'⟩ := RoadKit.stZ X P.ex E.zz e A (j := j) (ix_in (by omega) (by omega)) (g := mkF x.m pc Ls (.int v :: .int j :: .ref a :: st)) rfl rfl (P.d hd)
  rw [ix_nat hj] at W
  exact lift s' (r h' (keep_wr W) (Ary.set A e1 e2 e3 W (fits_nar_bool v)) x T' ⟨E, ext_keep O' (keep_wr W) (ge1 ge), _, X', e', fr_snoc N ge⟩)
theorem Go.stR (pc' : Nat) (hp : pc + 1 = pc') {C : String} {a b : Addr} {vs : List Value} {j : Int32} (hd : decode B.by pc = .ok (.aastore, 1)) (A : Ary Z h a (.object C) vs) (O : Aov Z h a C) (I : Ins Z h b C true) (jn : Nat) (hj : j.toInt = jn) (hlt : jn < vs.length) (ge : Z.heap.size ≤ a)
    (r : ∀ h' : Heap, Keep h h' [a] → Ary Z h' a (.object C) (vs.set jn (.ref b)) → Go Q Z B k n h' pc' Ls st) : Go Q Z B k n h pc Ls (.ref b :: .int j :: .ref a :: st) := fun x T P => by
  subst hp
  obtain ⟨E, O', locs, X, e, N⟩ := id P
  obtain ⟨c, A, e1, e2, e3⟩ := A
  obtain ⟨c', q1, q2⟩ := O
  cases q1.symm.trans A.1
  have q : c.slots.size = vs.length := by rw [← e1]; simp
  obtain ⟨T', h', X', e', W, s'⟩ := RoadKit.stR X P.ex E.zz e A (j := j) (v := .ref b) (ix_in (by omega) (by omega)) rfl (Sto.of A q2 I) (g := mkF x.m pc Ls (.ref b :: .int j :: .ref a :: st)) rfl rfl (P.d hd)
  rw [ix_nat hj] at W
  exact lift s' (r h' (keep_wr W) (Ary.set A e1 e2 e3 W rfl) x T' ⟨E, ext_keep O' (keep_wr W) (ge1 ge), _, X', e', fr_snoc N ge⟩)
/-! ## returns -/
theorem ret_core {v : Option Value} {T : State} {locs : List Loc} {fs : List Frame} (E : En Z x B) (O' : Ext Z.heap h) (e : T.heap = h) (N : Fr Z.heap.size locs) (hk : k ≤ B.R.cells) (hn : n ≤ B.R.slots) (hQ : Q v h)
    (hs : Steps x.p.tables x.e x.below (T.setTop (mkF x.m pc Ls st)) (T.setFrames fs)) (hrun : (T.setFrames fs).status = .running) (hended : Ended (T.setFrames fs) x.below (.returned v)) (hW : x.s.WarmedH (T.setFrames fs).vm) (hsame : x.s.sameButNew ({ T.setFrames fs with vm := x.s.vm } : State) locs k n) : Rn Q Z x B T pc Ls st := by
  subst e
  exact ⟨T.setFrames fs, _, hs, hrun, hended, _, locs, rfl, ⟨hQ, O', N⟩, ⟨_, rfl⟩, hW, hsame.mono hk hn⟩
theorem Go.retV (hd : decode B.by pc = .ok (.return_, 1)) (ht : B.rt = none) (hk : k ≤ B.R.cells) (hn : n ≤ B.R.slots) (hQ : Q none h) : Go Q Z B k n h pc Ls [] := fun x T P => by
  obtain ⟨E, O', locs, X, e, N⟩ := id P
  obtain ⟨fs, hr, hrun, hended, hW, hsame⟩ := X.leave (v := none) (fun _ => rfl) E.nl
  exact ret_core E O' e N hk hn hQ (X.returnOut P.ex (E.rt.trans ht) (P.d hd) hr) hrun hended hW hsame
theorem Go.retI {z : Int32} (hd : decode B.by pc = .ok (.ireturn, 1)) (ht : B.rt = some .int) (hk : k ≤ B.R.cells) (hn : n ≤ B.R.slots) (hQ : Q (some (.int z)) h) : Go Q Z B k n h pc Ls [.int z] := fun x T P => by
  obtain ⟨E, O', locs, X, e, N⟩ := id P
  obtain ⟨fs, hr, hrun, hended, hW, hsame⟩ := X.leave (v := some (.int z)) (fun q => by rw [E.rt, ht] at q; cases q) E.nl
  exact ret_core E O' e N hk hn hQ (X.ireturnOut P.ex (E.rt.trans ht) rfl (Or.inl rfl) (P.d hd) hr) hrun hended hW hsame
theorem Go.retN {z z' : Int32} {t : FieldType} (hd : decode B.by pc = .ok (.ireturn, 1)) (ht : B.rt = some t) (hz : t = .boolean ∨ t = .byte ∨ t = .char ∨ t = .short) (hq : nar t z = z') (hk : k ≤ B.R.cells) (hn : n ≤ B.R.slots) (hQ : Q (some (.int z')) h) : Go Q Z B k n h pc Ls (.int z :: st) := fun x T P => by
  subst hq
  obtain ⟨E, O', locs, X, e, N⟩ := id P
  obtain ⟨fs, hr, hrun, hended, hW, hsame⟩ := X.leave (v := some (.int (nar t z))) (fun q => by rw [E.rt, ht] at q; cases q) E.nl
  exact ret_core E O' e N hk hn hQ (RoadKit.retN X P.ex (E.rt.trans ht) hz (P.d hd) hr) hrun hended hW hsame
theorem Go.retJ {z : Int64} (hd : decode B.by pc = .ok (.lreturn, 1)) (ht : B.rt = some .long) (hk : k ≤ B.R.cells) (hn : n ≤ B.R.slots) (hQ : Q (some (.long z)) h) : Go Q Z B k n h pc Ls [.long z] := fun x T P => by
  obtain ⟨E, O', locs, X, e, N⟩ := id P
  obtain ⟨fs, hr, hrun, hended, hW, hsame⟩ := X.leave (v := some (.long z)) (fun q => by rw [E.rt, ht] at q; cases q) E.nl
  exact ret_core E O' e N hk hn hQ (X.lreturnOut P.ex (E.rt.trans ht) (P.d hd) hr) hrun hended hW hsame
theorem Go.retD {z : UInt64} (hd : decode B.by pc = .ok (.dreturn, 1)) (ht : B.rt = some .double) (hk : k ≤ B.R.cells) (hn : n ≤ B.R.slots) (hQ : Q (some (.double z)) h) : Go Q Z B k n h pc Ls (.double z :: st) := fun x T P => by
  obtain ⟨E, O', locs, X, e, N⟩ := id P
  obtain ⟨fs, hr, hrun, hended, hW, hsame⟩ := X.leave (v := some (.double z)) (fun q => by rw [E.rt, ht] at q; cases q) E.nl
  exact ret_core E O' e N hk hn hQ (retOut X P.ex (i := .dreturn) (E.rt.trans ht) rfl (Or.inr (Or.inr (Or.inl ⟨rfl, rfl, _, rfl⟩))) (P.d hd) hr) hrun hended hW hsame
theorem Go.retA {z : Value} {t : FieldType} (hd : decode B.by pc = .ok (.areturn, 1)) (ht : B.rt = some t) (hr' : t.isReference = true) (hz : z.isRef = true) (hk : k ≤ B.R.cells) (hn : n ≤ B.R.slots) (hQ : Q (some z) h) : Go Q Z B k n h pc Ls [z] := fun x T P => by
  obtain ⟨E, O', locs, X, e, N⟩ := id P
  obtain ⟨fs, hr, hrun, hended, hW, hsame⟩ := X.leave (v := some z) (fun q => by rw [E.rt, ht] at q; cases q) E.nl
  exact ret_core E O' e N hk hn hQ (X.areturnOut P.ex hz (E.rt.trans ht) hr' (P.d hd) hr) hrun hended hW hsame
/-! ## calls -/
theorem Con.back {C : Bd} {as : Array Value} {Qc : Option Value → Heap → Prop} {len W : Nat} (K : Con Z C as h Qc) (P : Sp Z x B T k n h) (i j : Nat) (wc : B.tb[i]? = some (.code C.y C.by C.ml C.rt)) (wz : B.tb[j]? = some (.initialized C.y.cls)) (hf : C.R.frames + 1 ≤ B.R.frames) (hl : W + (C.ml + 11) + C.R.locals ≤ B.R.locals) :
    Back x.l B.R x.p x.e x.below x.s x.args C.y len W (fun A a => a = as ∧ A.U.heap = h ∧ A.cells + C.R.cells ≤ B.R.cells ∧ A.slots + C.R.slots ≤ B.R.slots)
      (fun A _ v D => ∃ L, (Qc v D.U.heap ∧ Ext Z.heap D.U.heap ∧ Fr Z.heap.size L) ∧ D.locs = A.locs ++ L ∧ D.cells = A.cells + C.R.cells ∧ D.slots = A.slots + C.R.slots) := by
  obtain ⟨a0, hw⟩ := P.wd.w
  exact backOf (a0 := a0) (Q := fun v h' L => Qc v h' ∧ Ext Z.heap h' ∧ Fr Z.heap.size L) (K P.old x.l []) P.1.zz (hw wc) (hw wz) hf hl
theorem Go.callS (pc' : Nat) (hp : pc + 3 = pc') {C : Bd} {Qc : Option Value → Heap → Prop} {ix : Nat} (argsL : List Value) {st : List Value} (i1 i2 i3 i4 : Nat) (K : Con Z C argsL.toArray h Qc) (hd : decode B.by pc = .ok (.invokestatic ix, 3)) (w1 : B.tb[i1]? = some (.methodLink B.y.cls ix C.y)) (w2 : B.tb[i2]? = some (.static C.y)) (w3 : B.tb[i3]? = some (.initialized C.y.cls)) (w4 : B.tb[i4]? = some (.code C.y C.by C.ml C.rt))
    (hy : C.y.cls ≠ "java/lang/invoke/MethodHandle" ∧ C.y.cls ≠ "java/lang/invoke/VarHandle") {ps : List FieldType} {rt : Option FieldType} (hpd : parseMethodDescriptor C.y.desc = some ⟨ps, rt⟩) (hlen : argsL.length = ps.length) (hs : Ls.size = B.ml) (hst : st = argsL.reverse ++ rest) {W : Nat} (hW : (rest.map fun v => v.category).sum ≤ W) (hf : C.R.frames + 1 ≤ B.R.frames) (hl : W + (C.ml + 11) + C.R.locals ≤ B.R.locals) (hc : k + C.R.cells ≤ B.R.cells) (hn : n + C.R.slots ≤ B.R.slots)
    (r : ∀ (v : Option Value) (h' : Heap), Qc v h' → Go Q Z B (k + C.R.cells) (n + C.R.slots) h' pc' Ls (v.toList ++ rest)) : Go Q Z B k n h pc Ls st := fun x T P => by
  subst hp hst
  obtain ⟨a0, hw⟩ := P.wd.w
  obtain ⟨E, O', locs, X, e, N⟩ := id P
  obtain ⟨v, vm₁, ⟨T1, L1, k1, n1⟩, -, X1, ⟨Lc, hQ, l1, y1, z1⟩, st1⟩ := Jvm.LawKit.callS X P.ex (y := C.y) E.own (mvT E.zz (hw w1)) (mvT E.zz (hw w2)) (mvT E.zz (hw w3)) (mvT E.zz (hw w4)) hy (K.back (W := W) P i4 i3 w4 w3 hf hl) (g := mkF x.m pc Ls (argsL.reverse ++ rest)) rfl (by rw [E.ml]; exact hs) (argsL := argsL) (rest := rest) (lenOf hpd hlen) rfl (by show 2 * 0 + _ ≤ _; omega) (P.d hd) (fun _ _ => ⟨rfl, e, hc, hn⟩)
  dsimp only [Pt.U, Pt.locs, Pt.cells, Pt.slots] at X1 l1 y1 z1 st1 hQ
  subst l1 y1 z1
  exact lift st1 (r v T1.heap hQ.1 x T1 ⟨E, hQ.2.1, _, X1, rfl, N.app hQ.2.2⟩)
theorem Go.callI (pc' : Nat) (hp : pc + 3 = pc') {C : Bd} {Qc : Option Value → Heap → Prop} {ix : Nat} (a : Addr) (argsL : List Value) {st : List Value} (i1 i2 i3 i4 : Nat) (K : Con Z C (.ref a :: argsL).toArray h Qc) (hd : decode B.by pc = .ok (.invokespecial ix, 3)) (w1 : B.tb[i1]? = some (.methodLink B.y.cls ix C.y)) (w2 : B.tb[i2]? = some (.instanceMethod C.y)) (w3 : B.tb[i3]? = some (.initialized C.y.cls)) (w4 : B.tb[i4]? = some (.code C.y C.by C.ml none)) (hrt : C.rt = none) (hi : C.y.name = "<init>")
    (hy : C.y.cls ≠ "java/lang/invoke/MethodHandle" ∧ C.y.cls ≠ "java/lang/invoke/VarHandle") {ps : List FieldType} {rt : Option FieldType} (hpd : parseMethodDescriptor C.y.desc = some ⟨ps, rt⟩) (hlen : argsL.length = ps.length) (hs : Ls.size = B.ml) (hst : st = argsL.reverse ++ .ref a :: rest) {W : Nat} (hW : (rest.map fun v => v.category).sum ≤ W) (hf : C.R.frames + 1 ≤ B.R.frames) (hl : W + (C.ml + 11) + C.R.locals ≤ B.R.locals) (hc : k + C.R.cells ≤ B.R.cells) (hn : n + C.R.slots ≤ B.R.slots)
    (r : ∀ (v : Option Value) (h' : Heap), Qc v h' → Go Q Z B (k + C.R.cells) (n + C.R.slots) h' pc' Ls (v.toList ++ rest)) : Go Q Z B k n h pc Ls st := fun x T P => by
  subst hp hst
  obtain ⟨a0, hw⟩ := P.wd.w
  obtain ⟨E, O', locs, X, e, N⟩ := id P
  obtain ⟨v, vm₁, ⟨T1, L1, k1, n1⟩, -, X1, ⟨Lc, hQ, l1, y1, z1⟩, st1⟩ := X.specialBack P.ex (y := C.y) hi E.own (mvT E.zz (hw w1)) (mvT E.zz (hw w2)) (mvT E.zz (hw w4)) hy (K.back (W := W) P i4 i3 (by rw [hrt]; exact w4) w3 hf hl) (g := mkF x.m pc Ls (argsL.reverse ++ .ref a :: rest)) rfl (by rw [E.ml]; exact hs) (Steps.refl _) (a := a) (argsL := argsL) (rest := rest) (lenOf hpd hlen) rfl (by show 2 * 0 + _ ≤ _; omega) (P.d hd) (fun _ _ => ⟨rfl, e, hc, hn⟩)
  dsimp only [Pt.U, Pt.locs, Pt.cells, Pt.slots] at X1 l1 y1 z1 st1 hQ
  subst l1 y1 z1
  exact liftS st1 (r v T1.heap hQ.1 x T1 ⟨E, hQ.2.1, _, X1, rfl, N.app hQ.2.2⟩)
theorem Go.callV (pc' : Nat) (hp : pc + 3 = pc') {C : Bd} {Qc : Option Value → Heap → Prop} {ix : Nat} {D : String} (a : Addr) (argsL : List Value) {st : List Value} (i1 i2 i3 i4 i5 i6 : Nat) (K : Con Z C (.ref a :: argsL).toArray h Qc) (Ea : Exa Z h a D) (hd : decode B.by pc = .ok (.invokevirtual ix, 3)) (w1 : B.tb[i1]? = some (.methodLink B.y.cls ix C.y)) (w2 : B.tb[i2]? = some (.declares C.y)) (w3 : B.tb[i3]? = some (.selects D C.y C.y)) (w4 : B.tb[i4]? = some (.instanceMethod C.y)) (w5 : B.tb[i5]? = some (.initialized C.y.cls)) (w6 : B.tb[i6]? = some (.code C.y C.by C.ml C.rt))
    (hy : C.y.cls ≠ "java/lang/invoke/MethodHandle" ∧ C.y.cls ≠ "java/lang/invoke/VarHandle") {ps : List FieldType} {rt : Option FieldType} (hpd : parseMethodDescriptor C.y.desc = some ⟨ps, rt⟩) (hlen : argsL.length = ps.length) (hs : Ls.size = B.ml) (hst : st = argsL.reverse ++ .ref a :: rest) {W : Nat} (hW : (rest.map fun v => v.category).sum ≤ W) (hf : C.R.frames + 1 ≤ B.R.frames) (hl : W + (C.ml + 11) + C.R.locals ≤ B.R.locals) (hc : k + C.R.cells ≤ B.R.cells) (hn : n + C.R.slots ≤ B.R.slots)
    (r : ∀ (v : Option Value) (h' : Heap), Qc v h' → Go Q Z B (k + C.R.cells) (n + C.R.slots) h' pc' Ls (v.toList ++ rest)) : Go Q Z B k n h pc Ls st := fun x T P => by
  subst hp hst
  obtain ⟨a0, hw⟩ := P.wd.w
  obtain ⟨E, O', locs, X, e, N⟩ := id P
  obtain ⟨cq, kq, qa, qb, qc⟩ := isOf E.zz e Ea
  obtain ⟨v, vm₁, ⟨T1, L1, k1, n1⟩, -, X1, ⟨Lc, hQ, l1, y1, z1⟩, st1⟩ := X.virtualBack P.ex (y := C.y) (z := C.y) E.own (mvT E.zz (hw w1)) (mvT E.zz (hw w2)) (notFace_of_selects (args := #[]) (mvT E.zz (hw w3))) (mvT E.zz (hw w3)) (mvT E.zz (hw w4)) hy (K.back (W := W) P i6 i5 w6 w5 hf hl) qa qc (g := mkF x.m pc Ls (argsL.reverse ++ .ref a :: rest)) rfl (by rw [E.ml]; exact hs) (Steps.refl _) (argsL := argsL) (rest := rest) (lenOf hpd hlen) rfl (by show 2 * 0 + _ ≤ _; omega) (P.d hd) (fun _ _ => ⟨rfl, e, hc, hn⟩)
  dsimp only [Pt.U, Pt.locs, Pt.cells, Pt.slots] at X1 l1 y1 z1 st1 hQ
  subst l1 y1 z1
  exact liftS st1 (r v T1.heap hQ.1 x T1 ⟨E, hQ.2.1, _, X1, rfl, N.app hQ.2.2⟩)
theorem Go.callP (pc' : Nat) (hp : pc + 3 = pc') {C : Bd} {Qc : Option Value → Heap → Prop} {ix : Nat} {D : String} (a : Addr) (argsL : List Value) {st : List Value} (i1 i2 i3 i4 i5 i6 : Nat) (K : Con Z C (.ref a :: argsL).toArray h Qc) (Ea : Exa Z h a D) (hd : decode B.by pc = .ok (.invokevirtual ix, 3)) (w1 : B.tb[i1]? = some (.methodLink B.y.cls ix C.y)) (w2 : B.tb[i2]? = some (.instanceMethod C.y)) (w3 : B.tb[i3]? = some (.selects C.y.cls C.y C.y)) (w4 : B.tb[i4]? = some (.privateMethod C.y)) (w5 : B.tb[i5]? = some (.initialized C.y.cls)) (w6 : B.tb[i6]? = some (.code C.y C.by C.ml C.rt))
    (hy : C.y.cls ≠ "java/lang/invoke/MethodHandle" ∧ C.y.cls ≠ "java/lang/invoke/VarHandle") {ps : List FieldType} {rt : Option FieldType} (hpd : parseMethodDescriptor C.y.desc = some ⟨ps, rt⟩) (hlen : argsL.length = ps.length) (hs : Ls.size = B.ml) (hst : st = argsL.reverse ++ .ref a :: rest) {W : Nat} (hW : (rest.map fun v => v.category).sum ≤ W) (hf : C.R.frames + 1 ≤ B.R.frames) (hl : W + (C.ml + 11) + C.R.locals ≤ B.R.locals) (hc : k + C.R.cells ≤ B.R.cells) (hn : n + C.R.slots ≤ B.R.slots)
    (r : ∀ (v : Option Value) (h' : Heap), Qc v h' → Go Q Z B (k + C.R.cells) (n + C.R.slots) h' pc' Ls (v.toList ++ rest)) : Go Q Z B k n h pc Ls st := fun x T P => by
  subst hp hst
  obtain ⟨a0, hw⟩ := P.wd.w
  obtain ⟨E, O', locs, X, e, N⟩ := id P
  obtain ⟨cq, qa, qb⟩ := Ea.cell
  obtain ⟨v, vm₁, ⟨T1, L1, k1, n1⟩, -, X1, ⟨Lc, hQ, l1, y1, z1⟩, st1⟩ := X.privateBack P.ex (y := C.y) E.own (mvT E.zz (hw w1)) (mvT E.zz (hw w2)) (mvT E.zz (hw w3)) (Cond.privateMethod_at (mvP E.zz (hw w4) (args := #[]))) (mvT E.zz (hw w6)) hy (K.back (W := W) P i6 i5 w6 w5 hf hl) (g := mkF x.m pc Ls (argsL.reverse ++ .ref a :: rest)) rfl (by rw [E.ml]; exact hs) (Steps.refl _) (a := a) (by rw [e]; exact qa) qb (argsL := argsL) (rest := rest) (lenOf hpd hlen) rfl (by show 2 * 0 + _ ≤ _; omega) (P.d hd) (fun _ _ => ⟨rfl, e, hc, hn⟩)
  dsimp only [Pt.U, Pt.locs, Pt.cells, Pt.slots] at X1 l1 y1 z1 st1 hQ
  subst l1 y1 z1
  exact liftS st1 (r v T1.heap hQ.1 x T1 ⟨E, hQ.2.1, _, X1, rfl, N.app hQ.2.2⟩)
theorem Go.callF (pc' : Nat) (hp : pc + 5 = pc') {C : Bd} {Qc : Option Value → Heap → Prop} {ix ct : Nat} {y : MethodName} {D : String} (a : Addr) (argsL : List Value) {st : List Value} (i1 i2 i3 i4 i5 i6 i7 i8 i9 i10 : Nat) (K : Con Z C (.ref a :: argsL).toArray h Qc) (Ea : Exa Z h a D) (hd : decode B.by pc = .ok (.invokeinterface ix ct, 5)) (w1 : B.tb[i1]? = some (.methodLink B.y.cls ix y)) (w2 : B.tb[i2]? = some (.declares y)) (w3 : B.tb[i3]? = some (.interfaceMethod y.cls y.cls y.name y.desc)) (w4 : B.tb[i4]? = some (.selects D y C.y)) (w5 : B.tb[i5]? = some (.instanceMethod C.y)) (w6 : B.tb[i6]? = some (.publicMethod C.y)) (w7 : B.tb[i7]? = some (.unhidden D y.name y.desc)) (w8 : B.tb[i8]? = some (.castable D y.cls)) (w9 : B.tb[i9]? = some (.initialized C.y.cls)) (w10 : B.tb[i10]? = some (.code C.y C.by C.ml C.rt)) (hk : ((Cond.interfaceMethod y.cls y.cls y.name y.desc).onTables && (Cond.interfaceMethod y.cls y.cls y.name y.desc).keepsFace) = true)
    (hy : y.cls ≠ "java/lang/invoke/MethodHandle" ∧ y.cls ≠ "java/lang/invoke/VarHandle") {ps : List FieldType} {rt : Option FieldType} (hpd : parseMethodDescriptor y.desc = some ⟨ps, rt⟩) (hlen : argsL.length = ps.length) (hs : Ls.size = B.ml) (hst : st = argsL.reverse ++ .ref a :: rest) {W : Nat} (hW : (rest.map fun v => v.category).sum ≤ W) (hf : C.R.frames + 1 ≤ B.R.frames) (hl : W + (C.ml + 11) + C.R.locals ≤ B.R.locals) (hc : k + C.R.cells ≤ B.R.cells) (hn : n + C.R.slots ≤ B.R.slots)
    (r : ∀ (v : Option Value) (h' : Heap), Qc v h' → Go Q Z B (k + C.R.cells) (n + C.R.slots) h' pc' Ls (v.toList ++ rest)) : Go Q Z B k n h pc Ls st := fun x T P => by
  subst hp hst
  obtain ⟨a0, hw⟩ := P.wd.w
  obtain ⟨E, O', locs, X, e, N⟩ := id P
  obtain ⟨cq, kq, qa, qb, qc⟩ := isOf E.zz e Ea
  obtain ⟨v, vm₁, ⟨T1, L1, k1, n1⟩, -, X1, ⟨Lc, hQ, l1, y1, z1⟩, st1⟩ := X.interfaceBack P.ex (xi := y) (y := C.y) E.own (mvT E.zz (hw w1)) (mvT E.zz (hw w2)) (mvT E.zz (hw w3) hk) (mvT E.zz (hw w4)) (mvT E.zz (hw w5)) (mvT E.zz (hw w6)) (mvT E.zz (hw w7)) (mvT E.zz (hw w8)) hy (K.back (W := W) P i10 i9 w10 w9 hf hl) qa qb qc (g := mkF x.m pc Ls (argsL.reverse ++ .ref a :: rest)) rfl (by rw [E.ml]; exact hs) (Steps.refl _) (argsL := argsL) (rest := rest) (lenOf hpd hlen) rfl (by show 2 * 0 + _ ≤ _; omega) (P.d hd) (fun _ _ => ⟨rfl, e, hc, hn⟩)
  dsimp only [Pt.U, Pt.locs, Pt.cells, Pt.slots] at X1 l1 y1 z1 st1 hQ
  subst l1 y1 z1
  exact liftS st1 (r v T1.heap hQ.1 x T1 ⟨E, hQ.2.1, _, X1, rfl, N.app hQ.2.2⟩)
theorem Go.callVU (pc' : Nat) (hp : pc + 3 = pc') {C : Bd} {Qc : Option Value → Heap → Prop} {ix : Nat} {y : MethodName} {D ow : String} (a : Addr) (argsL : List Value) {st : List Value} (i1 i2 i3 i4 i5 i6 i7 : Nat) (K : Con Z C (.ref a :: argsL).toArray h Qc) (Ea : Exa Z h a D) (hd : decode B.by pc = .ok (.invokevirtual ix, 3)) (w1 : B.tb[i1]? = some (.methodLink B.y.cls ix y)) (w2 : B.tb[i2]? = some (.sameMethod y.cls ow y.name y.desc)) (w3 : B.tb[i3]? = some (.declares ⟨ow, y.name, y.desc⟩)) (w4 : B.tb[i4]? = some (.selects D y C.y)) (w5 : B.tb[i5]? = some (.instanceMethod C.y)) (w6 : B.tb[i6]? = some (.initialized C.y.cls)) (w7 : B.tb[i7]? = some (.code C.y C.by C.ml C.rt))
    (hy : ow ≠ "java/lang/invoke/MethodHandle" ∧ ow ≠ "java/lang/invoke/VarHandle") {ps : List FieldType} {rt : Option FieldType} (hpd : parseMethodDescriptor y.desc = some ⟨ps, rt⟩) (hlen : argsL.length = ps.length) (hs : Ls.size = B.ml) (hst : st = argsL.reverse ++ .ref a :: rest) {W : Nat} (hW : (rest.map fun v => v.category).sum ≤ W) (hf : C.R.frames + 1 ≤ B.R.frames) (hl : W + (C.ml + 11) + C.R.locals ≤ B.R.locals) (hc : k + C.R.cells ≤ B.R.cells) (hn : n + C.R.slots ≤ B.R.slots)
    (r : ∀ (v : Option Value) (h' : Heap), Qc v h' → Go Q Z B (k + C.R.cells) (n + C.R.slots) h' pc' Ls (v.toList ++ rest)) : Go Q Z B k n h pc Ls st := fun x T P => by
  subst hp hst
  obtain ⟨a0, hw⟩ := P.wd.w
  obtain ⟨E, O', locs, X, e, N⟩ := id P
  obtain ⟨cq, kq, qa, qb, qc⟩ := isOf E.zz e Ea
  obtain ⟨v, vm₁, ⟨T1, L1, k1, n1⟩, -, X1, ⟨Lc, hQ, l1, y1, z1⟩, st1⟩ := X.virtualBackUp P.ex (x := y) (y := C.y) E.own (mvT E.zz (hw w1)) (mvT E.zz (hw w2)) (mvT E.zz (hw w3)) hy (mvT E.zz (hw w4)) (mvT E.zz (hw w5)) (K.back (W := W) P i7 i6 w7 w6 hf hl) qa qc (g := mkF x.m pc Ls (argsL.reverse ++ .ref a :: rest)) rfl (by rw [E.ml]; exact hs) (Steps.refl _) (argsL := argsL) (rest := rest) (lenOf hpd hlen) rfl (by show 2 * 0 + _ ≤ _; omega) (P.d hd) (fun _ _ => ⟨rfl, e, hc, hn⟩)
  dsimp only [Pt.U, Pt.locs, Pt.cells, Pt.slots] at X1 l1 y1 z1 st1 hQ
  subst l1 y1 z1
  exact liftS st1 (r v T1.heap hQ.1 x T1 ⟨E, hQ.2.1, _, X1, rfl, N.app hQ.2.2⟩)
/-- the contract of a body with handlers (none of which is reached) -/
def ConW (hs : List (Nat × Nat × Nat × Nat)) (Z : State) (B : Bd) (as : Array Value) (h0 : Heap) (Q : Option Value → Heap → Prop) : Prop :=
  Ext Z.heap h0 → ∀ (l : Launch) (ws : List Cond), MetFree l B.y (head1 (Cond.codeWith B.y B.by B.ml B.rt hs :: ws) B.R) (fun a U => a = as ∧ Z.Warmed39 U.vm ∧ U.heap = h0) (fun _ _ _ _ _ => True)
    (fun _ U o U' => ∃ v L, o = .returned v ∧ (Q v U'.heap ∧ Ext Z.heap U'.heap ∧ Fr Z.heap.size L) ∧ FrameEnd U o U' L B.R.cells B.R.slots)
theorem ConW.mk {hs : List (Nat × Nat × Nat × Nat)} {as : Array Value} {h0 : Heap} (hw : Wd Z B.tb) (hpn : plainFor B.y = true) (hef : ∀ m, entryFrame m as B.ml = mkF m 0 Ls [])
    (body : Go Q Z B 0 0 h0 0 Ls []) : ConW hs Z B as h0 Q := by
  intro hE l ws
  refine MetFree.of_bodySF hpn hisWith ?_
  intro p e s m args below meth c s₁ Bd hml0 hP hK
  obtain ⟨rfl, hZ, hh⟩ := hP
  have X0 : Stand p l e B.R s m args below meth c s₁ [] 0 0 := Stand.of_body Bd
  have e0 : s₁.heap = h0 := by rw [← hh, Bd.state]; rfl
  obtain ⟨t, o, h1, h2, h3, h4⟩ := body (p, l, e, s, m, args, below, meth, c) s₁ ⟨⟨Bd.exec, Bd.bytes, hml0, findClass_of_methodNamed Bd.named, (name_of_methodNamed Bd.named Bd.method).1, Bd.returns, hZ, Bd.notSynchronized, hw⟩, hE, [], X0, e0, Fr.nil _⟩
  exact ⟨t, o, castTop (hef m) h1, h2, h3, h4⟩
theorem ConW.back {hs : List (Nat × Nat × Nat × Nat)} {C : Bd} {as : Array Value} {Qc : Option Value → Heap → Prop} {len W : Nat} (K : ConW hs Z C as h Qc) (P : Sp Z x B T k n h) (i j : Nat) (wc : B.tb[i]? = some (.codeWith C.y C.by C.ml C.rt hs)) (wz : B.tb[j]? = some (.initialized C.y.cls)) (hf : C.R.frames + 1 ≤ B.R.frames) (hl : W + (C.ml + 11) + C.R.locals ≤ B.R.locals) :
    Back x.l B.R x.p x.e x.below x.s x.args C.y len W (fun A a => a = as ∧ A.U.heap = h ∧ A.cells + C.R.cells ≤ B.R.cells ∧ A.slots + C.R.slots ≤ B.R.slots)
      (fun A _ v D => ∃ L, (Qc v D.U.heap ∧ Ext Z.heap D.U.heap ∧ Fr Z.heap.size L) ∧ D.locs = A.locs ++ L ∧ D.cells = A.cells + C.R.cells ∧ D.slots = A.slots + C.R.slots) := by
  obtain ⟨a0, hw⟩ := P.wd.w
  exact backOfWith (a0 := a0) (Q := fun v h' L => Qc v h' ∧ Ext Z.heap h' ∧ Fr Z.heap.size L) (K P.old x.l []) P.1.zz (hw wc) (hw wz) hf hl
theorem Go.callFW (pc' : Nat) (hp : pc + 5 = pc') {hs' : List (Nat × Nat × Nat × Nat)} {C : Bd} {Qc : Option Value → Heap → Prop} {ix ct : Nat} {y : MethodName} {D : String} (a : Addr) (argsL : List Value) {st : List Value} (i1 i2 i3 i4 i5 i6 i7 i8 i9 i10 : Nat) (K : ConW hs' Z C (.ref a :: argsL).toArray h Qc) (Ea : Exa Z h a D) (hd : decode B.by pc = .ok (.invokeinterface ix ct, 5)) (w1 : B.tb[i1]? = some (.methodLink B.y.cls ix y)) (w2 : B.tb[i2]? = some (.declares y)) (w3 : B.tb[i3]? = some (.interfaceMethod y.cls y.cls y.name y.desc)) (w4 : B.tb[i4]? = some (.selects D y C.y)) (w5 : B.tb[i5]? = some (.instanceMethod C.y)) (w6 : B.tb[i6]? = some (.publicMethod C.y)) (w7 : B.tb[i7]? = some (.unhidden D y.name y.desc)) (w8 : B.tb[i8]? = some (.castable D y.cls)) (w9 : B.tb[i9]? = some (.initialized C.y.cls)) (w10 : B.tb[i10]? = some (.codeWith C.y C.by C.ml C.rt hs')) (hk : ((Cond.interfaceMethod y.cls y.cls y.name y.desc).onTables && (Cond.interfaceMethod y.cls y.cls y.name y.desc).keepsFace) = true)
    (hy : y.cls ≠ "java/lang/invoke/MethodHandle" ∧ y.cls ≠ "java/lang/invoke/VarHandle") {ps : List FieldType} {rt : Option FieldType} (hpd : parseMethodDescriptor y.desc = some ⟨ps, rt⟩) (hlen : argsL.length = ps.length) (hs : Ls.size = B.ml) (hst : st = argsL.reverse ++ .ref a :: rest) {W : Nat} (hW : (rest.map fun v => v.category).sum ≤ W) (hf : C.R.frames + 1 ≤ B.R.frames) (hl : W + (C.ml + 11) + C.R.locals ≤ B.R.locals) (hc : k + C.R.cells ≤ B.R.cells) (hn : n + C.R.slots ≤ B.R.slots)
    (r : ∀ (v : Option Value) (h' : Heap), Qc v h' → Go Q Z B (k + C.R.cells) (n + C.R.slots) h' pc' Ls (v.toList ++ rest)) : Go Q Z B k n h pc Ls st := fun x T P => by
  subst hp hst
  obtain ⟨a0, hw⟩ := P.wd.w
  obtain ⟨E, O', locs, X, e, N⟩ := id P
  obtain ⟨cq, kq, qa, qb, qc⟩ := isOf E.zz e Ea
  obtain ⟨v, vm₁, ⟨T1, L1, k1, n1⟩, -, X1, ⟨Lc, hQ, l1, y1, z1⟩, st1⟩ := X.interfaceBack P.ex (xi := y) (y := C.y) E.own (mvT E.zz (hw w1)) (mvT E.zz (hw w2)) (mvT E.zz (hw w3) hk) (mvT E.zz (hw w4)) (mvT E.zz (hw w5)) (mvT E.zz (hw w6)) (mvT E.zz (hw w7)) (mvT E.zz (hw w8)) hy (K.back (W := W) P i10 i9 w10 w9 hf hl) qa qb qc (g := mkF x.m pc Ls (argsL.reverse ++ .ref a :: rest)) rfl (by rw [E.ml]; exact hs) (Steps.refl _) (argsL := argsL) (rest := rest) (lenOf hpd hlen) rfl (by show 2 * 0 + _ ≤ _; omega) (P.d hd) (fun _ _ => ⟨rfl, e, hc, hn⟩)
  dsimp only [Pt.U, Pt.locs, Pt.cells, Pt.slots] at X1 l1 y1 z1 st1 hQ
  subst l1 y1 z1
  exact liftS st1 (r v T1.heap hQ.1 x T1 ⟨E, hQ.2.1, _, X1, rfl, N.app hQ.2.2⟩)
end St
end Jvm.Ow
namespace Jvm.Ow
open Sem ClassFile Op Lib Jvm.Stand Jvm.Free Jvm.LawKit Jvm.RoadKit
section More
variable {Q : Option Value → Heap → Prop} {Z : State} {x : Cx} {B : Bd} {T : State} {k n : Nat} {h h' : Heap} {pc : Nat} {Ls Ls' : Array Slot} {st rest : List Value}
theorem Go.instNull (pc' : Nat) (hp : pc + 3 = pc') {ix : Nat} (hd : decode B.by pc = .ok (.instanceof ix, 3)) (r : Go Q Z B k n h pc' Ls (.int 0 :: st)) : Go Q Z B k n h pc Ls (.null :: st) := fun x T P => by
  subst hp
  obtain ⟨E, O', locs, X, e, N⟩ := id P
  exact lift (fun t q => X.instanceofNull P.ex (g := mkF x.m pc Ls (.null :: st)) rfl rfl (P.d hd) t q) (r x T P)
theorem ary_arv {a : Addr} {c0 : ClassId} {ty : FieldType} {z : Int32} {vs : List Value} {d : Value} (F : Arv Z h a c0 ty z vs d) (hl : z.toNatClampNeg = vs.length) : Ary Z h a ty vs := by
  obtain ⟨c, A, -, S, hz, H, G⟩ := F
  have e : c.slots.toList = vs := by
    apply List.ext_getElem?
    intro i
    rw [Array.getElem?_toList]
    by_cases hi : i < vs.length
    · rw [H i (by omega)]
      simp [List.getD, hi]
    · rw [List.getElem?_eq_none (by omega), Array.getElem?_eq_none (by omega)]
  refine ⟨c, A, e, ?_, fun v hv => ?_⟩
  · rw [← hl]; have := nat_of (j := z) hz; have := z.toInt_lt; omega
  · obtain ⟨i, hi, rfl⟩ := List.mem_iff_getElem.mp hv
    have := G i (by omega)
    simpa [List.getD, hi] using this
theorem Go.grid (pc' : Nat) (hp : pc + 4 = pc') {ad C : String} {ty : FieldType} {ix : Nat} {m1 m2 : Int32} (i1 i2 i3 N M cap : Nat) (hd : decode B.by pc = .ok (.multianewarray ix 2, 4)) (hC : (FieldType.array ty).toString = C) (had : "[" ++ C = ad) (w1 : B.tb[i1]? = some (.classLink B.y.cls ix ad)) (w2 : B.tb[i2]? = some (.arrayOver (.array ty))) (w3 : B.tb[i3]? = some (.arrayClass ty))
    (hN : m1.toInt = N) (hM : m2.toInt = M) (hcap : M ≤ cap) (hb : cap * 8 ≤ 536870912) (hb1 : N ≤ 1000) (hdf : fits ty (defaultValue ty) = true) (hdd : (defaultValue ty).isDefault = true) (hc : k + (1 + N) ≤ B.R.cells) (hl : n + (N + N * cap) ≤ B.R.slots)
    (r : ∀ (h' : Heap) (a : Addr), @Eq Nat a h.size → Z.heap.size ≤ a → Keep h h' [] → Ary Z h' a (.array ty) ((List.range N).map fun j => .ref (a + 1 + j)) → (∀ j, j < N → Ary Z h' (a + 1 + j) ty (List.replicate M (defaultValue ty))) → Go Q Z B (k + (1 + N)) (n + (N + N * cap)) h' pc' Ls (.ref a :: st)) : Go Q Z B k n h pc Ls (.int m2 :: .int m1 :: st) := fun x T P => by
  subst hp
  obtain ⟨a0, hw⟩ := P.wd.w
  obtain ⟨E, O', locs, X, e, N'⟩ := id P
  have z0 : (0 : Int32).toInt = 0 := rfl
  have hm1 : ¬ m1 < 0 := by rw [Int32.lt_iff_toInt_lt]; omega
  have hm2 : ¬ m2 < 0 := by rw [Int32.lt_iff_toInt_lt]; omega
  obtain ⟨T', h', cA, comp, X', e', Ex, A, -, -, R1, s'⟩ := gridM X P.ex E.zz E.own hC had (hw w1) (hw w2) (hw w3) e (g := mkF x.m pc Ls (.int m2 :: .int m1 :: st)) rfl (P.d hd) rfl hm1 hm2 (N := N) (ix_nat hN) rfl (cap := cap) (by rw [ix_nat hM]; exact hcap) hb hb1 hdf hdd hc hl
  have hlen : M < 2 ^ 31 := by have := m2.toInt_lt; omega
  refine lift s' (r h' h.size rfl P.le (keep_ext Ex) ?_ (fun j hj => ?_) x T' ⟨E, ⟨Nat.le_trans O'.1 Ex.1, fun y c q => Ex.2 y c (O'.2 y c q)⟩, locs, X', e', N'⟩)
  · have := ary_arv A (by rw [ix_nat hN]; simp)
    rw [List.map_map] at this
    exact this
  · obtain ⟨A1, -⟩ := R1 j (h.size + 1 + j) (by simp [hj])
    refine ⟨_, A1, ?_, by rw [List.length_replicate]; exact hlen, fun v hv => ?_⟩
    · show (Array.replicate _ _).toList = _
      rw [ix_nat hM, Array.toList_replicate]
    · rw [List.eq_of_mem_replicate hv]; exact hdf
/-- a class right under the root is not assignable to another plain class -/
theorem not_asg {tb : List Cond} (hw : Wd Z tb) {C S K : String} {sz : Nat} (i1 i2 i3 : Nat) (w1 : tb[i1]? = some (.superclass C S)) (w2 : tb[i2]? = some (.noSuperclass S)) (w3 : tb[i3]? = some (.instantiable K sz)) (n1 : C ≠ K) (n2 : S ≠ K) : ∃ c t, Z.vm.findClass C = some c ∧ Z.vm.findClass K = some t ∧ Z.vm.assignable c t = false := by
  obtain ⟨a0, hw⟩ := hw.w
  obtain ⟨c, h0⟩ := found_sup (hw w1)
  obtain ⟨p, k, kp, h1, h2, h3, h4, h5, -, h7⟩ := Cond.superclass_spec h0 (hw w1)
  obtain ⟨c', k', g1, g2, g3, -, -⟩ := Cond.noSuperclass_spec (hw w2)
  cases g1.symm.trans h1
  cases g2.symm.trans h3
  obtain ⟨t, kt, i1, i2, i3, i4, -⟩ := Cond.instantiable_spec (hw w3)
  have ne1 := ids_ne h0 i1 n1
  have ne2 := ids_ne h1 i1 n2
  have hi : kt.isInterface = false := (Bool.or_eq_false_iff.mp i4).1
  refine ⟨c, t, h0, i1, ?_⟩
  show Z.vm.assignableAux (255 + 1) c t = false
  have sub : ∀ fuel, Z.vm.isSubclassAux fuel c t = false := by
    intro fuel
    cases fuel with
    | zero => rfl
    | succ f =>
      cases f with
      | zero => simp [Vm.isSubclassAux, ne1, h2, h4]
      | succ f => simp [Vm.isSubclassAux, ne1, ne2, h2, h4, h3, g3]
  simp [Vm.assignableAux, ne1, h2, i2, h5, i3, hi, Vm.isSubclass, sub]
end More
theorem own_fs {s : State} {args : Array Value} {t : Term} {C n d : String} {a : Addr} {v : Value} (ev : t.eval args s none [] s = some (.ref a)) (ef : (Term.field t C n d).eval args s none [] s = some v) : Fld s s.heap a C n d v := by
  rw [fld_at ev] at ef; exact Fld.start ef
theorem own_fe {s : State} {args : Array Value} {t t2 : Term} {C n d : String} {a b : Addr} (ev : t.eval args s none [] s = some (.ref a)) (eb : t2.eval args s none [] s = some (.ref b)) (hx : (Cond.eq (Term.field t C n d) t2).value args s none s [] = some true) : Fld s s.heap a C n d (.ref b) := by
  refine own_fs ev ?_
  cases hf : (Term.field t C n d).eval args s none [] s with
  | none => simp [Cond.value, hf] at hx
  | some v => cases v <;> simp [Cond.value, hf, eb] at hx ⊢; exact hx
theorem own_ar0 {s : State} {args : Array Value} {t : Term} {ty : FieldType} {a : Addr} (ev : t.eval args s none [] s = some (.ref a)) (hx : (Cond.arrayOf t ty).value args s none s [] = some true) (hl : (Cond.eq (Term.length t) (Term.int 0)).value args s none s [] = some true) : Ary s s.heap a ty [] := by
  obtain ⟨c, A⟩ := Arr.start ev hx
  have hA : s.arrayAt? a = some c := Arr.fin (Vm.Alike.refl _) A
  have e0 : c.slots.size = 0 := by
    by_cases h31 : c.slots.size < 2 ^ 31
    · have e := len_f ev hA h31
      have e2 : (c.slots.size.toInt32 : Int32) = 0 := by simpa [Cond.value, Term.eval, ev, hA, h31] using hl
      exact (ofNat_zero h31).mp e2
    · exfalso
      have e : (Term.length t).eval args s none [] s = none := by simp [Term.eval, ev, hA, h31]
      simp [Cond.value, e] at hl
  exact ⟨c, A, by simpa using e0, by decide, fun v hv => by cases hv⟩
theorem own_na {Z : State} {h : Heap} {tb : List Cond} (hw : Wd Z tb) {C : String} {sz : Nat} (i : Nat) (w : tb[i]? = some (.instantiable C sz)) {a b : Addr} {ty : FieldType} {vs : List Value} (F : Exa Z h a C) (G : Ary Z h b ty vs) : b ≠ a := by
  obtain ⟨a0, hw⟩ := hw.w
  obtain ⟨c, A, -⟩ := G
  exact (ne_arr F (hw w) A).symm
theorem own_ins {Z : State} {h : Heap} {tb : List Cond} (hw : Wd Z tb) {C K : String} (i : Nat) (w : tb[i]? = some (.castable C K)) {a : Addr} (F : Exa Z h a C) : Ins Z h a K true := by
  obtain ⟨a0, hw⟩ := hw.w
  exact Ins.of_exa F (hw w)
end Jvm.Ow
namespace Jvm.Pilot.@@N@@
open Jvm Jvm.ClassFile Sem Op Lib Jvm.Free Jvm.Stand Jvm.LawKit Jvm.RoadKit Bundle Jvm.Ow Jvm.Pilot.@@N@@.Jvm.D
def Ev0 (Z : State) (el ea em top bot lem non : Addr) : Prop :=
  Sta Z Z.heap "java/util/ImmutableCollections" "EMPTY_LIST" "Ljava/util/ImmutableCollections$ListN;" (.ref el) ∧ Sta Z Z.heap "java/util/ImmutableCollections" "EMPTY" "Ljava/lang/Object;" (.ref em) ∧ Sta Z Z.heap "com/example/subsumer/subsumer/core/Description" "TOP" "Lcom/example/subsumer/subsumer/core/Description;" (.ref top) ∧ Sta Z Z.heap "com/example/subsumer/subsumer/core/Description" "BOTTOM" "Lcom/example/subsumer/subsumer/core/Description;" (.ref bot) ∧ Sta Z Z.heap "com/example/subsumer/subsumer/core/Label" "EMPTY" "Lcom/example/subsumer/subsumer/core/Label;" (.ref lem) ∧ True ∧
  Exa Z Z.heap el "java/util/ImmutableCollections$ListN" ∧ Fld Z Z.heap el "java/util/ImmutableCollections$ListN" "elements" "[Ljava/lang/Object;" (.ref ea) ∧ Ary Z Z.heap ea (.object "java/lang/Object") [] ∧
  Exa Z Z.heap top "com/example/subsumer/subsumer/core/Description" ∧ True ∧ True ∧ True ∧ True ∧ True ∧
  Exa Z Z.heap bot "com/example/subsumer/subsumer/core/Description" ∧ bot ≠ top ∧ Exa Z Z.heap lem "com/example/subsumer/subsumer/core/Label" ∧ True ∧ True ∧ True
/-- a list: the empty one, or one of the element x -/
def LV (Z : State) (h : Heap) (el em l : Addr) (o : Option Addr) : Prop := (o = none ∧ l = el) ∨ ∃ x, o = some x ∧ Exa Z h l "java/util/ImmutableCollections$List12" ∧ Fld Z h l "java/util/ImmutableCollections$List12" "e0" "Ljava/lang/Object;" (.ref x) ∧ Fld Z h l "java/util/ImmutableCollections$List12" "e1" "Ljava/lang/Object;" (.ref em)
theorem LV.keep {Z : State} {h h' : Heap} {el em l : Addr} {o : Option Addr} {ws : List Addr} (L : LV Z h el em l o) (K : Keep h h' ws) (q : l ∉ ws) : LV Z h' el em l o := by
  rcases L with L | ⟨x, ho, E, F, G⟩
  · exact Or.inl L
  · exact Or.inr ⟨x, ho, E.keep K, F.keep K q, G.keep K q⟩
/-- a restriction's element: its class, its filler's two flags -/
def EV (Z : State) (h : Heap) (C : String) (x : Addr) : Prop := Exa Z h x C ∧ ∃ (d : Addr) (q1 q2 : Int32), Fld Z h x C "filler" "Lcom/example/subsumer/subsumer/core/Description;" (.ref d) ∧ Fld Z h d "com/example/subsumer/subsumer/core/Description" "existentialInside" "Z" (.int q1) ∧ Fld Z h d "com/example/subsumer/subsumer/core/Description" "numberInside" "Z" (.int q2)
theorem EV.keep0 {Z : State} {h h' : Heap} {C : String} {x : Addr} (E : EV Z h C x) (K : Keep h h' []) : EV Z h' C x := by
  obtain ⟨E, d, q1, q2, F, G, H⟩ := E
  exact ⟨E.keep K, d, q1, q2, F.keep K nin0, G.keep K nin0, H.keep K nin0⟩
theorem EV.keep1 {Z : State} {h h' : Heap} {C : String} {x a : Addr} (E : EV Z h C x) (K : Keep h h' [a]) (n1 : C ≠ "com/example/subsumer/subsumer/core/Description") (ha : Exa Z h a "com/example/subsumer/subsumer/core/Description") (hd : ∀ d q, Fld Z h d "com/example/subsumer/subsumer/core/Description" "numberInside" "Z" (.int q) → Fld Z h' d "com/example/subsumer/subsumer/core/Description" "numberInside" "Z" (.int q)) (he : ∀ d q, Fld Z h d "com/example/subsumer/subsumer/core/Description" "existentialInside" "Z" (.int q) → Fld Z h' d "com/example/subsumer/subsumer/core/Description" "existentialInside" "Z" (.int q)) : EV Z h' C x := by
  obtain ⟨E, d, q1, q2, F, G, H⟩ := E
  exact ⟨E.keep K, d, q1, q2, F.keep K (ninS (ne_exa E ha n1) nin0), he _ _ G, hd _ _ H⟩
theorem LV.exa {Z : State} {h : Heap} {el em l x : Addr} (L : LV Z h el em l (some x)) : Exa Z h l "java/util/ImmutableCollections$List12" := by
  rcases L with ⟨q, -⟩ | ⟨y, -, E, -⟩
  · cases q
  · exact E
theorem own_lne {Z : State} {h : Heap} {el ea em top bot lem non l a : Addr} {o : Option Addr} (hv : Ev0 Z el ea em top bot lem non) (L : LV Z h el em l o) (E : Exa Z h a "com/example/subsumer/subsumer/core/Description") (ge : Z.heap.size ≤ a) : l ∉ [a] := by
  refine ninS ?_ nin0
  rcases L with ⟨-, q⟩ | ⟨y, -, F, -⟩
  · have := ltN hv.2.2.2.2.2.2.1.lt
    rw [q]; exact Nat.ne_of_lt (Nat.lt_of_lt_of_le this ge)
  · exact ne_exa F E (by decide)
theorem own_fk {Z : State} {h h' : Heap} {a d : Addr} {C n : String} {q : Int32} (F : Fld Z h d C n "Z" (.int q)) (K : Keep h h' [a]) (F0 : Fld Z h a C n "Z" (.int 0)) (F5 : Fld Z h' a C n "Z" (.int 0)) : Fld Z h' d C n "Z" (.int q) := by
  by_cases e : d = a
  · subst e
    by_cases hq : q = 0
    · rw [hq]; exact F5
    · exact absurd rfl (F.ne F0 (fun z => hq (Value.int.inj z)))
  · exact F.keep K (ninS e nin0)
theorem own_c1 {f v : Int32} (h : (f &&& (255 : Int32)).toUInt32.toUInt16.toUInt32.toInt32 = v) : ¬ (255 : Int32) < nar .char v := by
  have h1 : (f &&& (255 : Int32)).toInt = f.toInt % (2 ^ 8 : Nat) := c_mask _ 255 8 (by decide) (by decide)
  have h2 := c_i2c (f &&& (255 : Int32))
  rw [h] at h2
  have h3 := c_i2c v
  rw [Int32.lt_iff_toInt_lt]
  have : (255 : Int32).toInt = 255 := rfl
  show ¬ (255 : Int32).toInt < (v.toUInt32.toUInt16.toUInt32.toInt32).toInt
  omega
theorem d5_0 : decode jdk_52_method_21_code 0 = .ok (.iconst 0, 1) := by decide +kernel
theorem d5_1 : decode jdk_52_method_21_code 1 = .ok (.istore 5, 2) := by decide +kernel
theorem d5_3 : decode jdk_52_method_21_code 3 = .ok (.iload 5, 2) := by decide +kernel
theorem d5_5 : decode jdk_52_method_21_code 5 = .ok (.iload 4, 2) := by decide +kernel
theorem d5_7 : decode jdk_52_method_21_code 7 = .ok (.if_icmp .ge 37, 3) := by decide +kernel
theorem d5_10 : decode jdk_52_method_21_code 10 = .ok (.aload_n 0, 1) := by decide +kernel
theorem d5_11 : decode jdk_52_method_21_code 11 = .ok (.iload_n 1, 1) := by decide +kernel
theorem d5_12 : decode jdk_52_method_21_code 12 = .ok (.caload, 1) := by decide +kernel
theorem d5_13 : decode jdk_52_method_21_code 13 = .ok (.istore 6, 2) := by decide +kernel
theorem d5_15 : decode jdk_52_method_21_code 15 = .ok (.iload 6, 2) := by decide +kernel
theorem d5_17 : decode jdk_52_method_21_code 17 = .ok (.sipush 255, 3) := by decide +kernel
theorem d5_20 : decode jdk_52_method_21_code 20 = .ok (.if_icmp .le 6, 3) := by decide +kernel
theorem d5_23 : decode jdk_52_method_21_code 23 = .ok (.iload 5, 2) := by decide +kernel
theorem d5_25 : decode jdk_52_method_21_code 25 = .ok (.ireturn, 1) := by decide +kernel
theorem d5_26 : decode jdk_52_method_21_code 26 = .ok (.aload_n 2, 1) := by decide +kernel
theorem d5_27 : decode jdk_52_method_21_code 27 = .ok (.iload_n 3, 1) := by decide +kernel
theorem d5_28 : decode jdk_52_method_21_code 28 = .ok (.iload 6, 2) := by decide +kernel
theorem d5_30 : decode jdk_52_method_21_code 30 = .ok (.i2b, 1) := by decide +kernel
theorem d5_31 : decode jdk_52_method_21_code 31 = .ok (.bastore, 1) := by decide +kernel
theorem d5_32 : decode jdk_52_method_21_code 32 = .ok (.iinc 1 1, 3) := by decide +kernel
theorem d5_35 : decode jdk_52_method_21_code 35 = .ok (.iinc 3 1, 3) := by decide +kernel
theorem d5_38 : decode jdk_52_method_21_code 38 = .ok (.iinc 5 1, 3) := by decide +kernel
theorem d5_41 : decode jdk_52_method_21_code 41 = .ok (.goto (-38), 3) := by decide +kernel
theorem d5_44 : decode jdk_52_method_21_code 44 = .ok (.iload 4, 2) := by decide +kernel
theorem d5_46 : decode jdk_52_method_21_code 46 = .ok (.ireturn, 1) := by decide +kernel
theorem pd5 : parseMethodDescriptor "([CI[BII)I" = some ⟨[(.array .char), .int, (.array .byte), .int, .int], some .int⟩ := by decide +kernel
theorem pn5 : plainFor (⟨"java/lang/StringUTF16", "compress", "([CI[BII)I"⟩ : MethodName) = true := by first | (refine plainFor_of_name ?_; simp [plainName, overriddenIn]; done) | (refine plainFor_of_name ?_; decide +kernel) | decide +kernel
abbrev B5 : Bd := ((⟨"java/lang/StringUTF16", "compress", "([CI[BII)I"⟩ : MethodName), jdk_52_method_21_code, 7, (some .int), ({ frames := 0, cells := 0, slots := 0, locals := 0 } : Room), tables_1)
theorem ef5 (mid : MethodId) (s : Addr) (t : Addr) : entryFrame mid (List.toArray [.ref s, .int (0 : Int32), .ref t, .int (0 : Int32), .int (1 : Int32)]) 7 = mkF mid 0 #[.val (.ref s), .val (.int (0 : Int32)), .val (.ref t), .val (.int (0 : Int32)), .val (.int (1 : Int32)), .unset, .unset] [] := by first | (simp [entryFrame, mkF, argsToLocals, Value.category]; done) | rfl
def Q5 (Z : State) (t : Addr) (x0 : Int32) (h0 : Heap) (v : Option Value) (h : Heap) : Prop := v = some (.int (1 : Int32)) ∧ Keep h0 h [t] ∧ Ary Z h t .byte [.int (nar .byte x0.toInt8.toInt32)]
set_option maxRecDepth 65536 in
set_option maxHeartbeats 40000000 in
theorem c5 (Z : State) (hw : Wd Z tables_1) (h0 : Heap) (s : Addr) (t : Addr) (x0 : Int32) (hA : Ary Z h0 s .char [.int x0]) (hB : Ary Z h0 t .byte [.int 0]) (hgt : Z.heap.size ≤ t) (hne : s ≠ t) (hx0 : ¬ (255 : Int32) < x0) : Con Z B5 (List.toArray [.ref s, .int (0 : Int32), .ref t, .int (0 : Int32), .int (1 : Int32)]) h0 (Q5 Z t x0 h0) := by
  refine Con.mk hw pn5 (fun mid => ef5 mid s t) (Go.old fun hle' => ?_)
  have hle := hle'.1
  refine Go.iconst 1 rfl (0 : Int32) d5_0 rfl ?_
  refine Go.istore 3 rfl d5_1 (Ls' := #[.val (.ref s), .val (.int (0 : Int32)), .val (.ref t), .val (.int (0 : Int32)), .val (.int (1 : Int32)), .val (.int (0 : Int32)), .unset]) rfl ?_
  refine Go.iload 5 rfl d5_3 rfl ?_
  refine Go.iload 7 rfl d5_5 rfl ?_
  refine Go.icmp_ge 44 10 d5_7 (by decide) rfl rfl (fun (b1 : ¬ (0 : Int32) < (1 : Int32)) => ?_) (fun (b1 : (0 : Int32) < (1 : Int32)) => ?_)
  · exact absurd (show (0 : Int32) < (1 : Int32) from by decide) b1
  · refine Go.aloadN 11 rfl d5_10 rfl rfl ?_
    refine Go.iloadN 12 rfl d5_11 rfl ?_
    refine Go.caload 13 rfl x0 d5_12 hA 0 rfl rfl ?_
    refine Go.istore 15 rfl d5_13 (Ls' := #[.val (.ref s), .val (.int (0 : Int32)), .val (.ref t), .val (.int (0 : Int32)), .val (.int (1 : Int32)), .val (.int (0 : Int32)), .val (.int x0)]) rfl ?_
    refine Go.iload 17 rfl d5_15 rfl ?_
    refine Go.sipush 20 rfl (255 : Int32) d5_17 rfl ?_
    refine Go.icmp_le 26 23 d5_20 (by decide) rfl rfl (fun (b2 : ¬ (255 : Int32) < x0) => ?_) (fun (b2 : (255 : Int32) < x0) => ?_)
    · refine Go.aloadN 27 rfl d5_26 rfl rfl ?_
      refine Go.iloadN 28 rfl d5_27 rfl ?_
      refine Go.iload 30 rfl d5_28 rfl ?_
      refine Go.i2b 31 rfl d5_30 ?_
      refine Go.stB 32 rfl d5_31 hB 0 rfl (Nat.le_of_ble_eq_true rfl) hgt fun h3 K4 A5 => ?_
      have A6 : Ary Z h3 t .byte [.int (nar .byte x0.toInt8.toInt32)] := A5
      refine Go.iinc 35 rfl (1 : Int32) d5_32 rfl rfl (Ls' := #[.val (.ref s), .val (.int ((0 : Int32) + (1 : Int32))), .val (.ref t), .val (.int (0 : Int32)), .val (.int (1 : Int32)), .val (.int (0 : Int32)), .val (.int x0)]) rfl ?_
      refine Go.iinc 38 rfl (1 : Int32) d5_35 rfl rfl (Ls' := #[.val (.ref s), .val (.int ((0 : Int32) + (1 : Int32))), .val (.ref t), .val (.int ((0 : Int32) + (1 : Int32))), .val (.int (1 : Int32)), .val (.int (0 : Int32)), .val (.int x0)]) rfl ?_
      refine Go.iinc 41 rfl (1 : Int32) d5_38 rfl rfl (Ls' := #[.val (.ref s), .val (.int ((0 : Int32) + (1 : Int32))), .val (.ref t), .val (.int ((0 : Int32) + (1 : Int32))), .val (.int (1 : Int32)), .val (.int ((0 : Int32) + (1 : Int32))), .val (.int x0)]) rfl ?_
      refine Go.goto 3 d5_41 (by decide) (by decide) ?_
      refine Go.iload 5 rfl d5_3 rfl ?_
      refine Go.iload 7 rfl d5_5 rfl ?_
      refine Go.icmp_ge 44 10 d5_7 (by decide) rfl rfl (fun (b7 : ¬ ((0 : Int32) + (1 : Int32)) < (1 : Int32)) => ?_) (fun (b7 : ((0 : Int32) + (1 : Int32)) < (1 : Int32)) => ?_)
      · refine Go.iload 46 rfl d5_44 rfl ?_
        exact Go.retI d5_46 rfl (by decide) (by decide) ⟨rfl, ((Keep.refl h0 [t]).trans K4 (by simp)), A6⟩
      · exact absurd b7 (by decide)
    · exact absurd b2 hx0
theorem d4_0 : decode jdk_52_method_16_code 0 = .ok (.iload_n 2, 1) := by decide +kernel
theorem d4_1 : decode jdk_52_method_16_code 1 = .ok (.newarray .byte, 2) := by decide +kernel
theorem d4_3 : decode jdk_52_method_16_code 3 = .ok (.astore_n 3, 1) := by decide +kernel
theorem d4_4 : decode jdk_52_method_16_code 4 = .ok (.aload_n 0, 1) := by decide +kernel
theorem d4_5 : decode jdk_52_method_16_code 5 = .ok (.iload_n 1, 1) := by decide +kernel
theorem d4_6 : decode jdk_52_method_16_code 6 = .ok (.aload_n 3, 1) := by decide +kernel
theorem d4_7 : decode jdk_52_method_16_code 7 = .ok (.iconst 0, 1) := by decide +kernel
theorem d4_8 : decode jdk_52_method_16_code 8 = .ok (.iload_n 2, 1) := by decide +kernel
theorem d4_9 : decode jdk_52_method_16_code 9 = .ok (.invokestatic 115, 3) := by decide +kernel
theorem d4_12 : decode jdk_52_method_16_code 12 = .ok (.istore 4, 2) := by decide +kernel
theorem d4_14 : decode jdk_52_method_16_code 14 = .ok (.iload 4, 2) := by decide +kernel
theorem d4_16 : decode jdk_52_method_16_code 16 = .ok (.iload_n 2, 1) := by decide +kernel
theorem d4_17 : decode jdk_52_method_16_code 17 = .ok (.if_icmp .eq 40, 3) := by decide +kernel
theorem d4_20 : decode jdk_52_method_16_code 20 = .ok (.aload_n 0, 1) := by decide +kernel
theorem d4_21 : decode jdk_52_method_16_code 21 = .ok (.iload_n 1, 1) := by decide +kernel
theorem d4_22 : decode jdk_52_method_16_code 22 = .ok (.iload_n 2, 1) := by decide +kernel
theorem d4_23 : decode jdk_52_method_16_code 23 = .ok (.invokestatic 119, 3) := by decide +kernel
theorem d4_26 : decode jdk_52_method_16_code 26 = .ok (.astore 5, 2) := by decide +kernel
theorem d4_28 : decode jdk_52_method_16_code 28 = .ok (.aload 5, 2) := by decide +kernel
theorem d4_30 : decode jdk_52_method_16_code 30 = .ok (.iload 4, 2) := by decide +kernel
theorem d4_32 : decode jdk_52_method_16_code 32 = .ok (.invokestatic 71, 3) := by decide +kernel
theorem d4_35 : decode jdk_52_method_16_code 35 = .ok (.sipush 255, 3) := by decide +kernel
theorem d4_38 : decode jdk_52_method_16_code 38 = .ok (.if_icmp .gt 16, 3) := by decide +kernel
theorem d4_41 : decode jdk_52_method_16_code 41 = .ok (.aload 5, 2) := by decide +kernel
theorem d4_43 : decode jdk_52_method_16_code 43 = .ok (.iconst 0, 1) := by decide +kernel
theorem d4_44 : decode jdk_52_method_16_code 44 = .ok (.aload_n 3, 1) := by decide +kernel
theorem d4_45 : decode jdk_52_method_16_code 45 = .ok (.iconst 0, 1) := by decide +kernel
theorem d4_46 : decode jdk_52_method_16_code 46 = .ok (.iload_n 2, 1) := by decide +kernel
theorem d4_47 : decode jdk_52_method_16_code 47 = .ok (.invokestatic 123, 3) := by decide +kernel
theorem d4_50 : decode jdk_52_method_16_code 50 = .ok (.iload_n 2, 1) := by decide +kernel
theorem d4_51 : decode jdk_52_method_16_code 51 = .ok (.if_icmp .eq 6, 3) := by decide +kernel
theorem d4_54 : decode jdk_52_method_16_code 54 = .ok (.aload 5, 2) := by decide +kernel
theorem d4_56 : decode jdk_52_method_16_code 56 = .ok (.areturn, 1) := by decide +kernel
theorem d4_57 : decode jdk_52_method_16_code 57 = .ok (.aload_n 3, 1) := by decide +kernel
theorem d4_58 : decode jdk_52_method_16_code 58 = .ok (.areturn, 1) := by decide +kernel
theorem pd4 : parseMethodDescriptor "([CII)[B" = some ⟨[(.array .char), .int, .int], some (.array .byte)⟩ := by decide +kernel
theorem pn4 : plainFor (⟨"java/lang/StringUTF16", "compress", "([CII)[B"⟩ : MethodName) = true := by first | (refine plainFor_of_name ?_; simp [plainName, overriddenIn]; done) | (refine plainFor_of_name ?_; decide +kernel) | decide +kernel
abbrev B4 : Bd := ((⟨"java/lang/StringUTF16", "compress", "([CII)[B"⟩ : MethodName), jdk_52_method_16_code, 6, (some (.array .byte)), ({ frames := 1, cells := 1, slots := 1, locals := 18 } : Room), tables_1)
theorem ef4 (mid : MethodId) (s : Addr) : entryFrame mid (List.toArray [.ref s, .int (0 : Int32), .int (1 : Int32)]) 6 = mkF mid 0 #[.val (.ref s), .val (.int (0 : Int32)), .val (.int (1 : Int32)), .unset, .unset, .unset] [] := by first | (simp [entryFrame, mkF, argsToLocals, Value.category]; done) | rfl
def Q4 (Z : State) (x0 : Int32) (h0 : Heap) (v : Option Value) (h : Heap) : Prop := ∃ t, v = some (.ref t) ∧ h0.size ≤ t ∧ Keep h0 h [] ∧ Ary Z h t .byte [.int (nar .byte x0.toInt8.toInt32)]
set_option maxRecDepth 65536 in
set_option maxHeartbeats 40000000 in
theorem c4 (Z : State) (hw : Wd Z tables_1) (h0 : Heap) (s : Addr) (x0 : Int32) (hA : Ary Z h0 s .char [.int x0]) (hx0 : ¬ (255 : Int32) < x0) : Con Z B4 (List.toArray [.ref s, .int (0 : Int32), .int (1 : Int32)]) h0 (Q4 Z x0 h0) := by
  refine Con.mk hw pn4 (fun mid => ef4 mid s) (Go.old fun hle' => ?_)
  have hle := hle'.1
  refine Go.iloadN 1 rfl d4_0 rfl ?_
  refine Go.newA 3 rfl 19 1 1 d4_1 rfl rfl (by decide) (by decide) (by decide) (by decide) fun h2 a1 g3 z4 K5 A6 E7 => ?_
  have A8 : Ary Z h2 a1 .byte [.int 0] := A6
  refine Go.astoreN 4 rfl d4_3 rfl (Ls' := #[.val (.ref s), .val (.int (0 : Int32)), .val (.int (1 : Int32)), .val (.ref a1), .unset, .unset]) rfl ?_
  refine Go.aloadN 5 rfl d4_4 rfl rfl ?_
  refine Go.iloadN 6 rfl d4_5 rfl ?_
  refine Go.aloadN 7 rfl d4_6 rfl rfl ?_
  refine Go.iconst 8 rfl (0 : Int32) d4_7 rfl ?_
  refine Go.iloadN 9 rfl d4_8 rfl ?_
  have F9 : Ary Z h2 s .char [.int x0] := (hA.keep K5 nin0)
  have ne10 : s ≠ a1 := (show @Ne Nat s a1 from by have := ltN hA.lt; have := g3; omega)
  refine Go.callS 12 rfl (C := B5) [.ref s, .int (0 : Int32), .ref a1, .int (0 : Int32), .int (1 : Int32)] (rest := []) 20 21 17 22 (c5 Z hw h2 s a1 x0 F9 A8 z4 ne10 hx0) d4_9 rfl rfl rfl rfl (by decide) pd5 rfl rfl rfl (W := 0) (Nat.le_of_ble_eq_true rfl) (by decide) (by decide) (by decide) (by decide) fun v11 h12 q13 => ?_
  obtain ⟨rfl, K14, A15⟩ := q13
  refine Go.istore 14 rfl d4_12 (Ls' := #[.val (.ref s), .val (.int (0 : Int32)), .val (.int (1 : Int32)), .val (.ref a1), .val (.int (1 : Int32)), .unset]) rfl ?_
  refine Go.iload 16 rfl d4_14 rfl ?_
  refine Go.iloadN 17 rfl d4_16 rfl ?_
  refine Go.icmp_eq 57 20 d4_17 (by decide) rfl rfl (fun (b16 : (1 : Int32) = (1 : Int32)) => ?_) (fun (b16 : ¬ (1 : Int32) = (1 : Int32)) => ?_)
  · refine Go.aloadN 58 rfl d4_57 rfl rfl ?_
    exact Go.retA d4_58 rfl rfl rfl (by decide) (by decide) ⟨a1, rfl, Nat.le_of_eq g3.symm, (((Keep.refl h0 []).trans K5 all0).trans K14 (allS (Or.inr (by have := K5.1; have := g3; omega)) all0)), A15⟩
  · exact absurd rfl b16
theorem d6_0 : decode jdk_52_method_15_code 0 = .ok (.iload_n 1, 1) := by decide +kernel
theorem d6_1 : decode jdk_52_method_15_code 1 = .ok (.aload_n 0, 1) := by decide +kernel
theorem d6_2 : decode jdk_52_method_15_code 2 = .ok (.arraylength, 1) := by decide +kernel
theorem d6_3 : decode jdk_52_method_15_code 3 = .ok (.isub, 1) := by decide +kernel
theorem d6_4 : decode jdk_52_method_15_code 4 = .ok (.bipush 31, 2) := by decide +kernel
theorem d6_6 : decode jdk_52_method_15_code 6 = .ok (.iushr, 1) := by decide +kernel
theorem d6_7 : decode jdk_52_method_15_code 7 = .ok (.i2b, 1) := by decide +kernel
theorem d6_8 : decode jdk_52_method_15_code 8 = .ok (.ireturn, 1) := by decide +kernel
theorem pd6 : parseMethodDescriptor "([BI)B" = some ⟨[(.array .byte), .int], some .byte⟩ := by decide +kernel
theorem pn6 : plainFor (⟨"java/lang/StringUTF16", "coderFromArrayLen", "([BI)B"⟩ : MethodName) = true := by first | (refine plainFor_of_name ?_; simp [plainName, overriddenIn]; done) | (refine plainFor_of_name ?_; decide +kernel) | decide +kernel
abbrev B6 : Bd := ((⟨"java/lang/StringUTF16", "coderFromArrayLen", "([BI)B"⟩ : MethodName), jdk_52_method_15_code, 2, (some .byte), ({ frames := 0, cells := 0, slots := 0, locals := 0 } : Room), tables_1)
theorem ef6 (mid : MethodId) (t : Addr) : entryFrame mid (List.toArray [.ref t, .int (1 : Int32)]) 2 = mkF mid 0 #[.val (.ref t), .val (.int (1 : Int32))] [] := by first | (simp [entryFrame, mkF, argsToLocals, Value.category]; done) | rfl
def Q6 (h0 : Heap) (v : Option Value) (h : Heap) : Prop := v = some (.int 0) ∧ h0 = h
set_option maxRecDepth 65536 in
set_option maxHeartbeats 40000000 in
theorem c6 (Z : State) (hw : Wd Z tables_1) (h0 : Heap) (t : Addr)  (vs : List Value) (hB : Ary Z h0 t .byte vs) (hl : vs.length = 1) : Con Z B6 (List.toArray [.ref t, .int (1 : Int32)]) h0 (Q6 h0) := by
  refine Con.mk hw pn6 (fun mid => ef6 mid t) (Go.old fun hle' => ?_)
  have hle := hle'.1
  refine Go.iloadN 1 rfl d6_0 rfl ?_
  refine Go.aloadN 2 rfl d6_1 rfl rfl ?_
  refine Go.alen 3 rfl (1 : Int32) d6_2 hB (by rw [hl]; rfl) ?_
  refine Go.isub 4 rfl d6_3 ?_
  refine Go.bipush 6 rfl (31 : Int32) d6_4 rfl ?_
  refine Go.iushr 7 rfl d6_6 ?_
  refine Go.i2b 8 rfl d6_7 ?_
  exact Go.retN (t := .byte) (z' := 0) d6_8 rfl (by decide) (by decide) (by decide) (by decide) ⟨rfl, rfl⟩
theorem d2_0 : decode jdk_42_method_149_code 0 = .ok (.aload_n 0, 1) := by decide +kernel
theorem d2_1 : decode jdk_42_method_149_code 1 = .ok (.invokespecial 1, 3) := by decide +kernel
theorem d2_4 : decode jdk_42_method_149_code 4 = .ok (.iload_n 3, 1) := by decide +kernel
theorem d2_5 : decode jdk_42_method_149_code 5 = .ok (.ifCond .ne 22, 3) := by decide +kernel
theorem d2_8 : decode jdk_42_method_149_code 8 = .ok (.aload_n 0, 1) := by decide +kernel
theorem d2_9 : decode jdk_42_method_149_code 9 = .ok (.ldc 7, 2) := by decide +kernel
theorem d2_11 : decode jdk_42_method_149_code 11 = .ok (.getfield 9, 3) := by decide +kernel
theorem d2_14 : decode jdk_42_method_149_code 14 = .ok (.putfield 9, 3) := by decide +kernel
theorem d2_17 : decode jdk_42_method_149_code 17 = .ok (.aload_n 0, 1) := by decide +kernel
theorem d2_18 : decode jdk_42_method_149_code 18 = .ok (.ldc 7, 2) := by decide +kernel
theorem d2_20 : decode jdk_42_method_149_code 20 = .ok (.getfield 15, 3) := by decide +kernel
theorem d2_23 : decode jdk_42_method_149_code 23 = .ok (.putfield 15, 3) := by decide +kernel
theorem d2_26 : decode jdk_42_method_149_code 26 = .ok (.return_, 1) := by decide +kernel
theorem d2_27 : decode jdk_42_method_149_code 27 = .ok (.getstatic 38, 3) := by decide +kernel
theorem d2_30 : decode jdk_42_method_149_code 30 = .ok (.ifCond .eq 28, 3) := by decide +kernel
theorem d2_33 : decode jdk_42_method_149_code 33 = .ok (.aload_n 1, 1) := by decide +kernel
theorem d2_34 : decode jdk_42_method_149_code 34 = .ok (.iload_n 2, 1) := by decide +kernel
theorem d2_35 : decode jdk_42_method_149_code 35 = .ok (.iload_n 3, 1) := by decide +kernel
theorem d2_36 : decode jdk_42_method_149_code 36 = .ok (.invokestatic 177, 3) := by decide +kernel
theorem d2_39 : decode jdk_42_method_149_code 39 = .ok (.astore 5, 2) := by decide +kernel
theorem d2_41 : decode jdk_42_method_149_code 41 = .ok (.aload_n 0, 1) := by decide +kernel
theorem d2_42 : decode jdk_42_method_149_code 42 = .ok (.aload 5, 2) := by decide +kernel
theorem d2_44 : decode jdk_42_method_149_code 44 = .ok (.iload_n 3, 1) := by decide +kernel
theorem d2_45 : decode jdk_42_method_149_code 45 = .ok (.invokestatic 47, 3) := by decide +kernel
theorem d2_48 : decode jdk_42_method_149_code 48 = .ok (.putfield 15, 3) := by decide +kernel
theorem d2_51 : decode jdk_42_method_149_code 51 = .ok (.aload_n 0, 1) := by decide +kernel
theorem d2_52 : decode jdk_42_method_149_code 52 = .ok (.aload 5, 2) := by decide +kernel
theorem d2_54 : decode jdk_42_method_149_code 54 = .ok (.putfield 9, 3) := by decide +kernel
theorem d2_57 : decode jdk_42_method_149_code 57 = .ok (.return_, 1) := by decide +kernel
theorem d2_58 : decode jdk_42_method_149_code 58 = .ok (.aload_n 0, 1) := by decide +kernel
theorem d2_59 : decode jdk_42_method_149_code 59 = .ok (.iconst 1, 1) := by decide +kernel
theorem d2_60 : decode jdk_42_method_149_code 60 = .ok (.putfield 15, 3) := by decide +kernel
theorem d2_63 : decode jdk_42_method_149_code 63 = .ok (.aload_n 0, 1) := by decide +kernel
theorem d2_64 : decode jdk_42_method_149_code 64 = .ok (.aload_n 1, 1) := by decide +kernel
theorem d2_65 : decode jdk_42_method_149_code 65 = .ok (.iload_n 2, 1) := by decide +kernel
theorem d2_66 : decode jdk_42_method_149_code 66 = .ok (.iload_n 3, 1) := by decide +kernel
theorem d2_67 : decode jdk_42_method_149_code 67 = .ok (.invokestatic 180, 3) := by decide +kernel
theorem d2_70 : decode jdk_42_method_149_code 70 = .ok (.putfield 9, 3) := by decide +kernel
theorem d2_73 : decode jdk_42_method_149_code 73 = .ok (.return_, 1) := by decide +kernel
theorem pd2 : parseMethodDescriptor "([CIILjava/lang/Void;)V" = some ⟨[(.array .char), .int, .int, (.object "java/lang/Void")], none⟩ := by decide +kernel
theorem pn2 : plainFor (⟨"java/lang/String", "<init>", "([CIILjava/lang/Void;)V"⟩ : MethodName) = true := by first | (refine plainFor_of_name ?_; simp [plainName, overriddenIn]; done) | (refine plainFor_of_name ?_; decide +kernel) | decide +kernel
abbrev B2 : Bd := ((⟨"java/lang/String", "<init>", "([CIILjava/lang/Void;)V"⟩ : MethodName), jdk_42_method_149_code, 6, none, ({ frames := 2, cells := 1, slots := 1, locals := 35 } : Room), tables_1)
theorem ef2 (mid : MethodId) (a : Addr) (s : Addr) : entryFrame mid (List.toArray [.ref a, .ref s, .int (0 : Int32), .int (1 : Int32), .null]) 6 = mkF mid 0 #[.val (.ref a), .val (.ref s), .val (.int (0 : Int32)), .val (.int (1 : Int32)), .val (.null), .unset] [] := by first | (simp [entryFrame, mkF, argsToLocals, Value.category]; done) | rfl
def Q2 (Z : State) (a : Addr) (x0 : Int32) (h0 : Heap) (v : Option Value) (h : Heap) : Prop := v = none ∧ ∃ t, h0.size ≤ t ∧ Keep h0 h [a] ∧ Fld Z h a "java/lang/String" "value" "[B" (.ref t) ∧ Fld Z h a "java/lang/String" "coder" "B" (.int 0) ∧ Ary Z h t .byte [.int (nar .byte x0.toInt8.toInt32)]
set_option maxRecDepth 65536 in
set_option maxHeartbeats 40000000 in
theorem c2 (Z : State) (hw : Wd Z tables_1) (h0 : Heap) (a : Addr) (s : Addr) (x0 : Int32) (cs : Int32) (hS : Sta Z Z.heap "java/lang/String" "COMPACT_STRINGS" "Z" (.int cs)) (hcs : ¬ cs = 0) (hge : Z.heap.size ≤ a) (hE : Exa Z h0 a "java/lang/String") (hV : Fld Z h0 a "java/lang/String" "value" "[B" .null) (hC : Fld Z h0 a "java/lang/String" "coder" "B" (.int 0)) (hA : Ary Z h0 s .char [.int x0]) (hx0 : ¬ (255 : Int32) < x0) : Con Z B2 (List.toArray [.ref a, .ref s, .int (0 : Int32), .int (1 : Int32), .null]) h0 (Q2 Z a x0 h0) := by
  refine Con.mk hw pn2 (fun mid => ef2 mid a s) (Go.old fun hle' => ?_)
  have hle := hle'.1
  refine Go.aloadN 1 rfl d2_0 rfl rfl ?_
  refine Go.initO 4 rfl 11 12 13 d2_1 rfl rfl rfl rfl (by decide) (W := 0) (Nat.le_of_ble_eq_true rfl) (by decide) ?_
  refine Go.iloadN 5 rfl d2_4 rfl ?_
  refine Go.if_ne 27 8 d2_5 (by decide) rfl rfl (fun (b1 : ¬ (1 : Int32) = 0) => ?_) (fun (b1 : (1 : Int32) = 0) => ?_)
  · refine Go.getS 30 rfl (v := .int cs) 14 d2_27 rfl hS ?_
    refine Go.if_eq 58 33 d2_30 (by decide) rfl rfl (fun (b2 : cs = 0) => ?_) (fun (b2 : ¬ cs = 0) => ?_)
    · exact absurd b2 hcs
    · refine Go.aloadN 34 rfl d2_33 rfl rfl ?_
      refine Go.iloadN 35 rfl d2_34 rfl ?_
      refine Go.iloadN 36 rfl d2_35 rfl ?_
      refine Go.callS 39 rfl (C := B4) [.ref s, .int (0 : Int32), .int (1 : Int32)] (rest := []) 15 16 17 18 (c4 Z hw h0 s x0 hA hx0) d2_36 rfl rfl rfl rfl (by decide) pd4 rfl rfl rfl (W := 0) (Nat.le_of_ble_eq_true rfl) (by decide) (by decide) (by decide) (by decide) fun v3 h4 q5 => ?_
      obtain ⟨t, rfl, g6, K7, A8⟩ := q5
      have z9 : Z.heap.size ≤ t := Nat.le_trans hle g6
      refine Go.astore 41 rfl d2_39 rfl (Ls' := #[.val (.ref a), .val (.ref s), .val (.int (0 : Int32)), .val (.int (1 : Int32)), .val (.null), .val (.ref t)]) rfl ?_
      refine Go.aloadN 42 rfl d2_41 rfl rfl ?_
      refine Go.aload 44 rfl d2_42 rfl rfl ?_
      refine Go.iloadN 45 rfl d2_44 rfl ?_
      refine Go.callS 48 rfl (C := B6) [.ref t, .int (1 : Int32)] (rest := [.ref a]) 23 24 17 25 (c6 Z hw h4 t [.int (nar .byte x0.toInt8.toInt32)] A8 rfl) d2_45 rfl rfl rfl rfl (by decide) pd6 rfl rfl rfl (W := 1) (Nat.le_of_ble_eq_true rfl) (by decide) (by decide) (by decide) (by decide) fun v10 h11 q12 => ?_
      obtain ⟨rfl, rfl⟩ := q12
      have F13 : Fld Z h4 a "java/lang/String" "coder" "B" (.int (0 : Int32)) := (hC.keep K7 nin0)
      have F14 : Exa Z h4 a "java/lang/String" := (hE.keep K7)
      refine Go.putF 51 rfl (v' := .int (0 : Int32)) (ty := .byte) 26 27 2 d2_48 rfl F13 F14 (Or.inr ⟨rfl, rfl, rfl⟩) rfl (by decide) rfl rfl hge fun h15 K16 W17 F18 => ?_
      refine Go.aloadN 52 rfl d2_51 rfl rfl ?_
      refine Go.aload 54 rfl d2_52 rfl rfl ?_
      have F19 : Fld Z h15 a "java/lang/String" "value" "[B" (.null) := (Fld.oth hw (hV.keep K7 nin0) W17 29 27 (Or.inr rfl) (Or.inr rfl) (by decide) rfl rfl)
      have F20 : Exa Z h15 a "java/lang/String" := (F14.keep K16)
      refine Go.putF 57 rfl (v' := .ref t) (ty := (.array .byte)) 28 29 2 d2_54 rfl F19 F20 (Or.inr ⟨rfl, rfl, rfl⟩) rfl (by decide) rfl rfl hge fun h21 K22 W23 F24 => ?_
      have F25 : Fld Z h21 a "java/lang/String" "coder" "B" (.int (0 : Int32)) := (Fld.oth hw F18 W23 27 29 (Or.inr rfl) (Or.inr rfl) (by decide) rfl rfl)
      have ne26 : t ≠ a := (show @Ne Nat t a from by have := ltN hE.lt; have := g6; omega)
      have F27 : Ary Z h21 t .byte [.int (nar .byte x0.toInt8.toInt32)] := ((A8.keep K16 (ninS ne26 nin0)).keep K22 (ninS ne26 nin0))
      exact Go.retV d2_57 rfl (by decide) (by decide) ⟨rfl, t, g6, ((((Keep.refl h0 [a]).trans K7 all0).trans K16 (by simp)).trans K22 (by simp)), F24, F25, F27⟩
  · exact absurd b1 (by decide)
theorem d1_0 : decode jdk_42_method_3_code 0 = .ok (.aload_n 0, 1) := by decide +kernel
theorem d1_1 : decode jdk_42_method_3_code 1 = .ok (.aload_n 1, 1) := by decide +kernel
theorem d1_2 : decode jdk_42_method_3_code 2 = .ok (.iconst 0, 1) := by decide +kernel
theorem d1_3 : decode jdk_42_method_3_code 3 = .ok (.aload_n 1, 1) := by decide +kernel
theorem d1_4 : decode jdk_42_method_3_code 4 = .ok (.arraylength, 1) := by decide +kernel
theorem d1_5 : decode jdk_42_method_3_code 5 = .ok (.aconst_null, 1) := by decide +kernel
theorem d1_6 : decode jdk_42_method_3_code 6 = .ok (.invokespecial 27, 3) := by decide +kernel
theorem d1_9 : decode jdk_42_method_3_code 9 = .ok (.return_, 1) := by decide +kernel
theorem pd1 : parseMethodDescriptor "([C)V" = some ⟨[(.array .char)], none⟩ := by decide +kernel
theorem pn1 : plainFor (⟨"java/lang/String", "<init>", "([C)V"⟩ : MethodName) = true := by first | (refine plainFor_of_name ?_; simp [plainName, overriddenIn]; done) | (refine plainFor_of_name ?_; decide +kernel) | decide +kernel
abbrev B1 : Bd := ((⟨"java/lang/String", "<init>", "([C)V"⟩ : MethodName), jdk_42_method_3_code, 2, none, ({ frames := 3, cells := 1, slots := 1, locals := 52 } : Room), tables_1)
theorem ef1 (mid : MethodId) (a : Addr) (s : Addr) : entryFrame mid (List.toArray [.ref a, .ref s]) 2 = mkF mid 0 #[.val (.ref a), .val (.ref s)] [] := by first | (simp [entryFrame, mkF, argsToLocals, Value.category]; done) | rfl
def Q1 (Z : State) (a : Addr) (x0 : Int32) (h0 : Heap) (v : Option Value) (h : Heap) : Prop := v = none ∧ ∃ t, h0.size ≤ t ∧ Keep h0 h [a] ∧ Fld Z h a "java/lang/String" "value" "[B" (.ref t) ∧ Fld Z h a "java/lang/String" "coder" "B" (.int 0) ∧ Ary Z h t .byte [.int (nar .byte x0.toInt8.toInt32)]
set_option maxRecDepth 65536 in
set_option maxHeartbeats 40000000 in
theorem c1 (Z : State) (hw : Wd Z tables_1) (h0 : Heap) (a : Addr) (s : Addr) (x0 : Int32) (cs : Int32) (hS : Sta Z Z.heap "java/lang/String" "COMPACT_STRINGS" "Z" (.int cs)) (hcs : ¬ cs = 0) (hge : Z.heap.size ≤ a) (hE : Exa Z h0 a "java/lang/String") (hV : Fld Z h0 a "java/lang/String" "value" "[B" .null) (hC : Fld Z h0 a "java/lang/String" "coder" "B" (.int 0)) (hA : Ary Z h0 s .char [.int x0]) (hx0 : ¬ (255 : Int32) < x0) : Con Z B1 (List.toArray [.ref a, .ref s]) h0 (Q1 Z a x0 h0) := by
  refine Con.mk hw pn1 (fun mid => ef1 mid a s) (Go.old fun hle' => ?_)
  have hle := hle'.1
  refine Go.aloadN 1 rfl d1_0 rfl rfl ?_
  refine Go.aloadN 2 rfl d1_1 rfl rfl ?_
  refine Go.iconst 3 rfl (0 : Int32) d1_2 rfl ?_
  refine Go.aloadN 4 rfl d1_3 rfl rfl ?_
  refine Go.alen 5 rfl (1 : Int32) d1_4 hA rfl ?_
  refine Go.aconstNull 6 rfl d1_5 ?_
  refine Go.callI 9 rfl (C := B2) a [.ref s, .int (0 : Int32), .int (1 : Int32), .null] (rest := []) 7 8 3 10 (c2 Z hw h0 a s x0 cs hS hcs hge hE hV hC hA hx0) d1_6 rfl rfl rfl rfl rfl rfl (by decide) pd2 rfl rfl rfl (W := 0) (Nat.le_of_ble_eq_true rfl) (by decide) (by decide) (by decide) (by decide) fun v1 h2 q3 => ?_
  obtain ⟨rfl, t, g4, K5, F6, F7, A8⟩ := q3
  exact Go.retV d1_9 rfl (by decide) (by decide) ⟨rfl, t, g4, K5, F6, F7, A8⟩
theorem d20_0 : decode jdk_30_method_1_code 0 = .ok (.aload_n 0, 1) := by decide +kernel
theorem d20_1 : decode jdk_30_method_1_code 1 = .ok (.invokespecial 1, 3) := by decide +kernel
theorem d20_4 : decode jdk_30_method_1_code 4 = .ok (.return_, 1) := by decide +kernel
theorem pd20 : parseMethodDescriptor "()V" = some ⟨[], none⟩ := by decide +kernel
theorem pn20 : plainFor (⟨"java/lang/Record", "<init>", "()V"⟩ : MethodName) = true := by first | (refine plainFor_of_name ?_; simp [plainName, overriddenIn]; done) | (refine plainFor_of_name ?_; decide +kernel) | decide +kernel
abbrev B20 : Bd := ((⟨"java/lang/Record", "<init>", "()V"⟩ : MethodName), jdk_30_method_1_code, 1, none, ({ frames := 1, cells := 0, slots := 0, locals := 12 } : Room), tables_1)
theorem ef20 (mid : MethodId) (a : Addr) : entryFrame mid (List.toArray [.ref a]) 1 = mkF mid 0 #[.val (.ref a)] [] := by first | (simp [entryFrame, mkF, argsToLocals, Value.category]; done) | rfl
def Q20 (h0 : Heap) (v : Option Value) (h : Heap) : Prop := v = none ∧ h0 = h
set_option maxRecDepth 65536 in
set_option maxHeartbeats 40000000 in
theorem c20 (Z : State) (hw : Wd Z tables_1) (h0 : Heap) (a : Addr)   : Con Z B20 (List.toArray [.ref a]) h0 (Q20 h0) := by
  refine Con.mk hw pn20 (fun mid => ef20 mid a) (Go.old fun hle' => ?_)
  have hle := hle'.1
  refine Go.aloadN 1 rfl d20_0 rfl rfl ?_
  refine Go.initO 4 rfl 157 12 13 d20_1 rfl rfl rfl rfl (by decide) (W := 0) (Nat.le_of_ble_eq_true rfl) (by decide) ?_
  exact Go.retV d20_4 rfl (by decide) (by decide) ⟨rfl, rfl⟩
theorem d9_0 : decode jdk_22_method_1_code 0 = .ok (.aload_n 0, 1) := by decide +kernel
theorem d9_1 : decode jdk_22_method_1_code 1 = .ok (.invokespecial 1, 3) := by decide +kernel
theorem d9_4 : decode jdk_22_method_1_code 4 = .ok (.return_, 1) := by decide +kernel
theorem pd9 : parseMethodDescriptor "()V" = some ⟨[], none⟩ := by decide +kernel
theorem pn9 : plainFor (⟨"java/util/AbstractCollection", "<init>", "()V"⟩ : MethodName) = true := by first | (refine plainFor_of_name ?_; simp [plainName, overriddenIn]; done) | (refine plainFor_of_name ?_; decide +kernel) | decide +kernel
abbrev B9 : Bd := ((⟨"java/util/AbstractCollection", "<init>", "()V"⟩ : MethodName), jdk_22_method_1_code, 1, none, ({ frames := 1, cells := 0, slots := 0, locals := 12 } : Room), tables_1)
theorem ef9 (mid : MethodId) (a : Addr) : entryFrame mid (List.toArray [.ref a]) 1 = mkF mid 0 #[.val (.ref a)] [] := by first | (simp [entryFrame, mkF, argsToLocals, Value.category]; done) | rfl
def Q9 (h0 : Heap) (v : Option Value) (h : Heap) : Prop := v = none ∧ h0 = h
set_option maxRecDepth 65536 in
set_option maxHeartbeats 40000000 in
theorem c9 (Z : State) (hw : Wd Z tables_1) (h0 : Heap) (a : Addr)   : Con Z B9 (List.toArray [.ref a]) h0 (Q9 h0) := by
  refine Con.mk hw pn9 (fun mid => ef9 mid a) (Go.old fun hle' => ?_)
  have hle := hle'.1
  refine Go.aloadN 1 rfl d9_0 rfl rfl ?_
  refine Go.initO 4 rfl 51 12 13 d9_1 rfl rfl rfl rfl (by decide) (W := 0) (Nat.le_of_ble_eq_true rfl) (by decide) ?_
  exact Go.retV d9_4 rfl (by decide) (by decide) ⟨rfl, rfl⟩
theorem d24_0 : decode jdk_47_method_1_code 0 = .ok (.aload_n 0, 1) := by decide +kernel
theorem d24_1 : decode jdk_47_method_1_code 1 = .ok (.invokespecial 1, 3) := by decide +kernel
theorem d24_4 : decode jdk_47_method_1_code 4 = .ok (.return_, 1) := by decide +kernel
theorem pd24 : parseMethodDescriptor "()V" = some ⟨[], none⟩ := by decide +kernel
theorem pn24 : plainFor (⟨"java/util/ImmutableCollections$AbstractImmutableCollection", "<init>", "()V"⟩ : MethodName) = true := by first | (refine plainFor_of_name ?_; simp [plainName, overriddenIn]; done) | (refine plainFor_of_name ?_; decide +kernel) | decide +kernel
abbrev B24 : Bd := ((⟨"java/util/ImmutableCollections$AbstractImmutableCollection", "<init>", "()V"⟩ : MethodName), jdk_47_method_1_code, 1, none, ({ frames := 2, cells := 0, slots := 0, locals := 24 } : Room), tables_1)
theorem ef24 (mid : MethodId) (a : Addr) : entryFrame mid (List.toArray [.ref a]) 1 = mkF mid 0 #[.val (.ref a)] [] := by first | (simp [entryFrame, mkF, argsToLocals, Value.category]; done) | rfl
def Q24 (h0 : Heap) (v : Option Value) (h : Heap) : Prop := v = none ∧ h0 = h
set_option maxRecDepth 65536 in
set_option maxHeartbeats 40000000 in
theorem c24 (Z : State) (hw : Wd Z tables_1) (h0 : Heap) (a : Addr)   : Con Z B24 (List.toArray [.ref a]) h0 (Q24 h0) := by
  refine Con.mk hw pn24 (fun mid => ef24 mid a) (Go.old fun hle' => ?_)
  have hle := hle'.1
  refine Go.aloadN 1 rfl d24_0 rfl rfl ?_
  refine Go.callI 4 rfl (C := B9) a [] (rest := []) 185 46 49 50 (c9 Z hw h0 a) d24_1 rfl rfl rfl rfl rfl rfl (by decide) pd9 rfl rfl rfl (W := 0) (Nat.le_of_ble_eq_true rfl) (by decide) (by decide) (by decide) (by decide) fun v1 h2 q3 => ?_
  obtain ⟨rfl, rfl⟩ := q3
  exact Go.retV d24_4 rfl (by decide) (by decide) ⟨rfl, rfl⟩
theorem d23_0 : decode jdk_46_method_1_code 0 = .ok (.aload_n 0, 1) := by decide +kernel
theorem d23_1 : decode jdk_46_method_1_code 1 = .ok (.invokespecial 1, 3) := by decide +kernel
theorem d23_4 : decode jdk_46_method_1_code 4 = .ok (.return_, 1) := by decide +kernel
theorem pd23 : parseMethodDescriptor "()V" = some ⟨[], none⟩ := by decide +kernel
theorem pn23 : plainFor (⟨"java/util/ImmutableCollections$AbstractImmutableList", "<init>", "()V"⟩ : MethodName) = true := by first | (refine plainFor_of_name ?_; simp [plainName, overriddenIn]; done) | (refine plainFor_of_name ?_; decide +kernel) | decide +kernel
abbrev B23 : Bd := ((⟨"java/util/ImmutableCollections$AbstractImmutableList", "<init>", "()V"⟩ : MethodName), jdk_46_method_1_code, 1, none, ({ frames := 3, cells := 0, slots := 0, locals := 36 } : Room), tables_1)
theorem ef23 (mid : MethodId) (a : Addr) : entryFrame mid (List.toArray [.ref a]) 1 = mkF mid 0 #[.val (.ref a)] [] := by first | (simp [entryFrame, mkF, argsToLocals, Value.category]; done) | rfl
def Q23 (h0 : Heap) (v : Option Value) (h : Heap) : Prop := v = none ∧ h0 = h
set_option maxRecDepth 65536 in
set_option maxHeartbeats 40000000 in
theorem c23 (Z : State) (hw : Wd Z tables_1) (h0 : Heap) (a : Addr)   : Con Z B23 (List.toArray [.ref a]) h0 (Q23 h0) := by
  refine Con.mk hw pn23 (fun mid => ef23 mid a) (Go.old fun hle' => ?_)
  have hle := hle'.1
  refine Go.aloadN 1 rfl d23_0 rfl rfl ?_
  refine Go.callI 4 rfl (C := B24) a [] (rest := []) 179 180 183 184 (c24 Z hw h0 a) d23_1 rfl rfl rfl rfl rfl rfl (by decide) pd24 rfl rfl rfl (W := 0) (Nat.le_of_ble_eq_true rfl) (by decide) (by decide) (by decide) (by decide) fun v1 h2 q3 => ?_
  obtain ⟨rfl, rfl⟩ := q3
  exact Go.retV d23_4 rfl (by decide) (by decide) ⟨rfl, rfl⟩
theorem d37_0 : decode prog_14_method_1_code 0 = .ok (.aload_n 0, 1) := by decide +kernel
theorem d37_1 : decode prog_14_method_1_code 1 = .ok (.invokespecial 1, 3) := by decide +kernel
theorem d37_4 : decode prog_14_method_1_code 4 = .ok (.aload_n 0, 1) := by decide +kernel
theorem d37_5 : decode prog_14_method_1_code 5 = .ok (.aload_n 1, 1) := by decide +kernel
theorem d37_6 : decode prog_14_method_1_code 6 = .ok (.putfield 7, 3) := by decide +kernel
theorem d37_9 : decode prog_14_method_1_code 9 = .ok (.aload_n 0, 1) := by decide +kernel
theorem d37_10 : decode prog_14_method_1_code 10 = .ok (.aload_n 2, 1) := by decide +kernel
theorem d37_11 : decode prog_14_method_1_code 11 = .ok (.putfield 13, 3) := by decide +kernel
theorem d37_14 : decode prog_14_method_1_code 14 = .ok (.return_, 1) := by decide +kernel
theorem pd37 : parseMethodDescriptor "([Ljava/lang/String;[Ljava/lang/String;)V" = some ⟨[(.array (.object "java/lang/String")), (.array (.object "java/lang/String"))], none⟩ := by decide +kernel
theorem pn37 : plainFor (⟨"com/example/subsumer/subsumer/core/Label", "<init>", "([Ljava/lang/String;[Ljava/lang/String;)V"⟩ : MethodName) = true := by first | (refine plainFor_of_name ?_; simp [plainName, overriddenIn]; done) | (refine plainFor_of_name ?_; decide +kernel) | decide +kernel
abbrev B37 : Bd := ((⟨"com/example/subsumer/subsumer/core/Label", "<init>", "([Ljava/lang/String;[Ljava/lang/String;)V"⟩ : MethodName), prog_14_method_1_code, 3, none, ({ frames := 1, cells := 0, slots := 0, locals := 12 } : Room), tables_1)
theorem ef37 (mid : MethodId) (a : Addr) (t : Addr) (u : Addr) : entryFrame mid (List.toArray [.ref a, .ref t, .ref u]) 3 = mkF mid 0 #[.val (.ref a), .val (.ref t), .val (.ref u)] [] := by first | (simp [entryFrame, mkF, argsToLocals, Value.category]; done) | rfl
def Q37 (Z : State) (a : Addr) (t : Addr) (u : Addr) (h0 : Heap) (v : Option Value) (h : Heap) : Prop := v = none ∧ Keep h0 h [a] ∧ Fld Z h a "com/example/subsumer/subsumer/core/Label" "names" "[Ljava/lang/String;" (.ref t) ∧ Fld Z h a "com/example/subsumer/subsumer/core/Label" "negated" "[Ljava/lang/String;" (.ref u)
set_option maxRecDepth 65536 in
set_option maxHeartbeats 40000000 in
theorem c37 (Z : State) (hw : Wd Z tables_1) (h0 : Heap) (a : Addr) (t : Addr) (u : Addr)  (hge : Z.heap.size ≤ a) (hE : Exa Z h0 a "com/example/subsumer/subsumer/core/Label") (hF0 : Fld Z h0 a "com/example/subsumer/subsumer/core/Label" "names" "[Ljava/lang/String;" (.null)) (hF1 : Fld Z h0 a "com/example/subsumer/subsumer/core/Label" "negated" "[Ljava/lang/String;" (.null)) : Con Z B37 (List.toArray [.ref a, .ref t, .ref u]) h0 (Q37 Z a t u h0) := by
  refine Con.mk hw pn37 (fun mid => ef37 mid a t u) (Go.old fun hle' => ?_)
  have hle := hle'.1
  refine Go.aloadN 1 rfl d37_0 rfl rfl ?_
  refine Go.initO 4 rfl 286 12 13 d37_1 rfl rfl rfl rfl (by decide) (W := 0) (Nat.le_of_ble_eq_true rfl) (by decide) ?_
  refine Go.aloadN 5 rfl d37_4 rfl rfl ?_
  refine Go.aloadN 6 rfl d37_5 rfl rfl ?_
  refine Go.putF 9 rfl (v' := .ref t) (ty := (.array (.object "java/lang/String"))) 287 288 281 d37_6 rfl hF0 hE (Or.inr ⟨rfl, rfl, rfl⟩) rfl (by decide) rfl rfl hge fun h1 K2 W3 F4 => ?_
  refine Go.aloadN 10 rfl d37_9 rfl rfl ?_
  refine Go.aloadN 11 rfl d37_10 rfl rfl ?_
  have F5 : Fld Z h1 a "com/example/subsumer/subsumer/core/Label" "negated" "[Ljava/lang/String;" (.null) := (Fld.oth hw hF1 W3 290 288 (Or.inr rfl) (Or.inr rfl) (by decide) rfl rfl)
  have F6 : Exa Z h1 a "com/example/subsumer/subsumer/core/Label" := (hE.keep K2)
  refine Go.putF 14 rfl (v' := .ref u) (ty := (.array (.object "java/lang/String"))) 289 290 281 d37_11 rfl F5 F6 (Or.inr ⟨rfl, rfl, rfl⟩) rfl (by decide) rfl rfl hge fun h7 K8 W9 F10 => ?_
  have F11 : Fld Z h7 a "com/example/subsumer/subsumer/core/Label" "names" "[Ljava/lang/String;" (.ref t) := (Fld.oth hw F4 W9 288 290 (Or.inr rfl) (Or.inr rfl) (by decide) rfl rfl)
  exact Go.retV d37_14 rfl (by decide) (by decide) ⟨rfl, (((Keep.refl h0 [a]).trans K2 (by simp)).trans K8 (by simp)), F11, F10⟩
theorem d19_0 : decode prog_12_method_1_code 0 = .ok (.aload_n 0, 1) := by decide +kernel
theorem d19_1 : decode prog_12_method_1_code 1 = .ok (.invokespecial 1, 3) := by decide +kernel
theorem d19_4 : decode prog_12_method_1_code 4 = .ok (.aload_n 0, 1) := by decide +kernel
theorem d19_5 : decode prog_12_method_1_code 5 = .ok (.aload_n 1, 1) := by decide +kernel
theorem d19_6 : decode prog_12_method_1_code 6 = .ok (.putfield 7, 3) := by decide +kernel
theorem d19_9 : decode prog_12_method_1_code 9 = .ok (.aload_n 0, 1) := by decide +kernel
theorem d19_10 : decode prog_12_method_1_code 10 = .ok (.aload_n 2, 1) := by decide +kernel
theorem d19_11 : decode prog_12_method_1_code 11 = .ok (.putfield 13, 3) := by decide +kernel
theorem d19_14 : decode prog_12_method_1_code 14 = .ok (.return_, 1) := by decide +kernel
theorem pd19 : parseMethodDescriptor "(Ljava/lang/String;Lcom/example/subsumer/subsumer/core/Description;)V" = some ⟨[(.object "java/lang/String"), (.object "com/example/subsumer/subsumer/core/Description")], none⟩ := by decide +kernel
theorem pn19 : plainFor (⟨"com/example/subsumer/subsumer/core/Existential", "<init>", "(Ljava/lang/String;Lcom/example/subsumer/subsumer/core/Description;)V"⟩ : MethodName) = true := by first | (refine plainFor_of_name ?_; simp [plainName, overriddenIn]; done) | (refine plainFor_of_name ?_; decide +kernel) | decide +kernel
abbrev B19 : Bd := ((⟨"com/example/subsumer/subsumer/core/Existential", "<init>", "(Ljava/lang/String;Lcom/example/subsumer/subsumer/core/Description;)V"⟩ : MethodName), prog_12_method_1_code, 3, none, ({ frames := 2, cells := 0, slots := 0, locals := 24 } : Room), tables_1)
theorem ef19 (mid : MethodId) (a : Addr) (p : Addr) (f : Addr) : entryFrame mid (List.toArray [.ref a, .ref p, .ref f]) 3 = mkF mid 0 #[.val (.ref a), .val (.ref p), .val (.ref f)] [] := by first | (simp [entryFrame, mkF, argsToLocals, Value.category]; done) | rfl
def Q19 (Z : State) (a : Addr) (p : Addr) (f : Addr) (h0 : Heap) (v : Option Value) (h : Heap) : Prop := v = none ∧ Keep h0 h [a] ∧ Fld Z h a "com/example/subsumer/subsumer/core/Existential" "property" "Ljava/lang/String;" (.ref p) ∧ Fld Z h a "com/example/subsumer/subsumer/core/Existential" "filler" "Lcom/example/subsumer/subsumer/core/Description;" (.ref f)
set_option maxRecDepth 65536 in
set_option maxHeartbeats 40000000 in
theorem c19 (Z : State) (hw : Wd Z tables_1) (h0 : Heap) (a : Addr) (p : Addr) (f : Addr)  (hge : Z.heap.size ≤ a) (hE : Exa Z h0 a "com/example/subsumer/subsumer/core/Existential") (hF0 : Fld Z h0 a "com/example/subsumer/subsumer/core/Existential" "property" "Ljava/lang/String;" (.null)) (hF1 : Fld Z h0 a "com/example/subsumer/subsumer/core/Existential" "filler" "Lcom/example/subsumer/subsumer/core/Description;" (.null)) : Con Z B19 (List.toArray [.ref a, .ref p, .ref f]) h0 (Q19 Z a p f h0) := by
  refine Con.mk hw pn19 (fun mid => ef19 mid a p f) (Go.old fun hle' => ?_)
  have hle := hle'.1
  refine Go.aloadN 1 rfl d19_0 rfl rfl ?_
  refine Go.callI 4 rfl (C := B20) a [] (rest := []) 152 153 155 156 (c20 Z hw h0 a) d19_1 rfl rfl rfl rfl rfl rfl (by decide) pd20 rfl rfl rfl (W := 0) (Nat.le_of_ble_eq_true rfl) (by decide) (by decide) (by decide) (by decide) fun v1 h2 q3 => ?_
  obtain ⟨rfl, rfl⟩ := q3
  refine Go.aloadN 5 rfl d19_4 rfl rfl ?_
  refine Go.aloadN 6 rfl d19_5 rfl rfl ?_
  refine Go.putF 9 rfl (v' := .ref p) (ty := (.object "java/lang/String")) 158 159 147 d19_6 rfl hF0 hE (Or.inr ⟨rfl, rfl, rfl⟩) rfl (by decide) rfl rfl hge fun h4 K5 W6 F7 => ?_
  refine Go.aloadN 10 rfl d19_9 rfl rfl ?_
  refine Go.aloadN 11 rfl d19_10 rfl rfl ?_
  have F8 : Fld Z h4 a "com/example/subsumer/subsumer/core/Existential" "filler" "Lcom/example/subsumer/subsumer/core/Description;" (.null) := (Fld.oth hw hF1 W6 161 159 (Or.inr rfl) (Or.inr rfl) (by decide) rfl rfl)
  have F9 : Exa Z h4 a "com/example/subsumer/subsumer/core/Existential" := (hE.keep K5)
  refine Go.putF 14 rfl (v' := .ref f) (ty := (.object "com/example/subsumer/subsumer/core/Description")) 160 161 147 d19_11 rfl F8 F9 (Or.inr ⟨rfl, rfl, rfl⟩) rfl (by decide) rfl rfl hge fun h10 K11 W12 F13 => ?_
  have F14 : Fld Z h10 a "com/example/subsumer/subsumer/core/Existential" "property" "Ljava/lang/String;" (.ref p) := (Fld.oth hw F7 W12 159 161 (Or.inr rfl) (Or.inr rfl) (by decide) rfl rfl)
  exact Go.retV d19_14 rfl (by decide) (by decide) ⟨rfl, (((Keep.refl h0 [a]).trans K5 (by simp)).trans K11 (by simp)), F14, F13⟩
theorem d38_0 : decode prog_1_method_1_code 0 = .ok (.aload_n 0, 1) := by decide +kernel
theorem d38_1 : decode prog_1_method_1_code 1 = .ok (.invokespecial 1, 3) := by decide +kernel
theorem d38_4 : decode prog_1_method_1_code 4 = .ok (.aload_n 0, 1) := by decide +kernel
theorem d38_5 : decode prog_1_method_1_code 5 = .ok (.aload_n 1, 1) := by decide +kernel
theorem d38_6 : decode prog_1_method_1_code 6 = .ok (.putfield 7, 3) := by decide +kernel
theorem d38_9 : decode prog_1_method_1_code 9 = .ok (.aload_n 0, 1) := by decide +kernel
theorem d38_10 : decode prog_1_method_1_code 10 = .ok (.iload_n 2, 1) := by decide +kernel
theorem d38_11 : decode prog_1_method_1_code 11 = .ok (.putfield 13, 3) := by decide +kernel
theorem d38_14 : decode prog_1_method_1_code 14 = .ok (.return_, 1) := by decide +kernel
theorem pd38 : parseMethodDescriptor "(Ljava/lang/String;I)V" = some ⟨[(.object "java/lang/String"), .int], none⟩ := by decide +kernel
theorem pn38 : plainFor (⟨"com/example/subsumer/subsumer/core/AtLeast", "<init>", "(Ljava/lang/String;I)V"⟩ : MethodName) = true := by first | (refine plainFor_of_name ?_; simp [plainName, overriddenIn]; done) | (refine plainFor_of_name ?_; decide +kernel) | decide +kernel
abbrev B38 : Bd := ((⟨"com/example/subsumer/subsumer/core/AtLeast", "<init>", "(Ljava/lang/String;I)V"⟩ : MethodName), prog_1_method_1_code, 3, none, ({ frames := 2, cells := 0, slots := 0, locals := 24 } : Room), tables_1)
theorem ef38 (mid : MethodId) (a : Addr) (p : Addr) (m : Int32) : entryFrame mid (List.toArray [.ref a, .ref p, .int m]) 3 = mkF mid 0 #[.val (.ref a), .val (.ref p), .val (.int m)] [] := by first | (simp [entryFrame, mkF, argsToLocals, Value.category]; done) | rfl
def Q38 (Z : State) (a : Addr) (p : Addr) (m : Int32) (h0 : Heap) (v : Option Value) (h : Heap) : Prop := v = none ∧ Keep h0 h [a] ∧ Fld Z h a "com/example/subsumer/subsumer/core/AtLeast" "property" "Ljava/lang/String;" (.ref p) ∧ Fld Z h a "com/example/subsumer/subsumer/core/AtLeast" "number" "I" (.int m)
set_option maxRecDepth 65536 in
set_option maxHeartbeats 40000000 in
theorem c38 (Z : State) (hw : Wd Z tables_1) (h0 : Heap) (a : Addr) (p : Addr) (m : Int32)  (hge : Z.heap.size ≤ a) (hE : Exa Z h0 a "com/example/subsumer/subsumer/core/AtLeast") (hF0 : Fld Z h0 a "com/example/subsumer/subsumer/core/AtLeast" "property" "Ljava/lang/String;" (.null)) (hF1 : Fld Z h0 a "com/example/subsumer/subsumer/core/AtLeast" "number" "I" (.int (0 : Int32))) : Con Z B38 (List.toArray [.ref a, .ref p, .int m]) h0 (Q38 Z a p m h0) := by
  refine Con.mk hw pn38 (fun mid => ef38 mid a p m) (Go.old fun hle' => ?_)
  have hle := hle'.1
  refine Go.aloadN 1 rfl d38_0 rfl rfl ?_
  refine Go.callI 4 rfl (C := B20) a [] (rest := []) 297 153 155 156 (c20 Z hw h0 a) d38_1 rfl rfl rfl rfl rfl rfl (by decide) pd20 rfl rfl rfl (W := 0) (Nat.le_of_ble_eq_true rfl) (by decide) (by decide) (by decide) (by decide) fun v1 h2 q3 => ?_
  obtain ⟨rfl, rfl⟩ := q3
  refine Go.aloadN 5 rfl d38_4 rfl rfl ?_
  refine Go.aloadN 6 rfl d38_5 rfl rfl ?_
  refine Go.putF 9 rfl (v' := .ref p) (ty := (.object "java/lang/String")) 298 299 292 d38_6 rfl hF0 hE (Or.inr ⟨rfl, rfl, rfl⟩) rfl (by decide) rfl rfl hge fun h4 K5 W6 F7 => ?_
  refine Go.aloadN 10 rfl d38_9 rfl rfl ?_
  refine Go.iloadN 11 rfl d38_10 rfl ?_
  have F8 : Fld Z h4 a "com/example/subsumer/subsumer/core/AtLeast" "number" "I" (.int (0 : Int32)) := (Fld.oth hw hF1 W6 301 299 (Or.inr rfl) (Or.inr rfl) (by decide) rfl rfl)
  have F9 : Exa Z h4 a "com/example/subsumer/subsumer/core/AtLeast" := (hE.keep K5)
  refine Go.putF 14 rfl (v' := .int m) (ty := .int) 300 301 292 d38_11 rfl F8 F9 (Or.inr ⟨rfl, rfl, rfl⟩) rfl (by decide) rfl rfl hge fun h10 K11 W12 F13 => ?_
  have F14 : Fld Z h10 a "com/example/subsumer/subsumer/core/AtLeast" "property" "Ljava/lang/String;" (.ref p) := (Fld.oth hw F7 W12 299 301 (Or.inr rfl) (Or.inr rfl) (by decide) rfl rfl)
  exact Go.retV d38_14 rfl (by decide) (by decide) ⟨rfl, (((Keep.refl h0 [a]).trans K5 (by simp)).trans K11 (by simp)), F14, F13⟩
theorem d35_0 : decode prog_12_method_6_code 0 = .ok (.aload_n 0, 1) := by decide +kernel
theorem d35_1 : decode prog_12_method_6_code 1 = .ok (.getfield 13, 3) := by decide +kernel
theorem d35_4 : decode prog_12_method_6_code 4 = .ok (.areturn, 1) := by decide +kernel
theorem pd35 : parseMethodDescriptor "()Lcom/example/subsumer/subsumer/core/Description;" = some ⟨[], some (.object "com/example/subsumer/subsumer/core/Description")⟩ := by decide +kernel
theorem pn35 : plainFor (⟨"com/example/subsumer/subsumer/core/Existential", "filler", "()Lcom/example/subsumer/subsumer/core/Description;"⟩ : MethodName) = true := by first | (refine plainFor_of_name ?_; simp [plainName, overriddenIn]; done) | (refine plainFor_of_name ?_; decide +kernel) | decide +kernel
abbrev B35 : Bd := ((⟨"com/example/subsumer/subsumer/core/Existential", "filler", "()Lcom/example/subsumer/subsumer/core/Description;"⟩ : MethodName), prog_12_method_6_code, 1, (some (.object "com/example/subsumer/subsumer/core/Description")), ({ frames := 0, cells := 0, slots := 0, locals := 0 } : Room), tables_1)
theorem ef35 (mid : MethodId) (a : Addr) : entryFrame mid (List.toArray [.ref a]) 1 = mkF mid 0 #[.val (.ref a)] [] := by first | (simp [entryFrame, mkF, argsToLocals, Value.category]; done) | rfl
def Q35 (r : Addr) (h0 : Heap) (v : Option Value) (h : Heap) : Prop := v = some (.ref r) ∧ h0 = h
set_option maxRecDepth 65536 in
set_option maxHeartbeats 40000000 in
theorem c35 (Z : State) (hw : Wd Z tables_1) (h0 : Heap) (a : Addr) (r : Addr) (hF : Fld Z h0 a "com/example/subsumer/subsumer/core/Existential" "filler" "Lcom/example/subsumer/subsumer/core/Description;" (.ref r)) : Con Z B35 (List.toArray [.ref a]) h0 (Q35 r h0) := by
  refine Con.mk hw pn35 (fun mid => ef35 mid a) (Go.old fun hle' => ?_)
  have hle := hle'.1
  refine Go.aloadN 1 rfl d35_0 rfl rfl ?_
  refine Go.getF 4 rfl (v := .ref r) 160 d35_1 rfl hF ?_
  exact Go.retA d35_4 rfl rfl rfl (by decide) (by decide) ⟨rfl, rfl⟩
theorem d25_0 : decode jdk_31_method_10_code 0 = .ok (.aload_n 0, 1) := by decide +kernel
theorem d25_1 : decode jdk_31_method_10_code 1 = .ok (.ifnonnull 11, 3) := by decide +kernel
theorem d25_12 : decode jdk_31_method_10_code 12 = .ok (.aload_n 0, 1) := by decide +kernel
theorem d25_13 : decode jdk_31_method_10_code 13 = .ok (.areturn, 1) := by decide +kernel
theorem pd25 : parseMethodDescriptor "(Ljava/lang/Object;)Ljava/lang/Object;" = some ⟨[(.object "java/lang/Object")], some (.object "java/lang/Object")⟩ := by decide +kernel
theorem pn25 : plainFor (⟨"java/util/Objects", "requireNonNull", "(Ljava/lang/Object;)Ljava/lang/Object;"⟩ : MethodName) = true := by first | (refine plainFor_of_name ?_; simp [plainName, overriddenIn]; done) | (refine plainFor_of_name ?_; decide +kernel) | decide +kernel
abbrev B25 : Bd := ((⟨"java/util/Objects", "requireNonNull", "(Ljava/lang/Object;)Ljava/lang/Object;"⟩ : MethodName), jdk_31_method_10_code, 1, (some (.object "java/lang/Object")), ({ frames := 0, cells := 0, slots := 0, locals := 0 } : Room), tables_1)
theorem ef25 (mid : MethodId) (a : Addr) : entryFrame mid (List.toArray [.ref a]) 1 = mkF mid 0 #[.val (.ref a)] [] := by first | (simp [entryFrame, mkF, argsToLocals, Value.category]; done) | rfl
def Q25 (a : Addr) (h0 : Heap) (v : Option Value) (h : Heap) : Prop := v = some (.ref a) ∧ h0 = h
set_option maxRecDepth 65536 in
set_option maxHeartbeats 40000000 in
theorem c25 (Z : State) (hw : Wd Z tables_1) (h0 : Heap) (a : Addr)   : Con Z B25 (List.toArray [.ref a]) h0 (Q25 a h0) := by
  refine Con.mk hw pn25 (fun mid => ef25 mid a) (Go.old fun hle' => ?_)
  have hle := hle'.1
  refine Go.aloadN 1 rfl d25_0 rfl rfl ?_
  refine Go.ifnonnull_r 12 d25_1 (by decide) rfl ?_
  refine Go.aloadN 13 rfl d25_12 rfl rfl ?_
  exact Go.retA d25_13 rfl rfl rfl (by decide) (by decide) ⟨rfl, rfl⟩
theorem d26_0 : decode jdk_40_method_36_code 0 = .ok (.getstatic 90, 3) := by decide +kernel
theorem d26_3 : decode jdk_40_method_36_code 3 = .ok (.areturn, 1) := by decide +kernel
theorem pd26 : parseMethodDescriptor "()Ljava/util/List;" = some ⟨[], some (.object "java/util/List")⟩ := by decide +kernel
theorem pn26 : plainFor (⟨"java/util/List", "of", "()Ljava/util/List;"⟩ : MethodName) = true := by first | (refine plainFor_of_name ?_; simp [plainName, overriddenIn]; done) | (refine plainFor_of_name ?_; decide +kernel) | decide +kernel
abbrev B26 : Bd := ((⟨"java/util/List", "of", "()Ljava/util/List;"⟩ : MethodName), jdk_40_method_36_code, 0, (some (.object "java/util/List")), ({ frames := 0, cells := 0, slots := 0, locals := 0 } : Room), tables_1)
theorem ef26 (mid : MethodId)  : entryFrame mid (List.toArray []) 0 = mkF mid 0 #[] [] := by first | (simp [entryFrame, mkF, argsToLocals, Value.category]; done) | rfl
def Q26 (el : Addr) (h0 : Heap) (v : Option Value) (h : Heap) : Prop := v = some (.ref el) ∧ h0 = h
set_option maxRecDepth 65536 in
set_option maxHeartbeats 40000000 in
theorem c26 (Z : State) (hw : Wd Z tables_1) (h0 : Heap)  (el : Addr) (ea : Addr) (em : Addr) (top : Addr) (bot : Addr) (lem : Addr) (non : Addr) (hv : Ev0 Z el ea em top bot lem non) : Con Z B26 (List.toArray []) h0 (Q26 el h0) := by
  refine Con.mk hw pn26 (fun mid => ef26 mid ) (Go.old fun hle' => ?_)
  have hle := hle'.1
  obtain ⟨hSel, hSem, hStop, hSbot, hSlem, hSnon, hEel, hFel, hAea, hEtop, hTl, hTe, hTu, hTa, hTm, hEbot, hnbt, hElem, hLn, hLg, hAnon⟩ := id hv
  refine Go.getS 3 rfl (v := .ref el) 200 d26_0 rfl hSel ?_
  exact Go.retA d26_3 rfl rfl rfl (by decide) (by decide) ⟨rfl, rfl⟩
theorem d22_0 : decode jdk_44_method_1_code 0 = .ok (.aload_n 0, 1) := by decide +kernel
theorem d22_1 : decode jdk_44_method_1_code 1 = .ok (.invokespecial 1, 3) := by decide +kernel
theorem d22_4 : decode jdk_44_method_1_code 4 = .ok (.aload_n 0, 1) := by decide +kernel
theorem d22_5 : decode jdk_44_method_1_code 5 = .ok (.aload_n 1, 1) := by decide +kernel
theorem d22_6 : decode jdk_44_method_1_code 6 = .ok (.invokestatic 7, 3) := by decide +kernel
theorem d22_9 : decode jdk_44_method_1_code 9 = .ok (.putfield 13, 3) := by decide +kernel
theorem d22_12 : decode jdk_44_method_1_code 12 = .ok (.aload_n 0, 1) := by decide +kernel
theorem d22_13 : decode jdk_44_method_1_code 13 = .ok (.getstatic 19, 3) := by decide +kernel
theorem d22_16 : decode jdk_44_method_1_code 16 = .ok (.putfield 24, 3) := by decide +kernel
theorem d22_19 : decode jdk_44_method_1_code 19 = .ok (.return_, 1) := by decide +kernel
theorem pd22 : parseMethodDescriptor "(Ljava/lang/Object;)V" = some ⟨[(.object "java/lang/Object")], none⟩ := by decide +kernel
theorem pn22 : plainFor (⟨"java/util/ImmutableCollections$List12", "<init>", "(Ljava/lang/Object;)V"⟩ : MethodName) = true := by first | (refine plainFor_of_name ?_; simp [plainName, overriddenIn]; done) | (refine plainFor_of_name ?_; decide +kernel) | decide +kernel
abbrev B22 : Bd := ((⟨"java/util/ImmutableCollections$List12", "<init>", "(Ljava/lang/Object;)V"⟩ : MethodName), jdk_44_method_1_code, 2, none, ({ frames := 4, cells := 0, slots := 0, locals := 48 } : Room), tables_1)
theorem ef22 (mid : MethodId) (a : Addr) (x : Addr) : entryFrame mid (List.toArray [.ref a, .ref x]) 2 = mkF mid 0 #[.val (.ref a), .val (.ref x)] [] := by first | (simp [entryFrame, mkF, argsToLocals, Value.category]; done) | rfl
def Q22 (Z : State) (a : Addr) (x : Addr) (em : Addr) (h0 : Heap) (v : Option Value) (h : Heap) : Prop := v = none ∧ Keep h0 h [a] ∧ Fld Z h a "java/util/ImmutableCollections$List12" "e0" "Ljava/lang/Object;" (.ref x) ∧ Fld Z h a "java/util/ImmutableCollections$List12" "e1" "Ljava/lang/Object;" (.ref em)
set_option maxRecDepth 65536 in
set_option maxHeartbeats 40000000 in
theorem c22 (Z : State) (hw : Wd Z tables_1) (h0 : Heap) (a : Addr) (x : Addr) (em : Addr) (el : Addr) (ea : Addr) (top : Addr) (bot : Addr) (lem : Addr) (non : Addr) (hv : Ev0 Z el ea em top bot lem non) (hge : Z.heap.size ≤ a) (hE : Exa Z h0 a "java/util/ImmutableCollections$List12") (hF0 : Fld Z h0 a "java/util/ImmutableCollections$List12" "e0" "Ljava/lang/Object;" (.null)) (hF1 : Fld Z h0 a "java/util/ImmutableCollections$List12" "e1" "Ljava/lang/Object;" (.null)) : Con Z B22 (List.toArray [.ref a, .ref x]) h0 (Q22 Z a x em h0) := by
  refine Con.mk hw pn22 (fun mid => ef22 mid a x) (Go.old fun hle' => ?_)
  have hle := hle'.1
  obtain ⟨hSel, hSem, hStop, hSbot, hSlem, hSnon, hEel, hFel, hAea, hEtop, hTl, hTe, hTu, hTa, hTm, hEbot, hnbt, hElem, hLn, hLg, hAnon⟩ := id hv
  refine Go.aloadN 1 rfl d22_0 rfl rfl ?_
  refine Go.callI 4 rfl (C := B23) a [] (rest := []) 173 174 177 178 (c23 Z hw h0 a) d22_1 rfl rfl rfl rfl rfl rfl (by decide) pd23 rfl rfl rfl (W := 0) (Nat.le_of_ble_eq_true rfl) (by decide) (by decide) (by decide) (by decide) fun v1 h2 q3 => ?_
  obtain ⟨rfl, rfl⟩ := q3
  refine Go.aloadN 5 rfl d22_4 rfl rfl ?_
  refine Go.aloadN 6 rfl d22_5 rfl rfl ?_
  refine Go.callS 9 rfl (C := B25) [.ref x] (rest := [.ref a]) 187 188 189 190 (c25 Z hw h0 x) d22_6 rfl rfl rfl rfl (by decide) pd25 rfl rfl rfl (W := 1) (Nat.le_of_ble_eq_true rfl) (by decide) (by decide) (by decide) (by decide) fun v4 h5 q6 => ?_
  obtain ⟨rfl, rfl⟩ := q6
  refine Go.putF 12 rfl (v' := .ref x) (ty := (.object "java/lang/Object")) 191 192 167 d22_9 rfl hF0 hE (Or.inr ⟨rfl, rfl, rfl⟩) rfl (by decide) rfl rfl hge fun h7 K8 W9 F10 => ?_
  refine Go.aloadN 13 rfl d22_12 rfl rfl ?_
  refine Go.getSN 16 rfl (v := .ref em) 193 d22_13 rfl hSem ?_
  have F11 : Fld Z h7 a "java/util/ImmutableCollections$List12" "e1" "Ljava/lang/Object;" (.null) := (Fld.oth hw hF1 W9 196 192 (Or.inr rfl) (Or.inr rfl) (by decide) rfl rfl)
  have F12 : Exa Z h7 a "java/util/ImmutableCollections$List12" := (hE.keep K8)
  refine Go.putF 19 rfl (v' := .ref em) (ty := (.object "java/lang/Object")) 195 196 167 d22_16 rfl F11 F12 (Or.inr ⟨rfl, rfl, rfl⟩) rfl (by decide) rfl rfl hge fun h13 K14 W15 F16 => ?_
  have F17 : Fld Z h13 a "java/util/ImmutableCollections$List12" "e0" "Ljava/lang/Object;" (.ref x) := (Fld.oth hw F10 W15 192 196 (Or.inr rfl) (Or.inr rfl) (by decide) rfl rfl)
  exact Go.retV d22_19 rfl (by decide) (by decide) ⟨rfl, (((Keep.refl h0 [a]).trans K8 (by simp)).trans K14 (by simp)), F17, F16⟩
theorem d21_0 : decode jdk_40_method_37_code 0 = .ok (.new 96, 3) := by decide +kernel
theorem d21_3 : decode jdk_40_method_37_code 3 = .ok (.dup, 1) := by decide +kernel
theorem d21_4 : decode jdk_40_method_37_code 4 = .ok (.aload_n 0, 1) := by decide +kernel
theorem d21_5 : decode jdk_40_method_37_code 5 = .ok (.invokespecial 98, 3) := by decide +kernel
theorem d21_8 : decode jdk_40_method_37_code 8 = .ok (.areturn, 1) := by decide +kernel
theorem pd21 : parseMethodDescriptor "(Ljava/lang/Object;)Ljava/util/List;" = some ⟨[(.object "java/lang/Object")], some (.object "java/util/List")⟩ := by decide +kernel
theorem pn21 : plainFor (⟨"java/util/List", "of", "(Ljava/lang/Object;)Ljava/util/List;"⟩ : MethodName) = true := by first | (refine plainFor_of_name ?_; simp [plainName, overriddenIn]; done) | (refine plainFor_of_name ?_; decide +kernel) | decide +kernel
abbrev B21 : Bd := ((⟨"java/util/List", "of", "(Ljava/lang/Object;)Ljava/util/List;"⟩ : MethodName), jdk_40_method_37_code, 1, (some (.object "java/util/List")), ({ frames := 5, cells := 1, slots := 2, locals := 62 } : Room), tables_1)
theorem ef21 (mid : MethodId) (x : Addr) : entryFrame mid (List.toArray [.ref x]) 1 = mkF mid 0 #[.val (.ref x)] [] := by first | (simp [entryFrame, mkF, argsToLocals, Value.category]; done) | rfl
def Q21 (Z : State) (el : Addr) (em : Addr) (x : Addr) (h0 : Heap) (v : Option Value) (h : Heap) : Prop := ∃ l, v = some (.ref l) ∧ h0.size ≤ l ∧ Keep h0 h [] ∧ LV Z h el em l (some x)
set_option maxRecDepth 65536 in
set_option maxHeartbeats 40000000 in
theorem c21 (Z : State) (hw : Wd Z tables_1) (h0 : Heap) (x : Addr) (el : Addr) (em : Addr) (ea : Addr) (top : Addr) (bot : Addr) (lem : Addr) (non : Addr) (hv : Ev0 Z el ea em top bot lem non) : Con Z B21 (List.toArray [.ref x]) h0 (Q21 Z el em x h0) := by
  refine Con.mk hw pn21 (fun mid => ef21 mid x) (Go.old fun hle' => ?_)
  have hle := hle'.1
  obtain ⟨hSel, hSem, hStop, hSbot, hSlem, hSnon, hEel, hFel, hAea, hEtop, hTl, hTe, hTu, hTa, hTm, hEbot, hnbt, hElem, hLn, hLg, hAnon⟩ := id hv
  refine Go.newO 3 rfl 166 167 168 d21_0 rfl rfl rfl (by decide) (by decide) fun h2 a1 g3 z4 K5 E6 D7 => ?_
  refine Go.dup 4 rfl d21_3 rfl ?_
  refine Go.aloadN 5 rfl d21_4 rfl rfl ?_
  refine Go.callI 8 rfl (C := B22) a1 [.ref x] (rest := [.ref a1]) 169 170 168 172 (c22 Z hw h2 a1 x em el ea top bot lem non hv z4 E6 (D7 192 (Or.inr rfl) (ty := (.object "java/lang/Object")) (by decide) : Fld Z h2 a1 "java/util/ImmutableCollections$List12" "e0" "Ljava/lang/Object;" (.null)) (D7 196 (Or.inr rfl) (ty := (.object "java/lang/Object")) (by decide) : Fld Z h2 a1 "java/util/ImmutableCollections$List12" "e1" "Ljava/lang/Object;" (.null))) d21_5 rfl rfl rfl rfl rfl rfl (by decide) pd22 rfl rfl rfl (W := 1) (Nat.le_of_ble_eq_true rfl) (by decide) (by decide) (by decide) (by decide) fun v8 h9 q10 => ?_
  obtain ⟨rfl, K11, F12, F13⟩ := q10
  have F14 : Exa Z h9 a1 "java/util/ImmutableCollections$List12" := (E6.keep K11)
  exact Go.retA d21_8 rfl rfl rfl (by decide) (by decide) ⟨a1, rfl, Nat.le_of_eq g3.symm, (((Keep.refl h0 []).trans K5 all0).trans K11 (allS (Or.inr (by have := K5.1; have := g3; omega)) all0)), Or.inr ⟨x, rfl, F14, F12, F13⟩⟩
theorem d29_0 : decode jdk_45_method_2_code 0 = .ok (.aload_n 0, 1) := by decide +kernel
theorem d29_1 : decode jdk_45_method_2_code 1 = .ok (.getfield 7, 3) := by decide +kernel
theorem d29_4 : decode jdk_45_method_2_code 4 = .ok (.arraylength, 1) := by decide +kernel
theorem d29_5 : decode jdk_45_method_2_code 5 = .ok (.ifCond .ne 7, 3) := by decide +kernel
theorem d29_8 : decode jdk_45_method_2_code 8 = .ok (.iconst 1, 1) := by decide +kernel
theorem d29_9 : decode jdk_45_method_2_code 9 = .ok (.goto 4, 3) := by decide +kernel
theorem d29_12 : decode jdk_45_method_2_code 12 = .ok (.iconst 0, 1) := by decide +kernel
theorem d29_13 : decode jdk_45_method_2_code 13 = .ok (.ireturn, 1) := by decide +kernel
theorem pd29 : parseMethodDescriptor "()Z" = some ⟨[], some .boolean⟩ := by decide +kernel
theorem pn29 : plainFor (⟨"java/util/ImmutableCollections$ListN", "isEmpty", "()Z"⟩ : MethodName) = true := by first | (refine plainFor_of_name ?_; simp [plainName, overriddenIn]; done) | (refine plainFor_of_name ?_; decide +kernel) | decide +kernel
abbrev B29 : Bd := ((⟨"java/util/ImmutableCollections$ListN", "isEmpty", "()Z"⟩ : MethodName), jdk_45_method_2_code, 1, (some .boolean), ({ frames := 0, cells := 0, slots := 0, locals := 0 } : Room), tables_1)
theorem ef29 (mid : MethodId) (a : Addr) : entryFrame mid (List.toArray [.ref a]) 1 = mkF mid 0 #[.val (.ref a)] [] := by first | (simp [entryFrame, mkF, argsToLocals, Value.category]; done) | rfl
def Q29 (h0 : Heap) (v : Option Value) (h : Heap) : Prop := v = some (.int 1) ∧ h0 = h
set_option maxRecDepth 65536 in
set_option maxHeartbeats 40000000 in
theorem c29 (Z : State) (hw : Wd Z tables_1) (h0 : Heap) (a : Addr)  (ea : Addr) (hF : Fld Z h0 a "java/util/ImmutableCollections$ListN" "elements" "[Ljava/lang/Object;" (.ref ea)) (hA : Ary Z h0 ea (.object "java/lang/Object") []) : Con Z B29 (List.toArray [.ref a]) h0 (Q29 h0) := by
  refine Con.mk hw pn29 (fun mid => ef29 mid a) (Go.old fun hle' => ?_)
  have hle := hle'.1
  refine Go.aloadN 1 rfl d29_0 rfl rfl ?_
  refine Go.getF 4 rfl (v := .ref ea) 218 d29_1 rfl hF ?_
  refine Go.alen 5 rfl (0 : Int32) d29_4 hA rfl ?_
  refine Go.if_ne 12 8 d29_5 (by decide) rfl rfl (fun (b1 : ¬ (0 : Int32) = 0) => ?_) (fun (b1 : (0 : Int32) = 0) => ?_)
  · exact absurd rfl b1
  · refine Go.iconst 9 rfl (1 : Int32) d29_8 rfl ?_
    refine Go.goto 13 d29_9 (by decide) (by decide) ?_
    exact Go.retN (t := .boolean) (z' := (1 : Int32)) d29_13 rfl (by decide) rfl (by decide) (by decide) ⟨rfl, rfl⟩
theorem d28_0 : decode jdk_44_method_4_code 0 = .ok (.iconst 0, 1) := by decide +kernel
theorem d28_1 : decode jdk_44_method_4_code 1 = .ok (.ireturn, 1) := by decide +kernel
theorem pd28 : parseMethodDescriptor "()Z" = some ⟨[], some .boolean⟩ := by decide +kernel
theorem pn28 : plainFor (⟨"java/util/ImmutableCollections$List12", "isEmpty", "()Z"⟩ : MethodName) = true := by first | (refine plainFor_of_name ?_; simp [plainName, overriddenIn]; done) | (refine plainFor_of_name ?_; decide +kernel) | decide +kernel
abbrev B28 : Bd := ((⟨"java/util/ImmutableCollections$List12", "isEmpty", "()Z"⟩ : MethodName), jdk_44_method_4_code, 1, (some .boolean), ({ frames := 0, cells := 0, slots := 0, locals := 0 } : Room), tables_1)
theorem ef28 (mid : MethodId) (a : Addr) : entryFrame mid (List.toArray [.ref a]) 1 = mkF mid 0 #[.val (.ref a)] [] := by first | (simp [entryFrame, mkF, argsToLocals, Value.category]; done) | rfl
def Q28 (h0 : Heap) (v : Option Value) (h : Heap) : Prop := v = some (.int 0) ∧ h0 = h
set_option maxRecDepth 65536 in
set_option maxHeartbeats 40000000 in
theorem c28 (Z : State) (hw : Wd Z tables_1) (h0 : Heap) (a : Addr)   : Con Z B28 (List.toArray [.ref a]) h0 (Q28 h0) := by
  refine Con.mk hw pn28 (fun mid => ef28 mid a) (Go.old fun hle' => ?_)
  have hle := hle'.1
  refine Go.iconst 1 rfl (0 : Int32) d28_0 rfl ?_
  exact Go.retN (t := .boolean) (z' := (0 : Int32)) d28_1 rfl (by decide) rfl (by decide) (by decide) ⟨rfl, rfl⟩
theorem d36_0 : decode jdk_45_method_3_code 0 = .ok (.aload_n 0, 1) := by decide +kernel
theorem d36_1 : decode jdk_45_method_3_code 1 = .ok (.getfield 7, 3) := by decide +kernel
theorem d36_4 : decode jdk_45_method_3_code 4 = .ok (.arraylength, 1) := by decide +kernel
theorem d36_5 : decode jdk_45_method_3_code 5 = .ok (.ireturn, 1) := by decide +kernel
theorem pd36 : parseMethodDescriptor "()I" = some ⟨[], some .int⟩ := by decide +kernel
theorem pn36 : plainFor (⟨"java/util/ImmutableCollections$ListN", "size", "()I"⟩ : MethodName) = true := by first | (refine plainFor_of_name ?_; simp [plainName, overriddenIn]; done) | (refine plainFor_of_name ?_; decide +kernel) | decide +kernel
abbrev B36 : Bd := ((⟨"java/util/ImmutableCollections$ListN", "size", "()I"⟩ : MethodName), jdk_45_method_3_code, 1, (some .int), ({ frames := 0, cells := 0, slots := 0, locals := 0 } : Room), tables_1)
theorem ef36 (mid : MethodId) (a : Addr) : entryFrame mid (List.toArray [.ref a]) 1 = mkF mid 0 #[.val (.ref a)] [] := by first | (simp [entryFrame, mkF, argsToLocals, Value.category]; done) | rfl
def Q36 (h0 : Heap) (v : Option Value) (h : Heap) : Prop := v = some (.int 0) ∧ h0 = h
set_option maxRecDepth 65536 in
set_option maxHeartbeats 40000000 in
theorem c36 (Z : State) (hw : Wd Z tables_1) (h0 : Heap) (a : Addr)  (ea : Addr) (hF : Fld Z h0 a "java/util/ImmutableCollections$ListN" "elements" "[Ljava/lang/Object;" (.ref ea)) (hA : Ary Z h0 ea (.object "java/lang/Object") []) : Con Z B36 (List.toArray [.ref a]) h0 (Q36 h0) := by
  refine Con.mk hw pn36 (fun mid => ef36 mid a) (Go.old fun hle' => ?_)
  have hle := hle'.1
  refine Go.aloadN 1 rfl d36_0 rfl rfl ?_
  refine Go.getF 4 rfl (v := .ref ea) 218 d36_1 rfl hF ?_
  refine Go.alen 5 rfl (0 : Int32) d36_4 hA rfl ?_
  exact Go.retI d36_5 rfl (by decide) (by decide) ⟨rfl, rfl⟩
theorem d31_0 : decode jdk_44_method_3_code 0 = .ok (.aload_n 0, 1) := by decide +kernel
theorem d31_1 : decode jdk_44_method_3_code 1 = .ok (.getfield 24, 3) := by decide +kernel
theorem d31_4 : decode jdk_44_method_3_code 4 = .ok (.getstatic 19, 3) := by decide +kernel
theorem d31_7 : decode jdk_44_method_3_code 7 = .ok (.if_acmp .eq 7, 3) := by decide +kernel
theorem d31_10 : decode jdk_44_method_3_code 10 = .ok (.iconst 2, 1) := by decide +kernel
theorem d31_11 : decode jdk_44_method_3_code 11 = .ok (.goto 4, 3) := by decide +kernel
theorem d31_14 : decode jdk_44_method_3_code 14 = .ok (.iconst 1, 1) := by decide +kernel
theorem d31_15 : decode jdk_44_method_3_code 15 = .ok (.ireturn, 1) := by decide +kernel
theorem pd31 : parseMethodDescriptor "()I" = some ⟨[], some .int⟩ := by decide +kernel
theorem pn31 : plainFor (⟨"java/util/ImmutableCollections$List12", "size", "()I"⟩ : MethodName) = true := by first | (refine plainFor_of_name ?_; simp [plainName, overriddenIn]; done) | (refine plainFor_of_name ?_; decide +kernel) | decide +kernel
abbrev B31 : Bd := ((⟨"java/util/ImmutableCollections$List12", "size", "()I"⟩ : MethodName), jdk_44_method_3_code, 1, (some .int), ({ frames := 0, cells := 0, slots := 0, locals := 0 } : Room), tables_1)
theorem ef31 (mid : MethodId) (a : Addr) : entryFrame mid (List.toArray [.ref a]) 1 = mkF mid 0 #[.val (.ref a)] [] := by first | (simp [entryFrame, mkF, argsToLocals, Value.category]; done) | rfl
def Q31 (h0 : Heap) (v : Option Value) (h : Heap) : Prop := v = some (.int 1) ∧ h0 = h
set_option maxRecDepth 65536 in
set_option maxHeartbeats 40000000 in
theorem c31 (Z : State) (hw : Wd Z tables_1) (h0 : Heap) (a : Addr)  (el : Addr) (ea : Addr) (em : Addr) (top : Addr) (bot : Addr) (lem : Addr) (non : Addr) (hv : Ev0 Z el ea em top bot lem non) (hF1 : Fld Z h0 a "java/util/ImmutableCollections$List12" "e1" "Ljava/lang/Object;" (.ref em)) : Con Z B31 (List.toArray [.ref a]) h0 (Q31 h0) := by
  refine Con.mk hw pn31 (fun mid => ef31 mid a) (Go.old fun hle' => ?_)
  have hle := hle'.1
  obtain ⟨hSel, hSem, hStop, hSbot, hSlem, hSnon, hEel, hFel, hAea, hEtop, hTl, hTe, hTu, hTa, hTm, hEbot, hnbt, hElem, hLn, hLg, hAnon⟩ := id hv
  refine Go.aloadN 1 rfl d31_0 rfl rfl ?_
  refine Go.getF 4 rfl (v := .ref em) 195 d31_1 rfl hF1 ?_
  refine Go.getSN 7 rfl (v := .ref em) 193 d31_4 rfl hSem ?_
  refine Go.acmp_eq 14 10 d31_7 (by decide) rfl rfl rfl rfl (fun (b1 : (.ref em : Value) = .ref em) => ?_) (fun (b1 : ¬ (.ref em : Value) = .ref em) => ?_)
  · refine Go.iconst 15 rfl (1 : Int32) d31_14 rfl ?_
    exact Go.retI d31_15 rfl (by decide) (by decide) ⟨rfl, rfl⟩
  · exact absurd rfl b1
theorem d32_0 : decode jdk_53_method_1_code 0 = .ok (.aload_n 0, 1) := by decide +kernel
theorem d32_1 : decode jdk_53_method_1_code 1 = .ok (.invokespecial 1, 3) := by decide +kernel
theorem d32_4 : decode jdk_53_method_1_code 4 = .ok (.aload_n 0, 1) := by decide +kernel
theorem d32_5 : decode jdk_53_method_1_code 5 = .ok (.aload_n 1, 1) := by decide +kernel
theorem d32_6 : decode jdk_53_method_1_code 6 = .ok (.putfield 7, 3) := by decide +kernel
theorem d32_9 : decode jdk_53_method_1_code 9 = .ok (.aload_n 0, 1) := by decide +kernel
theorem d32_10 : decode jdk_53_method_1_code 10 = .ok (.iload_n 2, 1) := by decide +kernel
theorem d32_11 : decode jdk_53_method_1_code 11 = .ok (.putfield 13, 3) := by decide +kernel
theorem d32_14 : decode jdk_53_method_1_code 14 = .ok (.aload_n 0, 1) := by decide +kernel
theorem d32_15 : decode jdk_53_method_1_code 15 = .ok (.iconst 0, 1) := by decide +kernel
theorem d32_16 : decode jdk_53_method_1_code 16 = .ok (.putfield 17, 3) := by decide +kernel
theorem d32_19 : decode jdk_53_method_1_code 19 = .ok (.aload_n 0, 1) := by decide +kernel
theorem d32_20 : decode jdk_53_method_1_code 20 = .ok (.iconst 0, 1) := by decide +kernel
theorem d32_21 : decode jdk_53_method_1_code 21 = .ok (.putfield 20, 3) := by decide +kernel
theorem d32_24 : decode jdk_53_method_1_code 24 = .ok (.return_, 1) := by decide +kernel
theorem pd32 : parseMethodDescriptor "(Ljava/util/List;I)V" = some ⟨[(.object "java/util/List"), .int], none⟩ := by decide +kernel
theorem pn32 : plainFor (⟨"java/util/ImmutableCollections$ListItr", "<init>", "(Ljava/util/List;I)V"⟩ : MethodName) = true := by first | (refine plainFor_of_name ?_; simp [plainName, overriddenIn]; done) | (refine plainFor_of_name ?_; decide +kernel) | decide +kernel
abbrev B32 : Bd := ((⟨"java/util/ImmutableCollections$ListItr", "<init>", "(Ljava/util/List;I)V"⟩ : MethodName), jdk_53_method_1_code, 3, none, ({ frames := 1, cells := 0, slots := 0, locals := 12 } : Room), tables_1)
theorem ef32 (mid : MethodId) (a : Addr) (l : Addr) (s : Int32) : entryFrame mid (List.toArray [.ref a, .ref l, .int s]) 3 = mkF mid 0 #[.val (.ref a), .val (.ref l), .val (.int s)] [] := by first | (simp [entryFrame, mkF, argsToLocals, Value.category]; done) | rfl
def Q32 (Z : State) (a : Addr) (l : Addr) (s : Int32) (h0 : Heap) (v : Option Value) (h : Heap) : Prop := v = none ∧ Keep h0 h [a] ∧ Fld Z h a "java/util/ImmutableCollections$ListItr" "list" "Ljava/util/List;" (.ref l) ∧ Fld Z h a "java/util/ImmutableCollections$ListItr" "size" "I" (.int s) ∧ Fld Z h a "java/util/ImmutableCollections$ListItr" "cursor" "I" (.int (0 : Int32)) ∧ Fld Z h a "java/util/ImmutableCollections$ListItr" "isListIterator" "Z" (.int (0 : Int32))
set_option maxRecDepth 65536 in
set_option maxHeartbeats 40000000 in
theorem c32 (Z : State) (hw : Wd Z tables_1) (h0 : Heap) (a : Addr) (l : Addr) (s : Int32)  (hge : Z.heap.size ≤ a) (hE : Exa Z h0 a "java/util/ImmutableCollections$ListItr") (hF0 : Fld Z h0 a "java/util/ImmutableCollections$ListItr" "list" "Ljava/util/List;" (.null)) (hF1 : Fld Z h0 a "java/util/ImmutableCollections$ListItr" "size" "I" (.int (0 : Int32))) (hF2 : Fld Z h0 a "java/util/ImmutableCollections$ListItr" "cursor" "I" (.int (0 : Int32))) (hF3 : Fld Z h0 a "java/util/ImmutableCollections$ListItr" "isListIterator" "Z" (.int (0 : Int32))) : Con Z B32 (List.toArray [.ref a, .ref l, .int s]) h0 (Q32 Z a l s h0) := by
  refine Con.mk hw pn32 (fun mid => ef32 mid a l s) (Go.old fun hle' => ?_)
  have hle := hle'.1
  refine Go.aloadN 1 rfl d32_0 rfl rfl ?_
  refine Go.initO 4 rfl 238 12 13 d32_1 rfl rfl rfl rfl (by decide) (W := 0) (Nat.le_of_ble_eq_true rfl) (by decide) ?_
  refine Go.aloadN 5 rfl d32_4 rfl rfl ?_
  refine Go.aloadN 6 rfl d32_5 rfl rfl ?_
  refine Go.putF 9 rfl (v' := .ref l) (ty := (.object "java/util/List")) 239 240 226 d32_6 rfl hF0 hE (Or.inr ⟨rfl, rfl, rfl⟩) rfl (by decide) rfl rfl hge fun h1 K2 W3 F4 => ?_
  refine Go.aloadN 10 rfl d32_9 rfl rfl ?_
  refine Go.iloadN 11 rfl d32_10 rfl ?_
  have F5 : Fld Z h1 a "java/util/ImmutableCollections$ListItr" "size" "I" (.int (0 : Int32)) := (Fld.oth hw hF1 W3 242 240 (Or.inr rfl) (Or.inr rfl) (by decide) rfl rfl)
  have F6 : Exa Z h1 a "java/util/ImmutableCollections$ListItr" := (hE.keep K2)
  refine Go.putF 14 rfl (v' := .int s) (ty := .int) 241 242 226 d32_11 rfl F5 F6 (Or.inr ⟨rfl, rfl, rfl⟩) rfl (by decide) rfl rfl hge fun h7 K8 W9 F10 => ?_
  refine Go.aloadN 15 rfl d32_14 rfl rfl ?_
  refine Go.iconst 16 rfl (0 : Int32) d32_15 rfl ?_
  have F11 : Fld Z h7 a "java/util/ImmutableCollections$ListItr" "cursor" "I" (.int (0 : Int32)) := (Fld.oth hw (Fld.oth hw hF2 W3 244 240 (Or.inl rfl) (Or.inr rfl) (by decide) rfl rfl) W9 244 242 (Or.inl rfl) (Or.inr rfl) (by decide) rfl rfl)
  have F12 : Exa Z h7 a "java/util/ImmutableCollections$ListItr" := (F6.keep K8)
  refine Go.putF 19 rfl (v' := .int (0 : Int32)) (ty := .int) 243 244 226 d32_16 rfl F11 F12 (Or.inl rfl) rfl (by decide) rfl rfl hge fun h13 K14 W15 F16 => ?_
  refine Go.aloadN 20 rfl d32_19 rfl rfl ?_
  refine Go.iconst 21 rfl (0 : Int32) d32_20 rfl ?_
  have F17 : Fld Z h13 a "java/util/ImmutableCollections$ListItr" "isListIterator" "Z" (.int (0 : Int32)) := (Fld.oth hw (Fld.oth hw (Fld.oth hw hF3 W3 246 240 (Or.inr rfl) (Or.inr rfl) (by decide) rfl rfl) W9 246 242 (Or.inr rfl) (Or.inr rfl) (by decide) rfl rfl) W15 246 244 (Or.inr rfl) (Or.inl rfl) (by decide) rfl rfl)
  have F18 : Exa Z h13 a "java/util/ImmutableCollections$ListItr" := (F12.keep K14)
  refine Go.putF 24 rfl (v' := .int (0 : Int32)) (ty := .boolean) 245 246 226 d32_21 rfl F17 F18 (Or.inr ⟨rfl, rfl, rfl⟩) rfl (by decide) rfl rfl hge fun h19 K20 W21 F22 => ?_
  have F23 : Fld Z h19 a "java/util/ImmutableCollections$ListItr" "list" "Ljava/util/List;" (.ref l) := (Fld.oth hw (Fld.oth hw (Fld.oth hw F4 W9 240 242 (Or.inr rfl) (Or.inr rfl) (by decide) rfl rfl) W15 240 244 (Or.inr rfl) (Or.inl rfl) (by decide) rfl rfl) W21 240 246 (Or.inr rfl) (Or.inr rfl) (by decide) rfl rfl)
  have F24 : Fld Z h19 a "java/util/ImmutableCollections$ListItr" "size" "I" (.int s) := (Fld.oth hw (Fld.oth hw F10 W15 242 244 (Or.inr rfl) (Or.inl rfl) (by decide) rfl rfl) W21 242 246 (Or.inr rfl) (Or.inr rfl) (by decide) rfl rfl)
  have F25 : Fld Z h19 a "java/util/ImmutableCollections$ListItr" "cursor" "I" (.int (0 : Int32)) := (Fld.oth hw F16 W21 244 246 (Or.inl rfl) (Or.inr rfl) (by decide) rfl rfl)
  exact Go.retV d32_24 rfl (by decide) (by decide) ⟨rfl, (((((Keep.refl h0 [a]).trans K2 (by simp)).trans K8 (by simp)).trans K14 (by simp)).trans K20 (by simp)), F23, F24, F25, F22⟩
theorem d33_0 : decode jdk_53_method_3_code 0 = .ok (.aload_n 0, 1) := by decide +kernel
theorem d33_1 : decode jdk_53_method_3_code 1 = .ok (.getfield 17, 3) := by decide +kernel
theorem d33_4 : decode jdk_53_method_3_code 4 = .ok (.aload_n 0, 1) := by decide +kernel
theorem d33_5 : decode jdk_53_method_3_code 5 = .ok (.getfield 13, 3) := by decide +kernel
theorem d33_8 : decode jdk_53_method_3_code 8 = .ok (.if_icmp .eq 7, 3) := by decide +kernel
theorem d33_11 : decode jdk_53_method_3_code 11 = .ok (.iconst 1, 1) := by decide +kernel
theorem d33_12 : decode jdk_53_method_3_code 12 = .ok (.goto 4, 3) := by decide +kernel
theorem d33_15 : decode jdk_53_method_3_code 15 = .ok (.iconst 0, 1) := by decide +kernel
theorem d33_16 : decode jdk_53_method_3_code 16 = .ok (.ireturn, 1) := by decide +kernel
theorem pd33 : parseMethodDescriptor "()Z" = some ⟨[], some .boolean⟩ := by decide +kernel
theorem pn33 : plainFor (⟨"java/util/ImmutableCollections$ListItr", "hasNext", "()Z"⟩ : MethodName) = true := by first | (refine plainFor_of_name ?_; simp [plainName, overriddenIn]; done) | (refine plainFor_of_name ?_; decide +kernel) | decide +kernel
abbrev B33 : Bd := ((⟨"java/util/ImmutableCollections$ListItr", "hasNext", "()Z"⟩ : MethodName), jdk_53_method_3_code, 1, (some .boolean), ({ frames := 0, cells := 0, slots := 0, locals := 0 } : Room), tables_1)
theorem ef33 (mid : MethodId) (a : Addr) : entryFrame mid (List.toArray [.ref a]) 1 = mkF mid 0 #[.val (.ref a)] [] := by first | (simp [entryFrame, mkF, argsToLocals, Value.category]; done) | rfl
def Q33 (cu : Int32) (sz : Int32) (h0 : Heap) (v : Option Value) (h : Heap) : Prop := v = some (.int (if cu = sz then 0 else 1)) ∧ h0 = h
set_option maxRecDepth 65536 in
set_option maxHeartbeats 40000000 in
theorem c33 (Z : State) (hw : Wd Z tables_1) (h0 : Heap) (a : Addr) (cu : Int32) (sz : Int32) (hC : Fld Z h0 a "java/util/ImmutableCollections$ListItr" "cursor" "I" (.int cu)) (hZ : Fld Z h0 a "java/util/ImmutableCollections$ListItr" "size" "I" (.int sz)) : Con Z B33 (List.toArray [.ref a]) h0 (Q33 cu sz h0) := by
  refine Con.mk hw pn33 (fun mid => ef33 mid a) (Go.old fun hle' => ?_)
  have hle := hle'.1
  refine Go.aloadN 1 rfl d33_0 rfl rfl ?_
  refine Go.getF 4 rfl (v := .int cu) 243 d33_1 rfl hC ?_
  refine Go.aloadN 5 rfl d33_4 rfl rfl ?_
  refine Go.getF 8 rfl (v := .int sz) 241 d33_5 rfl hZ ?_
  refine Go.icmp_eq 15 11 d33_8 (by decide) rfl rfl (fun (b1 : cu = sz) => ?_) (fun (b1 : ¬ cu = sz) => ?_)
  · refine Go.iconst 16 rfl (0 : Int32) d33_15 rfl ?_
    exact Go.retN (t := .boolean) (z' := (0 : Int32)) d33_16 rfl (by decide) rfl (by decide) (by decide) ⟨by rw [if_pos b1], rfl⟩
  · refine Go.iconst 12 rfl (1 : Int32) d33_11 rfl ?_
    refine Go.goto 16 d33_12 (by decide) (by decide) ?_
    exact Go.retN (t := .boolean) (z' := (1 : Int32)) d33_16 rfl (by decide) rfl (by decide) (by decide) ⟨by rw [if_neg b1], rfl⟩
theorem d30_0 : decode jdk_46_method_10_code 0 = .ok (.new 61, 3) := by decide +kernel
theorem d30_3 : decode jdk_46_method_10_code 3 = .ok (.dup, 1) := by decide +kernel
theorem d30_4 : decode jdk_46_method_10_code 4 = .ok (.aload_n 0, 1) := by decide +kernel
theorem d30_5 : decode jdk_46_method_10_code 5 = .ok (.aload_n 0, 1) := by decide +kernel
theorem d30_6 : decode jdk_46_method_10_code 6 = .ok (.invokevirtual 13, 3) := by decide +kernel
theorem d30_9 : decode jdk_46_method_10_code 9 = .ok (.invokespecial 63, 3) := by decide +kernel
theorem d30_12 : decode jdk_46_method_10_code 12 = .ok (.areturn, 1) := by decide +kernel
theorem pd30 : parseMethodDescriptor "()Ljava/util/Iterator;" = some ⟨[], some (.object "java/util/Iterator")⟩ := by decide +kernel
theorem pn30 : plainFor (⟨"java/util/ImmutableCollections$AbstractImmutableList", "iterator", "()Ljava/util/Iterator;"⟩ : MethodName) = true := by first | (refine plainFor_of_name ?_; simp [plainName, overriddenIn]; done) | (refine plainFor_of_name ?_; decide +kernel) | decide +kernel
abbrev B30 : Bd := ((⟨"java/util/ImmutableCollections$AbstractImmutableList", "iterator", "()Ljava/util/Iterator;"⟩ : MethodName), jdk_46_method_10_code, 1, (some (.object "java/util/Iterator")), ({ frames := 2, cells := 1, slots := 4, locals := 27 } : Room), tables_1)
theorem ef30n (mid : MethodId) (a : Addr) : entryFrame mid (List.toArray [.ref a]) 1 = mkF mid 0 #[.val (.ref a)] [] := by first | (simp [entryFrame, mkF, argsToLocals, Value.category]; done) | rfl
def Q30n (Z : State) (a : Addr) (h0 : Heap) (v : Option Value) (h : Heap) : Prop := ∃ it, v = some (.ref it) ∧ h0.size ≤ it ∧ Keep h0 h [] ∧ Exa Z h it "java/util/ImmutableCollections$ListItr" ∧ Fld Z h it "java/util/ImmutableCollections$ListItr" "list" "Ljava/util/List;" (.ref a) ∧ Fld Z h it "java/util/ImmutableCollections$ListItr" "size" "I" (.int (0 : Int32)) ∧ Fld Z h it "java/util/ImmutableCollections$ListItr" "cursor" "I" (.int (0 : Int32))
set_option maxRecDepth 65536 in
set_option maxHeartbeats 40000000 in
theorem c30n (Z : State) (hw : Wd Z tables_1) (h0 : Heap) (a : Addr)  (el : Addr) (ea : Addr) (em : Addr) (top : Addr) (bot : Addr) (lem : Addr) (non : Addr) (hv : Ev0 Z el ea em top bot lem non) (hE : Exa Z h0 a "java/util/ImmutableCollections$ListN") (hF : Fld Z h0 a "java/util/ImmutableCollections$ListN" "elements" "[Ljava/lang/Object;" (.ref ea)) (hA : Ary Z h0 ea (.object "java/lang/Object") []) : Con Z B30 (List.toArray [.ref a]) h0 (Q30n Z a h0) := by
  refine Con.mk hw pn30 (fun mid => ef30n mid a) (Go.old fun hle' => ?_)
  have hle := hle'.1
  obtain ⟨hSel, hSem, hStop, hSbot, hSlem, hSnon, hEel, hFel, hAea, hEtop, hTl, hTe, hTu, hTa, hTm, hEbot, hnbt, hElem, hLn, hLg, hAnon⟩ := id hv
  refine Go.newO 3 rfl 225 226 227 d30_0 rfl rfl rfl (by decide) (by decide) fun h2 a1 g3 z4 K5 E6 D7 => ?_
  refine Go.dup 4 rfl d30_3 rfl ?_
  refine Go.aloadN 5 rfl d30_4 rfl rfl ?_
  refine Go.aloadN 6 rfl d30_5 rfl rfl ?_
  have F8 : Fld Z h2 a "java/util/ImmutableCollections$ListN" "elements" "[Ljava/lang/Object;" (.ref ea) := (hF.keep K5 nin0)
  have F9 : Ary Z h2 ea (.object "java/lang/Object") [] := (hA.keep K5 nin0)
  have F13 : Exa Z h2 a "java/util/ImmutableCollections$ListN" := (hE.keep K5)
  refine Go.callVU 9 rfl (C := B36) (y := ⟨"java/util/ImmutableCollections$AbstractImmutableList", "size", "()I"⟩) (ow := "java/util/AbstractCollection") a [] (rest := [.ref a, .ref a1, .ref a1]) 228 229 230 277 278 216 279 (c36 Z hw h2 a ea F8 F9) F13 d30_6 rfl rfl rfl rfl rfl rfl rfl (by decide) pd36 rfl rfl rfl (W := 3) (Nat.le_of_ble_eq_true rfl) (by decide) (by decide) (by decide) (by decide) fun v10 h11 q12 => ?_
  obtain ⟨rfl, rfl⟩ := q12
  refine Go.callI 12 rfl (C := B32) a1 [.ref a, .int (0 : Int32)] (rest := [.ref a1]) 234 235 227 237 (c32 Z hw h2 a1 a (0 : Int32) z4 E6 (D7 240 (Or.inr rfl) (ty := (.object "java/util/List")) (by decide) : Fld Z h2 a1 "java/util/ImmutableCollections$ListItr" "list" "Ljava/util/List;" (.null)) (D7 242 (Or.inr rfl) (ty := .int) (by decide) : Fld Z h2 a1 "java/util/ImmutableCollections$ListItr" "size" "I" (.int (0 : Int32))) (D7 244 (Or.inl rfl) (ty := .int) (by decide) : Fld Z h2 a1 "java/util/ImmutableCollections$ListItr" "cursor" "I" (.int (0 : Int32))) (D7 246 (Or.inr rfl) (ty := .boolean) (by decide) : Fld Z h2 a1 "java/util/ImmutableCollections$ListItr" "isListIterator" "Z" (.int (0 : Int32)))) d30_9 rfl rfl rfl rfl rfl rfl (by decide) pd32 rfl rfl rfl (W := 1) (Nat.le_of_ble_eq_true rfl) (by decide) (by decide) (by decide) (by decide) fun v14 h15 q16 => ?_
  obtain ⟨rfl, K17, F18, F19, F20, F21⟩ := q16
  have F22 : Exa Z h15 a1 "java/util/ImmutableCollections$ListItr" := (E6.keep K17)
  exact Go.retA d30_12 rfl rfl rfl (by decide) (by decide) ⟨a1, rfl, Nat.le_of_eq g3.symm, (((Keep.refl h0 []).trans K5 all0).trans K17 (allS (Or.inr (by have := K5.1; have := g3; omega)) all0)), F22, F18, F19, F20⟩
theorem ef30t (mid : MethodId) (a : Addr) : entryFrame mid (List.toArray [.ref a]) 1 = mkF mid 0 #[.val (.ref a)] [] := by first | (simp [entryFrame, mkF, argsToLocals, Value.category]; done) | rfl
def Q30t (Z : State) (a : Addr) (h0 : Heap) (v : Option Value) (h : Heap) : Prop := ∃ it, v = some (.ref it) ∧ h0.size ≤ it ∧ Keep h0 h [] ∧ Exa Z h it "java/util/ImmutableCollections$ListItr" ∧ Fld Z h it "java/util/ImmutableCollections$ListItr" "list" "Ljava/util/List;" (.ref a) ∧ Fld Z h it "java/util/ImmutableCollections$ListItr" "size" "I" (.int (1 : Int32)) ∧ Fld Z h it "java/util/ImmutableCollections$ListItr" "cursor" "I" (.int (0 : Int32))
set_option maxRecDepth 65536 in
set_option maxHeartbeats 40000000 in
theorem c30t (Z : State) (hw : Wd Z tables_1) (h0 : Heap) (a : Addr)  (el : Addr) (ea : Addr) (em : Addr) (top : Addr) (bot : Addr) (lem : Addr) (non : Addr) (hv : Ev0 Z el ea em top bot lem non) (hE : Exa Z h0 a "java/util/ImmutableCollections$List12") (hF1 : Fld Z h0 a "java/util/ImmutableCollections$List12" "e1" "Ljava/lang/Object;" (.ref em)) : Con Z B30 (List.toArray [.ref a]) h0 (Q30t Z a h0) := by
  refine Con.mk hw pn30 (fun mid => ef30t mid a) (Go.old fun hle' => ?_)
  have hle := hle'.1
  obtain ⟨hSel, hSem, hStop, hSbot, hSlem, hSnon, hEel, hFel, hAea, hEtop, hTl, hTe, hTu, hTa, hTm, hEbot, hnbt, hElem, hLn, hLg, hAnon⟩ := id hv
  refine Go.newO 3 rfl 225 226 227 d30_0 rfl rfl rfl (by decide) (by decide) fun h2 a1 g3 z4 K5 E6 D7 => ?_
  refine Go.dup 4 rfl d30_3 rfl ?_
  refine Go.aloadN 5 rfl d30_4 rfl rfl ?_
  refine Go.aloadN 6 rfl d30_5 rfl rfl ?_
  have F8 : Fld Z h2 a "java/util/ImmutableCollections$List12" "e1" "Ljava/lang/Object;" (.ref em) := (hF1.keep K5 nin0)
  have F12 : Exa Z h2 a "java/util/ImmutableCollections$List12" := (hE.keep K5)
  refine Go.callVU 9 rfl (C := B31) (y := ⟨"java/util/ImmutableCollections$AbstractImmutableList", "size", "()I"⟩) (ow := "java/util/AbstractCollection") a [] (rest := [.ref a, .ref a1, .ref a1]) 228 229 230 231 232 168 233 (c31 Z hw h2 a el ea em top bot lem non hv F8) F12 d30_6 rfl rfl rfl rfl rfl rfl rfl (by decide) pd31 rfl rfl rfl (W := 3) (Nat.le_of_ble_eq_true rfl) (by decide) (by decide) (by decide) (by decide) fun v9 h10 q11 => ?_
  obtain ⟨rfl, rfl⟩ := q11
  refine Go.callI 12 rfl (C := B32) a1 [.ref a, .int (1 : Int32)] (rest := [.ref a1]) 234 235 227 237 (c32 Z hw h2 a1 a (1 : Int32) z4 E6 (D7 240 (Or.inr rfl) (ty := (.object "java/util/List")) (by decide) : Fld Z h2 a1 "java/util/ImmutableCollections$ListItr" "list" "Ljava/util/List;" (.null)) (D7 242 (Or.inr rfl) (ty := .int) (by decide) : Fld Z h2 a1 "java/util/ImmutableCollections$ListItr" "size" "I" (.int (0 : Int32))) (D7 244 (Or.inl rfl) (ty := .int) (by decide) : Fld Z h2 a1 "java/util/ImmutableCollections$ListItr" "cursor" "I" (.int (0 : Int32))) (D7 246 (Or.inr rfl) (ty := .boolean) (by decide) : Fld Z h2 a1 "java/util/ImmutableCollections$ListItr" "isListIterator" "Z" (.int (0 : Int32)))) d30_9 rfl rfl rfl rfl rfl rfl (by decide) pd32 rfl rfl rfl (W := 1) (Nat.le_of_ble_eq_true rfl) (by decide) (by decide) (by decide) (by decide) fun v13 h14 q15 => ?_
  obtain ⟨rfl, K16, F17, F18, F19, F20⟩ := q15
  have F21 : Exa Z h14 a1 "java/util/ImmutableCollections$ListItr" := (E6.keep K16)
  exact Go.retA d30_12 rfl rfl rfl (by decide) (by decide) ⟨a1, rfl, Nat.le_of_eq g3.symm, (((Keep.refl h0 []).trans K5 all0).trans K16 (allS (Or.inr (by have := K5.1; have := g3; omega)) all0)), F21, F17, F18, F19⟩
theorem d34_0 : decode jdk_44_method_5_code 0 = .ok (.iload_n 1, 1) := by decide +kernel
theorem d34_1 : decode jdk_44_method_5_code 1 = .ok (.ifCond .ne 8, 3) := by decide +kernel
theorem d34_4 : decode jdk_44_method_5_code 4 = .ok (.aload_n 0, 1) := by decide +kernel
theorem d34_5 : decode jdk_44_method_5_code 5 = .ok (.getfield 13, 3) := by decide +kernel
theorem d34_8 : decode jdk_44_method_5_code 8 = .ok (.areturn, 1) := by decide +kernel
theorem pd34 : parseMethodDescriptor "(I)Ljava/lang/Object;" = some ⟨[.int], some (.object "java/lang/Object")⟩ := by decide +kernel
theorem pn34 : plainFor (⟨"java/util/ImmutableCollections$List12", "get", "(I)Ljava/lang/Object;"⟩ : MethodName) = true := by first | (refine plainFor_of_name ?_; simp [plainName, overriddenIn]; done) | (refine plainFor_of_name ?_; decide +kernel) | decide +kernel
abbrev B34 : Bd := ((⟨"java/util/ImmutableCollections$List12", "get", "(I)Ljava/lang/Object;"⟩ : MethodName), jdk_44_method_5_code, 2, (some (.object "java/lang/Object")), ({ frames := 0, cells := 0, slots := 0, locals := 0 } : Room), tables_1)
theorem ef34 (mid : MethodId) (a : Addr) : entryFrame mid (List.toArray [.ref a, .int (0 : Int32)]) 2 = mkF mid 0 #[.val (.ref a), .val (.int (0 : Int32))] [] := by first | (simp [entryFrame, mkF, argsToLocals, Value.category]; done) | rfl
def Q34 (x : Addr) (h0 : Heap) (v : Option Value) (h : Heap) : Prop := v = some (.ref x) ∧ h0 = h
set_option maxRecDepth 65536 in
set_option maxHeartbeats 40000000 in
theorem c34 (Z : State) (hw : Wd Z tables_1) (h0 : Heap) (a : Addr) (x : Addr) (hF : Fld Z h0 a "java/util/ImmutableCollections$List12" "e0" "Ljava/lang/Object;" (.ref x)) : Con Z B34 (List.toArray [.ref a, .int (0 : Int32)]) h0 (Q34 x h0) := by
  refine Con.mk hw pn34 (fun mid => ef34 mid a) (Go.old fun hle' => ?_)
  have hle := hle'.1
  refine Go.iloadN 1 rfl d34_0 rfl ?_
  refine Go.if_ne 9 4 d34_1 (by decide) rfl rfl (fun (b1 : ¬ (0 : Int32) = 0) => ?_) (fun (b1 : (0 : Int32) = 0) => ?_)
  · exact absurd rfl b1
  · refine Go.aloadN 5 rfl d34_4 rfl rfl ?_
    refine Go.getF 8 rfl (v := .ref x) 191 d34_5 rfl hF ?_
    exact Go.retA d34_8 rfl rfl rfl (by decide) (by decide) ⟨rfl, rfl⟩
theorem d44_0 : decode jdk_53_method_4_code 0 = .ok (.aload_n 0, 1) := by decide +kernel
theorem d44_1 : decode jdk_53_method_4_code 1 = .ok (.getfield 17, 3) := by decide +kernel
theorem d44_4 : decode jdk_53_method_4_code 4 = .ok (.istore_n 1, 1) := by decide +kernel
theorem d44_5 : decode jdk_53_method_4_code 5 = .ok (.aload_n 0, 1) := by decide +kernel
theorem d44_6 : decode jdk_53_method_4_code 6 = .ok (.getfield 7, 3) := by decide +kernel
theorem d44_9 : decode jdk_53_method_4_code 9 = .ok (.iload_n 1, 1) := by decide +kernel
theorem d44_10 : decode jdk_53_method_4_code 10 = .ok (.invokeinterface 24 2, 5) := by decide +kernel
theorem d44_15 : decode jdk_53_method_4_code 15 = .ok (.astore_n 2, 1) := by decide +kernel
theorem d44_16 : decode jdk_53_method_4_code 16 = .ok (.aload_n 0, 1) := by decide +kernel
theorem d44_17 : decode jdk_53_method_4_code 17 = .ok (.iload_n 1, 1) := by decide +kernel
theorem d44_18 : decode jdk_53_method_4_code 18 = .ok (.iconst 1, 1) := by decide +kernel
theorem d44_19 : decode jdk_53_method_4_code 19 = .ok (.iadd, 1) := by decide +kernel
theorem d44_20 : decode jdk_53_method_4_code 20 = .ok (.putfield 17, 3) := by decide +kernel
theorem d44_23 : decode jdk_53_method_4_code 23 = .ok (.aload_n 2, 1) := by decide +kernel
theorem d44_24 : decode jdk_53_method_4_code 24 = .ok (.areturn, 1) := by decide +kernel
theorem pd44 : parseMethodDescriptor "()Ljava/lang/Object;" = some ⟨[], some (.object "java/lang/Object")⟩ := by decide +kernel
theorem pn44 : plainFor (⟨"java/util/ImmutableCollections$ListItr", "next", "()Ljava/lang/Object;"⟩ : MethodName) = true := by first | (refine plainFor_of_name ?_; simp [plainName, overriddenIn]; done) | (refine plainFor_of_name ?_; decide +kernel) | decide +kernel
abbrev B44 : Bd := ((⟨"java/util/ImmutableCollections$ListItr", "next", "()Ljava/lang/Object;"⟩ : MethodName), jdk_53_method_4_code, 3, (some (.object "java/lang/Object")), ({ frames := 1, cells := 0, slots := 0, locals := 13 } : Room), tables_1)
theorem ef44 (mid : MethodId) (a : Addr) : entryFrame mid (List.toArray [.ref a]) 3 = mkF mid 0 #[.val (.ref a), .unset, .unset] [] := by first | (simp [entryFrame, mkF, argsToLocals, Value.category]; done) | rfl
def Q44 (Z : State) (a : Addr) (x : Addr) (sz : Int32) (h0 : Heap) (v : Option Value) (h : Heap) : Prop := v = some (.ref x) ∧ Keep h0 h [a] ∧ Fld Z h a "java/util/ImmutableCollections$ListItr" "size" "I" (.int sz) ∧ Fld Z h a "java/util/ImmutableCollections$ListItr" "cursor" "I" (.int (1 : Int32))
set_option maxRecDepth 65536 in
set_option maxHeartbeats 40000000 in
theorem c44 (Z : State) (hw : Wd Z tables_1) (h0 : Heap) (a : Addr) (x : Addr) (sz : Int32) (l : Addr) (hge : Z.heap.size ≤ a) (hE : Exa Z h0 a "java/util/ImmutableCollections$ListItr") (hF_list : Fld Z h0 a "java/util/ImmutableCollections$ListItr" "list" "Ljava/util/List;" (.ref l)) (hF_size : Fld Z h0 a "java/util/ImmutableCollections$ListItr" "size" "I" (.int sz)) (hF_cursor : Fld Z h0 a "java/util/ImmutableCollections$ListItr" "cursor" "I" (.int (0 : Int32))) (hL : Exa Z h0 l "java/util/ImmutableCollections$List12") (hX : Fld Z h0 l "java/util/ImmutableCollections$List12" "e0" "Ljava/lang/Object;" (.ref x)) : ConW [(0, 24, 25, 30)] Z B44 (List.toArray [.ref a]) h0 (Q44 Z a x sz h0) := by
  refine ConW.mk hw pn44 (fun mid => ef44 mid a) (Go.old fun hle' => ?_)
  have hle := hle'.1
  refine Go.aloadN 1 rfl d44_0 rfl rfl ?_
  refine Go.getF 4 rfl (v := .int (0 : Int32)) 243 d44_1 rfl hF_cursor ?_
  refine Go.istoreN 5 rfl d44_4 (Ls' := #[.val (.ref a), .val (.int (0 : Int32)), .unset]) rfl ?_
  refine Go.aloadN 6 rfl d44_5 rfl rfl ?_
  refine Go.getF 9 rfl (v := .ref l) 239 d44_6 rfl hF_list ?_
  refine Go.iloadN 10 rfl d44_9 rfl ?_
  refine Go.callF 15 rfl (C := B34) (y := ⟨"java/util/List", "get", "(I)Ljava/lang/Object;"⟩) l [.int (0 : Int32)] (rest := []) 261 262 263 264 265 266 267 209 168 268 (c34 Z hw h0 l x hX) hL d44_10 rfl rfl rfl rfl rfl rfl rfl rfl rfl rfl rfl (by decide) pd34 rfl rfl rfl (W := 0) (Nat.le_of_ble_eq_true rfl) (by decide) (by decide) (by decide) (by decide) fun v1 h2 q3 => ?_
  obtain ⟨rfl, rfl⟩ := q3
  refine Go.astoreN 16 rfl d44_15 rfl (Ls' := #[.val (.ref a), .val (.int (0 : Int32)), .val (.ref x)]) rfl ?_
  refine Go.aloadN 17 rfl d44_16 rfl rfl ?_
  refine Go.iloadN 18 rfl d44_17 rfl ?_
  refine Go.iconst 19 rfl (1 : Int32) d44_18 rfl ?_
  refine Go.iadd 20 rfl d44_19 ?_
  refine Go.putF 23 rfl (v' := .int ((0 : Int32) + (1 : Int32))) (ty := .int) 243 244 226 d44_20 rfl hF_cursor hE (Or.inl rfl) rfl (by decide) rfl rfl hge fun h4 K5 W6 F7 => ?_
  refine Go.aloadN 24 rfl d44_23 rfl rfl ?_
  have F8 : Fld Z h4 a "java/util/ImmutableCollections$ListItr" "size" "I" (.int sz) := (Fld.oth hw hF_size W6 242 244 (Or.inr rfl) (Or.inl rfl) (by decide) rfl rfl)
  exact Go.retA d44_24 rfl rfl rfl (by decide) (by decide) ⟨rfl, ((Keep.refl h0 [a]).trans K5 (by simp)), F8, F7⟩
theorem d10_0 : decode prog_3_method_2_code 0 = .ok (.aload_n 0, 1) := by decide +kernel
theorem d10_1 : decode prog_3_method_2_code 1 = .ok (.invokespecial 13, 3) := by decide +kernel
theorem d10_4 : decode prog_3_method_2_code 4 = .ok (.aload_n 0, 1) := by decide +kernel
theorem d10_5 : decode prog_3_method_2_code 5 = .ok (.aload_n 1, 1) := by decide +kernel
theorem d10_6 : decode prog_3_method_2_code 6 = .ok (.putfield 18, 3) := by decide +kernel
theorem d10_9 : decode prog_3_method_2_code 9 = .ok (.aload_n 0, 1) := by decide +kernel
theorem d10_10 : decode prog_3_method_2_code 10 = .ok (.aload_n 2, 1) := by decide +kernel
theorem d10_11 : decode prog_3_method_2_code 11 = .ok (.putfield 22, 3) := by decide +kernel
theorem d10_14 : decode prog_3_method_2_code 14 = .ok (.aload_n 0, 1) := by decide +kernel
theorem d10_15 : decode prog_3_method_2_code 15 = .ok (.aload_n 3, 1) := by decide +kernel
theorem d10_16 : decode prog_3_method_2_code 16 = .ok (.putfield 26, 3) := by decide +kernel
theorem d10_19 : decode prog_3_method_2_code 19 = .ok (.aload_n 0, 1) := by decide +kernel
theorem d10_20 : decode prog_3_method_2_code 20 = .ok (.aload 4, 2) := by decide +kernel
theorem d10_22 : decode prog_3_method_2_code 22 = .ok (.putfield 29, 3) := by decide +kernel
theorem d10_25 : decode prog_3_method_2_code 25 = .ok (.aload_n 0, 1) := by decide +kernel
theorem d10_26 : decode prog_3_method_2_code 26 = .ok (.aload 5, 2) := by decide +kernel
theorem d10_28 : decode prog_3_method_2_code 28 = .ok (.putfield 32, 3) := by decide +kernel
theorem d10_31 : decode prog_3_method_2_code 31 = .ok (.aload_n 2, 1) := by decide +kernel
theorem d10_32 : decode prog_3_method_2_code 32 = .ok (.invokeinterface 35 1, 5) := by decide +kernel
theorem d10_37 : decode prog_3_method_2_code 37 = .ok (.ifCond .ne 7, 3) := by decide +kernel
theorem d10_40 : decode prog_3_method_2_code 40 = .ok (.iconst 1, 1) := by decide +kernel
theorem d10_41 : decode prog_3_method_2_code 41 = .ok (.goto 4, 3) := by decide +kernel
theorem d10_44 : decode prog_3_method_2_code 44 = .ok (.iconst 0, 1) := by decide +kernel
theorem d10_45 : decode prog_3_method_2_code 45 = .ok (.istore 6, 2) := by decide +kernel
theorem d10_47 : decode prog_3_method_2_code 47 = .ok (.aload 4, 2) := by decide +kernel
theorem d10_49 : decode prog_3_method_2_code 49 = .ok (.invokeinterface 35 1, 5) := by decide +kernel
theorem d10_54 : decode prog_3_method_2_code 54 = .ok (.ifCond .eq 13, 3) := by decide +kernel
theorem d10_57 : decode prog_3_method_2_code 57 = .ok (.aload 5, 2) := by decide +kernel
theorem d10_59 : decode prog_3_method_2_code 59 = .ok (.invokeinterface 35 1, 5) := by decide +kernel
theorem d10_64 : decode prog_3_method_2_code 64 = .ok (.ifCond .ne 7, 3) := by decide +kernel
theorem d10_67 : decode prog_3_method_2_code 67 = .ok (.iconst 1, 1) := by decide +kernel
theorem d10_68 : decode prog_3_method_2_code 68 = .ok (.goto 4, 3) := by decide +kernel
theorem d10_71 : decode prog_3_method_2_code 71 = .ok (.iconst 0, 1) := by decide +kernel
theorem d10_72 : decode prog_3_method_2_code 72 = .ok (.istore 7, 2) := by decide +kernel
theorem d10_74 : decode prog_3_method_2_code 74 = .ok (.aload_n 2, 1) := by decide +kernel
theorem d10_75 : decode prog_3_method_2_code 75 = .ok (.invokeinterface 39 1, 5) := by decide +kernel
theorem d10_80 : decode prog_3_method_2_code 80 = .ok (.astore 8, 2) := by decide +kernel
theorem d10_82 : decode prog_3_method_2_code 82 = .ok (.aload 8, 2) := by decide +kernel
theorem d10_84 : decode prog_3_method_2_code 84 = .ok (.invokeinterface 43 1, 5) := by decide +kernel
theorem d10_89 : decode prog_3_method_2_code 89 = .ok (.ifCond .eq 31, 3) := by decide +kernel
theorem d10_92 : decode prog_3_method_2_code 92 = .ok (.aload 8, 2) := by decide +kernel
theorem d10_94 : decode prog_3_method_2_code 94 = .ok (.invokeinterface 48 1, 5) := by decide +kernel
theorem d10_99 : decode prog_3_method_2_code 99 = .ok (.checkcast 52, 3) := by decide +kernel
theorem d10_102 : decode prog_3_method_2_code 102 = .ok (.astore 9, 2) := by decide +kernel
theorem d10_104 : decode prog_3_method_2_code 104 = .ok (.iload 7, 2) := by decide +kernel
theorem d10_106 : decode prog_3_method_2_code 106 = .ok (.aload 9, 2) := by decide +kernel
theorem d10_108 : decode prog_3_method_2_code 108 = .ok (.invokevirtual 54, 3) := by decide +kernel
theorem d10_111 : decode prog_3_method_2_code 111 = .ok (.getfield 58, 3) := by decide +kernel
theorem d10_114 : decode prog_3_method_2_code 114 = .ok (.ior, 1) := by decide +kernel
theorem d10_115 : decode prog_3_method_2_code 115 = .ok (.istore 7, 2) := by decide +kernel
theorem d10_117 : decode prog_3_method_2_code 117 = .ok (.goto (-35), 3) := by decide +kernel
theorem d10_120 : decode prog_3_method_2_code 120 = .ok (.aload_n 3, 1) := by decide +kernel
theorem d10_121 : decode prog_3_method_2_code 121 = .ok (.invokeinterface 39 1, 5) := by decide +kernel
theorem d10_126 : decode prog_3_method_2_code 126 = .ok (.astore 8, 2) := by decide +kernel
theorem d10_128 : decode prog_3_method_2_code 128 = .ok (.aload 8, 2) := by decide +kernel
theorem d10_130 : decode prog_3_method_2_code 130 = .ok (.invokeinterface 43 1, 5) := by decide +kernel
theorem d10_135 : decode prog_3_method_2_code 135 = .ok (.ifCond .eq 44, 3) := by decide +kernel
theorem d10_138 : decode prog_3_method_2_code 138 = .ok (.aload 8, 2) := by decide +kernel
theorem d10_140 : decode prog_3_method_2_code 140 = .ok (.invokeinterface 48 1, 5) := by decide +kernel
theorem d10_145 : decode prog_3_method_2_code 145 = .ok (.checkcast 62, 3) := by decide +kernel
theorem d10_148 : decode prog_3_method_2_code 148 = .ok (.astore 9, 2) := by decide +kernel
theorem d10_150 : decode prog_3_method_2_code 150 = .ok (.iload 6, 2) := by decide +kernel
theorem d10_152 : decode prog_3_method_2_code 152 = .ok (.aload 9, 2) := by decide +kernel
theorem d10_154 : decode prog_3_method_2_code 154 = .ok (.invokevirtual 64, 3) := by decide +kernel
theorem d10_157 : decode prog_3_method_2_code 157 = .ok (.getfield 65, 3) := by decide +kernel
theorem d10_160 : decode prog_3_method_2_code 160 = .ok (.ior, 1) := by decide +kernel
theorem d10_161 : decode prog_3_method_2_code 161 = .ok (.istore 6, 2) := by decide +kernel
theorem d10_163 : decode prog_3_method_2_code 163 = .ok (.iload 7, 2) := by decide +kernel
theorem d10_165 : decode prog_3_method_2_code 165 = .ok (.aload 9, 2) := by decide +kernel
theorem d10_167 : decode prog_3_method_2_code 167 = .ok (.invokevirtual 64, 3) := by decide +kernel
theorem d10_170 : decode prog_3_method_2_code 170 = .ok (.getfield 58, 3) := by decide +kernel
theorem d10_173 : decode prog_3_method_2_code 173 = .ok (.ior, 1) := by decide +kernel
theorem d10_174 : decode prog_3_method_2_code 174 = .ok (.istore 7, 2) := by decide +kernel
theorem d10_176 : decode prog_3_method_2_code 176 = .ok (.goto (-48), 3) := by decide +kernel
theorem d10_179 : decode prog_3_method_2_code 179 = .ok (.aload_n 0, 1) := by decide +kernel
theorem d10_180 : decode prog_3_method_2_code 180 = .ok (.iload 6, 2) := by decide +kernel
theorem d10_182 : decode prog_3_method_2_code 182 = .ok (.putfield 65, 3) := by decide +kernel
theorem d10_185 : decode prog_3_method_2_code 185 = .ok (.aload_n 0, 1) := by decide +kernel
theorem d10_186 : decode prog_3_method_2_code 186 = .ok (.iload 7, 2) := by decide +kernel
theorem d10_188 : decode prog_3_method_2_code 188 = .ok (.putfield 58, 3) := by decide +kernel
theorem d10_191 : decode prog_3_method_2_code 191 = .ok (.return_, 1) := by decide +kernel
theorem pd10 : parseMethodDescriptor "(Lcom/example/subsumer/subsumer/core/Label;Ljava/util/List;Ljava/util/List;Ljava/util/List;Ljava/util/List;)V" = some ⟨[(.object "com/example/subsumer/subsumer/core/Label"), (.object "java/util/List"), (.object "java/util/List"), (.object "java/util/List"), (.object "java/util/List")], none⟩ := by decide +kernel
theorem pn10 : plainFor (⟨"com/example/subsumer/subsumer/core/Description", "<init>", "(Lcom/example/subsumer/subsumer/core/Label;Ljava/util/List;Ljava/util/List;Ljava/util/List;Ljava/util/List;)V"⟩ : MethodName) = true := by first | (refine plainFor_of_name ?_; simp [plainName, overriddenIn]; done) | (refine plainFor_of_name ?_; decide +kernel) | decide +kernel
abbrev B10 : Bd := ((⟨"com/example/subsumer/subsumer/core/Description", "<init>", "(Lcom/example/subsumer/subsumer/core/Label;Ljava/util/List;Ljava/util/List;Ljava/util/List;Ljava/util/List;)V"⟩ : MethodName), prog_3_method_2_code, 10, none, ({ frames := 3, cells := 2, slots := 8, locals := 39 } : Room), tables_1)
theorem ef10 (mid : MethodId) (a : Addr) (lb : Addr) (ex : Addr) (un : Addr) (al : Addr) (am : Addr) : entryFrame mid (List.toArray [.ref a, .ref lb, .ref ex, .ref un, .ref al, .ref am]) 10 = mkF mid 0 #[.val (.ref a), .val (.ref lb), .val (.ref ex), .val (.ref un), .val (.ref al), .val (.ref am), .unset, .unset, .unset, .unset] [] := by first | (simp [entryFrame, mkF, argsToLocals, Value.category]; done) | rfl
def Q10 (Z : State) (a : Addr) (lb : Addr) (ex : Addr) (un : Addr) (al : Addr) (am : Addr) (h0 : Heap) (v : Option Value) (h : Heap) : Prop := v = none ∧ Keep h0 h [a] ∧ Fld Z h a "com/example/subsumer/subsumer/core/Description" "label" "Lcom/example/subsumer/subsumer/core/Label;" (.ref lb) ∧ Fld Z h a "com/example/subsumer/subsumer/core/Description" "existentials" "Ljava/util/List;" (.ref ex) ∧ Fld Z h a "com/example/subsumer/subsumer/core/Description" "universals" "Ljava/util/List;" (.ref un) ∧ Fld Z h a "com/example/subsumer/subsumer/core/Description" "atLeast" "Ljava/util/List;" (.ref al) ∧ Fld Z h a "com/example/subsumer/subsumer/core/Description" "atMost" "Ljava/util/List;" (.ref am) ∧ ∃ q1 q2 : Int32, Fld Z h a "com/example/subsumer/subsumer/core/Description" "existentialInside" "Z" (.int q1) ∧ Fld Z h a "com/example/subsumer/subsumer/core/Description" "numberInside" "Z" (.int q2)
set_option maxRecDepth 65536 in
set_option maxHeartbeats 40000000 in
theorem c10 (Z : State) (hw : Wd Z tables_1) (h0 : Heap) (a : Addr) (lb : Addr) (ex : Addr) (un : Addr) (al : Addr) (am : Addr)  (el : Addr) (ea : Addr) (em : Addr) (top : Addr) (bot : Addr) (lem : Addr) (non : Addr) (hv : Ev0 Z el ea em top bot lem non) (hge : Z.heap.size ≤ a) (hE : Exa Z h0 a "com/example/subsumer/subsumer/core/Description") (hF_label : Fld Z h0 a "com/example/subsumer/subsumer/core/Description" "label" "Lcom/example/subsumer/subsumer/core/Label;" (.null)) (hF_existentials : Fld Z h0 a "com/example/subsumer/subsumer/core/Description" "existentials" "Ljava/util/List;" (.null)) (hF_universals : Fld Z h0 a "com/example/subsumer/subsumer/core/Description" "universals" "Ljava/util/List;" (.null)) (hF_atLeast : Fld Z h0 a "com/example/subsumer/subsumer/core/Description" "atLeast" "Ljava/util/List;" (.null)) (hF_atMost : Fld Z h0 a "com/example/subsumer/subsumer/core/Description" "atMost" "Ljava/util/List;" (.null)) (hF_existentialInside : Fld Z h0 a "com/example/subsumer/subsumer/core/Description" "existentialInside" "Z" (.int (0 : Int32))) (hF_numberInside : Fld Z h0 a "com/example/subsumer/subsumer/core/Description" "numberInside" "Z" (.int (0 : Int32))) (oex : Option Addr) (hEx : LV Z h0 el em ex oex) (oun : Option Addr) (hUn : LV Z h0 el em un oun) (oal : Option Addr) (hAl : LV Z h0 el em al oal) (oam : Option Addr) (hAm : LV Z h0 el em am oam) (hEx' : ∀ x, oex = some x → EV Z h0 "com/example/subsumer/subsumer/core/Existential" x) (hUn0 : oun = none) : Con Z B10 (List.toArray [.ref a, .ref lb, .ref ex, .ref un, .ref al, .ref am]) h0 (Q10 Z a lb ex un al am h0) := by
  refine Con.mk hw pn10 (fun mid => ef10 mid a lb ex un al am) (Go.old fun hle' => ?_)
  have hle := hle'.1
  obtain ⟨hSel, hSem, hStop, hSbot, hSlem, hSnon, hEel, hFel, hAea, hEtop, hTl, hTe, hTu, hTa, hTm, hEbot, hnbt, hElem, hLn, hLg, hAnon⟩ := id hv
  refine Go.aloadN 1 rfl d10_0 rfl rfl ?_
  refine Go.initO 4 rfl 63 12 13 d10_1 rfl rfl rfl rfl (by decide) (W := 0) (Nat.le_of_ble_eq_true rfl) (by decide) ?_
  refine Go.aloadN 5 rfl d10_4 rfl rfl ?_
  refine Go.aloadN 6 rfl d10_5 rfl rfl ?_
  refine Go.putF 9 rfl (v' := .ref lb) (ty := (.object "com/example/subsumer/subsumer/core/Label")) 64 65 58 d10_6 rfl hF_label hE (Or.inr ⟨rfl, rfl, rfl⟩) rfl (by decide) rfl rfl hge fun h1 K2 W3 F4 => ?_
  refine Go.aloadN 10 rfl d10_9 rfl rfl ?_
  refine Go.aloadN 11 rfl d10_10 rfl rfl ?_
  have F5 : Fld Z h1 a "com/example/subsumer/subsumer/core/Description" "existentials" "Ljava/util/List;" (.null) := (Fld.oth hw hF_existentials W3 67 65 (Or.inr rfl) (Or.inr rfl) (by decide) rfl rfl)
  have F6 : Exa Z h1 a "com/example/subsumer/subsumer/core/Description" := (hE.keep K2)
  refine Go.putF 14 rfl (v' := .ref ex) (ty := (.object "java/util/List")) 66 67 58 d10_11 rfl F5 F6 (Or.inr ⟨rfl, rfl, rfl⟩) rfl (by decide) rfl rfl hge fun h7 K8 W9 F10 => ?_
  refine Go.aloadN 15 rfl d10_14 rfl rfl ?_
  refine Go.aloadN 16 rfl d10_15 rfl rfl ?_
  have F11 : Fld Z h7 a "com/example/subsumer/subsumer/core/Description" "universals" "Ljava/util/List;" (.null) := (Fld.oth hw (Fld.oth hw hF_universals W3 69 65 (Or.inr rfl) (Or.inr rfl) (by decide) rfl rfl) W9 69 67 (Or.inr rfl) (Or.inr rfl) (by decide) rfl rfl)
  have F12 : Exa Z h7 a "com/example/subsumer/subsumer/core/Description" := (F6.keep K8)
  refine Go.putF 19 rfl (v' := .ref un) (ty := (.object "java/util/List")) 68 69 58 d10_16 rfl F11 F12 (Or.inr ⟨rfl, rfl, rfl⟩) rfl (by decide) rfl rfl hge fun h13 K14 W15 F16 => ?_
  refine Go.aloadN 20 rfl d10_19 rfl rfl ?_
  refine Go.aload 22 rfl d10_20 rfl rfl ?_
  have F17 : Fld Z h13 a "com/example/subsumer/subsumer/core/Description" "atLeast" "Ljava/util/List;" (.null) := (Fld.oth hw (Fld.oth hw (Fld.oth hw hF_atLeast W3 71 65 (Or.inr rfl) (Or.inr rfl) (by decide) rfl rfl) W9 71 67 (Or.inr rfl) (Or.inr rfl) (by decide) rfl rfl) W15 71 69 (Or.inr rfl) (Or.inr rfl) (by decide) rfl rfl)
  have F18 : Exa Z h13 a "com/example/subsumer/subsumer/core/Description" := (F12.keep K14)
  refine Go.putF 25 rfl (v' := .ref al) (ty := (.object "java/util/List")) 70 71 58 d10_22 rfl F17 F18 (Or.inr ⟨rfl, rfl, rfl⟩) rfl (by decide) rfl rfl hge fun h19 K20 W21 F22 => ?_
  refine Go.aloadN 26 rfl d10_25 rfl rfl ?_
  refine Go.aload 28 rfl d10_26 rfl rfl ?_
  have F23 : Fld Z h19 a "com/example/subsumer/subsumer/core/Description" "atMost" "Ljava/util/List;" (.null) := (Fld.oth hw (Fld.oth hw (Fld.oth hw (Fld.oth hw hF_atMost W3 73 65 (Or.inr rfl) (Or.inr rfl) (by decide) rfl rfl) W9 73 67 (Or.inr rfl) (Or.inr rfl) (by decide) rfl rfl) W15 73 69 (Or.inr rfl) (Or.inr rfl) (by decide) rfl rfl) W21 73 71 (Or.inr rfl) (Or.inr rfl) (by decide) rfl rfl)
  have F24 : Exa Z h19 a "com/example/subsumer/subsumer/core/Description" := (F18.keep K20)
  refine Go.putF 31 rfl (v' := .ref am) (ty := (.object "java/util/List")) 72 73 58 d10_28 rfl F23 F24 (Or.inr ⟨rfl, rfl, rfl⟩) rfl (by decide) rfl rfl hge fun h25 K26 W27 F28 => ?_
  have K29 : Keep h0 h25 [a] := ((((((Keep.refl h0 [a]).trans K2 (by simp)).trans K8 (by simp)).trans K14 (by simp)).trans K20 (by simp)).trans K26 (by simp))
  have Vex : LV Z h25 el em ex oex := hEx.keep K29 (own_lne hv hEx hE hge)
  have Vun : LV Z h25 el em un oun := hUn.keep K29 (own_lne hv hUn hE hge)
  have Val : LV Z h25 el em al oal := hAl.keep K29 (own_lne hv hAl hE hge)
  have Vam : LV Z h25 el em am oam := hAm.keep K29 (own_lne hv hAm hE hge)
  have F30 : Fld Z h25 a "com/example/subsumer/subsumer/core/Description" "numberInside" "Z" (.int (0 : Int32)) := (Fld.oth hw (Fld.oth hw (Fld.oth hw (Fld.oth hw (Fld.oth hw hF_numberInside W3 124 65 (Or.inr rfl) (Or.inr rfl) (by decide) rfl rfl) W9 124 67 (Or.inr rfl) (Or.inr rfl) (by decide) rfl rfl) W15 124 69 (Or.inr rfl) (Or.inr rfl) (by decide) rfl rfl) W21 124 71 (Or.inr rfl) (Or.inr rfl) (by decide) rfl rfl) W27 124 73 (Or.inr rfl) (Or.inr rfl) (by decide) rfl rfl)
  have F31 : Fld Z h25 a "com/example/subsumer/subsumer/core/Description" "existentialInside" "Z" (.int (0 : Int32)) := (Fld.oth hw (Fld.oth hw (Fld.oth hw (Fld.oth hw (Fld.oth hw hF_existentialInside W3 122 65 (Or.inr rfl) (Or.inr rfl) (by decide) rfl rfl) W9 122 67 (Or.inr rfl) (Or.inr rfl) (by decide) rfl rfl) W15 122 69 (Or.inr rfl) (Or.inr rfl) (by decide) rfl rfl) W21 122 71 (Or.inr rfl) (Or.inr rfl) (by decide) rfl rfl) W27 122 73 (Or.inr rfl) (Or.inr rfl) (by decide) rfl rfl)
  have Wex : ∀ x, oex = some x → EV Z h25 "com/example/subsumer/subsumer/core/Existential" x := fun x hx => (hEx' x hx).keep1 K29 (by decide) hE (fun _ _ F => own_fk F K29 hF_numberInside F30) (fun _ _ F => own_fk F K29 hF_existentialInside F31)
  refine Go.aloadN 32 rfl d10_31 rfl rfl ?_
  refine Go.joinI (pcJ := 37) (LsJ := #[.val (.ref a), .val (.ref lb), .val (.ref ex), .val (.ref un), .val (.ref al), .val (.ref am), .unset, .unset, .unset, .unset]) (stJ := []) (fun v => v = if oex = none then 1 else 0) (fun J => ?_) (fun e32 he33 => ?_)
  · refine Go.old fun x34 => ?_
    rcases Vex with ⟨ho, hl⟩ | ⟨y, ho, E, F0, F1⟩
    · refine Go.callF 37 rfl (C := B29) (y := ⟨"java/util/List", "isEmpty", "()Z"⟩) ex [] (rest := []) 74 75 76 211 212 213 214 215 216 217 (c29 Z hw h25 ex ea (hl ▸ hFel.ext x34) (hAea.ext x34)) (hl ▸ hEel.ext x34) d10_32 rfl rfl rfl rfl rfl rfl rfl rfl rfl rfl rfl (by decide) pd29 rfl rfl rfl (W := 0) (Nat.le_of_ble_eq_true rfl) (by decide) (by decide) (by decide) (by decide) fun v35 h36 q37 => ?_
      obtain ⟨rfl, rfl⟩ := q37
      exact J _ (by simp [ho])
    · refine Go.callF 37 rfl (C := B28) (y := ⟨"java/util/List", "isEmpty", "()Z"⟩) ex [] (rest := []) 74 75 76 205 206 207 208 209 168 210 (c28 Z hw h25 ex) E d10_32 rfl rfl rfl rfl rfl rfl rfl rfl rfl rfl rfl (by decide) pd28 rfl rfl rfl (W := 0) (Nat.le_of_ble_eq_true rfl) (by decide) (by decide) (by decide) (by decide) fun v38 h39 q40 => ?_
      obtain ⟨rfl, rfl⟩ := q40
      exact J _ (by simp [ho])
  · refine Go.joinI (pcJ := 45) (LsJ := #[.val (.ref a), .val (.ref lb), .val (.ref ex), .val (.ref un), .val (.ref al), .val (.ref am), .unset, .unset, .unset, .unset]) (stJ := []) (fun v => True) (fun J => ?_) (fun v6 _h6 => ?_)
    · refine Go.if_ne 44 40 d10_37 (by decide) rfl rfl (fun (b41 : ¬ e32 = 0) => ?_) (fun (b41 : e32 = 0) => ?_)
      · refine Go.iconst 45 rfl (0 : Int32) d10_44 rfl ?_
        exact J _ trivial
      · refine Go.iconst 41 rfl (1 : Int32) d10_40 rfl ?_
        refine Go.goto 45 d10_41 (by decide) (by decide) ?_
        exact J _ trivial
    · refine Go.istore 47 rfl d10_45 (Ls' := #[.val (.ref a), .val (.ref lb), .val (.ref ex), .val (.ref un), .val (.ref al), .val (.ref am), .val (.int v6), .unset, .unset, .unset]) rfl ?_
      refine Go.aload 49 rfl d10_47 rfl rfl ?_
      refine Go.joinI (pcJ := 54) (LsJ := #[.val (.ref a), .val (.ref lb), .val (.ref ex), .val (.ref un), .val (.ref al), .val (.ref am), .val (.int v6), .unset, .unset, .unset]) (stJ := []) (fun v => v = if oal = none then 1 else 0) (fun J => ?_) (fun e42 he43 => ?_)
      · refine Go.old fun x44 => ?_
        rcases Val with ⟨ho, hl⟩ | ⟨y, ho, E, F0, F1⟩
        · refine Go.callF 54 rfl (C := B29) (y := ⟨"java/util/List", "isEmpty", "()Z"⟩) al [] (rest := []) 74 75 76 211 212 213 214 215 216 217 (c29 Z hw h25 al ea (hl ▸ hFel.ext x44) (hAea.ext x44)) (hl ▸ hEel.ext x44) d10_49 rfl rfl rfl rfl rfl rfl rfl rfl rfl rfl rfl (by decide) pd29 rfl rfl rfl (W := 0) (Nat.le_of_ble_eq_true rfl) (by decide) (by decide) (by decide) (by decide) fun v45 h46 q47 => ?_
          obtain ⟨rfl, rfl⟩ := q47
          exact J _ (by simp [ho])
        · refine Go.callF 54 rfl (C := B28) (y := ⟨"java/util/List", "isEmpty", "()Z"⟩) al [] (rest := []) 74 75 76 205 206 207 208 209 168 210 (c28 Z hw h25 al) E d10_49 rfl rfl rfl rfl rfl rfl rfl rfl rfl rfl rfl (by decide) pd28 rfl rfl rfl (W := 0) (Nat.le_of_ble_eq_true rfl) (by decide) (by decide) (by decide) (by decide) fun v48 h49 q50 => ?_
          obtain ⟨rfl, rfl⟩ := q50
          exact J _ (by simp [ho])
      · refine Go.joinI (pcJ := 72) (LsJ := #[.val (.ref a), .val (.ref lb), .val (.ref ex), .val (.ref un), .val (.ref al), .val (.ref am), .val (.int v6), .unset, .unset, .unset]) (stJ := []) (fun v => True) (fun J => ?_) (fun v7 _h7 => ?_)
        · refine Go.if_eq 67 57 d10_54 (by decide) rfl rfl (fun (b51 : e42 = 0) => ?_) (fun (b51 : ¬ e42 = 0) => ?_)
          · refine Go.iconst 68 rfl (1 : Int32) d10_67 rfl ?_
            refine Go.goto 72 d10_68 (by decide) (by decide) ?_
            exact J _ trivial
          · refine Go.aload 59 rfl d10_57 rfl rfl ?_
            refine Go.joinI (pcJ := 64) (LsJ := #[.val (.ref a), .val (.ref lb), .val (.ref ex), .val (.ref un), .val (.ref al), .val (.ref am), .val (.int v6), .unset, .unset, .unset]) (stJ := []) (fun v => v = if oam = none then 1 else 0) (fun J => ?_) (fun e52 he53 => ?_)
            · refine Go.old fun x54 => ?_
              rcases Vam with ⟨ho, hl⟩ | ⟨y, ho, E, F0, F1⟩
              · refine Go.callF 64 rfl (C := B29) (y := ⟨"java/util/List", "isEmpty", "()Z"⟩) am [] (rest := []) 74 75 76 211 212 213 214 215 216 217 (c29 Z hw h25 am ea (hl ▸ hFel.ext x54) (hAea.ext x54)) (hl ▸ hEel.ext x54) d10_59 rfl rfl rfl rfl rfl rfl rfl rfl rfl rfl rfl (by decide) pd29 rfl rfl rfl (W := 0) (Nat.le_of_ble_eq_true rfl) (by decide) (by decide) (by decide) (by decide) fun v55 h56 q57 => ?_
                obtain ⟨rfl, rfl⟩ := q57
                exact J _ (by simp [ho])
              · refine Go.callF 64 rfl (C := B28) (y := ⟨"java/util/List", "isEmpty", "()Z"⟩) am [] (rest := []) 74 75 76 205 206 207 208 209 168 210 (c28 Z hw h25 am) E d10_59 rfl rfl rfl rfl rfl rfl rfl rfl rfl rfl rfl (by decide) pd28 rfl rfl rfl (W := 0) (Nat.le_of_ble_eq_true rfl) (by decide) (by decide) (by decide) (by decide) fun v58 h59 q60 => ?_
                obtain ⟨rfl, rfl⟩ := q60
                exact J _ (by simp [ho])
            · refine Go.if_ne 71 67 d10_64 (by decide) rfl rfl (fun (b61 : ¬ e52 = 0) => ?_) (fun (b61 : e52 = 0) => ?_)
              · refine Go.iconst 72 rfl (0 : Int32) d10_71 rfl ?_
                exact J _ trivial
              · refine Go.iconst 68 rfl (1 : Int32) d10_67 rfl ?_
                refine Go.goto 72 d10_68 (by decide) (by decide) ?_
                exact J _ trivial
        · refine Go.istore 74 rfl d10_72 (Ls' := #[.val (.ref a), .val (.ref lb), .val (.ref ex), .val (.ref un), .val (.ref al), .val (.ref am), .val (.int v6), .val (.int v7), .unset, .unset]) rfl ?_
          refine Go.aloadN 75 rfl d10_74 rfl rfl ?_
          refine cut (∀ (h'1 : Heap) (u61 u71 : Int32) (it1 : Addr) (s91 : Slot), Keep h25 h'1 [] → One s91 → Go (Q10 Z a lb ex un al am h0) Z B10 1 4 h'1 120 #[.val (.ref a), .val (.ref lb), .val (.ref ex), .val (.ref un), .val (.ref al), .val (.ref am), .val (.int u61), .val (.int u71), .val (.ref it1), s91] []) (fun J1 => ?_) (fun h'1 u61 u71 it1 s91 KJ1 o91 => ?_)
          · refine Go.old fun x62 => ?_
            rcases Vex with ⟨ho, hl⟩ | ⟨y, ho, E, F0, F1⟩
            · refine Go.callF 80 rfl (C := B30) (y := ⟨"java/util/List", "iterator", "()Ljava/util/Iterator;"⟩) ex [] (rest := []) 85 86 87 275 221 222 276 215 177 224 (c30n Z hw h25 ex el ea em top bot lem non hv (hl ▸ hEel.ext x62) (hl ▸ hFel.ext x62) (hAea.ext x62)) (hl ▸ hEel.ext x62) d10_75 rfl rfl rfl rfl rfl rfl rfl rfl rfl rfl rfl (by decide) pd30 rfl rfl rfl (W := 0) (Nat.le_of_ble_eq_true rfl) (by decide) (by decide) (by decide) (by decide) fun v63 h64 q65 => ?_
              obtain ⟨it66, rfl, g67, K68, E69, F70, F71, F72⟩ := q65
              have z73 : Z.heap.size ≤ it66 := Nat.le_trans (Nat.le_trans (Nat.le_trans (Nat.le_trans (Nat.le_trans (Nat.le_trans hle K2.1) K8.1) K14.1) K20.1) K26.1) g67
              refine Go.astore 82 rfl d10_80 rfl (Ls' := #[.val (.ref a), .val (.ref lb), .val (.ref ex), .val (.ref un), .val (.ref al), .val (.ref am), .val (.int v6), .val (.int v7), .val (.ref it66), .unset]) rfl ?_
              refine Go.aload 84 rfl d10_82 rfl rfl ?_
              refine Go.callF 89 rfl (C := B33) (y := ⟨"java/util/Iterator", "hasNext", "()Z"⟩) it66 [] (rest := []) 109 110 111 247 248 249 250 251 227 252 (c33 Z hw h64 it66 (0 : Int32) (0 : Int32) F72 F71) E69 d10_84 rfl rfl rfl rfl rfl rfl rfl rfl rfl rfl rfl (by decide) pd33 rfl rfl rfl (W := 0) (Nat.le_of_ble_eq_true rfl) (by decide) (by decide) (by decide) (by decide) fun v74 h75 q76 => ?_
              obtain ⟨rfl, rfl⟩ := q76
              refine Go.eqI (w := 0) (if_pos rfl) ?_
              refine Go.if_eq 120 92 d10_89 (by decide) rfl rfl (fun (b77 : (0 : Int32) = 0) => ?_) (fun (b77 : ¬ (0 : Int32) = 0) => ?_)
              · exact J1 _ _ _ _ _ ((Keep.refl h25 []).trans K68 all0) One.u
              · exact absurd rfl b77
            · refine Go.callF 80 rfl (C := B30) (y := ⟨"java/util/List", "iterator", "()Ljava/util/Iterator;"⟩) ex [] (rest := []) 85 86 87 220 221 222 223 209 177 224 (c30t Z hw h25 ex el ea em top bot lem non hv E F1) E d10_75 rfl rfl rfl rfl rfl rfl rfl rfl rfl rfl rfl (by decide) pd30 rfl rfl rfl (W := 0) (Nat.le_of_ble_eq_true rfl) (by decide) (by decide) (by decide) (by decide) fun v78 h79 q80 => ?_
              obtain ⟨it81, rfl, g82, K83, E84, F85, F86, F87⟩ := q80
              have z88 : Z.heap.size ≤ it81 := Nat.le_trans (Nat.le_trans (Nat.le_trans (Nat.le_trans (Nat.le_trans (Nat.le_trans hle K2.1) K8.1) K14.1) K20.1) K26.1) g82
              refine Go.astore 82 rfl d10_80 rfl (Ls' := #[.val (.ref a), .val (.ref lb), .val (.ref ex), .val (.ref un), .val (.ref al), .val (.ref am), .val (.int v6), .val (.int v7), .val (.ref it81), .unset]) rfl ?_
              refine Go.aload 84 rfl d10_82 rfl rfl ?_
              refine Go.callF 89 rfl (C := B33) (y := ⟨"java/util/Iterator", "hasNext", "()Z"⟩) it81 [] (rest := []) 109 110 111 247 248 249 250 251 227 252 (c33 Z hw h79 it81 (0 : Int32) (1 : Int32) F87 F86) E84 d10_84 rfl rfl rfl rfl rfl rfl rfl rfl rfl rfl rfl (by decide) pd33 rfl rfl rfl (W := 0) (Nat.le_of_ble_eq_true rfl) (by decide) (by decide) (by decide) (by decide) fun v89 h90 q91 => ?_
              obtain ⟨rfl, rfl⟩ := q91
              refine Go.eqI (w := 1) (if_neg (by decide)) ?_
              refine Go.if_eq 120 92 d10_89 (by decide) rfl rfl (fun (b92 : (1 : Int32) = 0) => ?_) (fun (b92 : ¬ (1 : Int32) = 0) => ?_)
              · exact absurd b92 (by decide)
              · obtain ⟨Ey, dd, q1, q2, Fy, Fe, Fn⟩ := Wex y ho
                refine Go.aload 94 rfl d10_92 rfl rfl ?_
                have F93 : Exa Z h79 ex "java/util/ImmutableCollections$List12" := (E.keep K83)
                have F94 : Fld Z h79 ex "java/util/ImmutableCollections$List12" "e0" "Ljava/lang/Object;" (.ref y) := (F0.keep K83 nin0)
                refine Go.callFW 99 rfl (C := B44) (y := ⟨"java/util/Iterator", "next", "()Ljava/lang/Object;"⟩) it81 [] (rest := []) 253 254 255 256 257 258 259 251 227 260 (c44 Z hw h79 it81 y (1 : Int32) ex z88 E84 F85 F86 F87 F93 F94) E84 d10_94 rfl rfl rfl rfl rfl rfl rfl rfl rfl rfl rfl (by decide) pd44 rfl rfl rfl (W := 0) (Nat.le_of_ble_eq_true rfl) (by decide) (by decide) (by decide) (by decide) fun v95 h96 q97 => ?_
                obtain ⟨rfl, K98, F99, F100⟩ := q97
                have F101 : Exa Z h96 y "com/example/subsumer/subsumer/core/Existential" := ((Ey.keep K83).keep K98)
                refine Go.castY 102 rfl 146 d10_99 rfl (Ins.self F101) ?_
                refine Go.astore 104 rfl d10_102 rfl (Ls' := #[.val (.ref a), .val (.ref lb), .val (.ref ex), .val (.ref un), .val (.ref al), .val (.ref am), .val (.int v6), .val (.int v7), .val (.ref it81), .val (.ref y)]) rfl ?_
                refine Go.iload 106 rfl d10_104 rfl ?_
                refine Go.aload 108 rfl d10_106 rfl rfl ?_
                have ne102 : y ≠ it81 := (show @Ne Nat y it81 from by have := ltN Ey.lt; have := g82; omega)
                have F103 : Fld Z h96 y "com/example/subsumer/subsumer/core/Existential" "filler" "Lcom/example/subsumer/subsumer/core/Description;" (.ref dd) := ((Fy.keep K83 nin0).keep K98 (ninS ne102 nin0))
                refine Go.callV 111 rfl (C := B35) y [] (rest := [.int v7]) 270 271 273 272 148 274 (c35 Z hw h96 y dd F103) F101 d10_108 rfl rfl rfl rfl rfl rfl (by decide) pd35 rfl rfl rfl (W := 1) (Nat.le_of_ble_eq_true rfl) (by decide) (by decide) (by decide) (by decide) fun v104 h105 q106 => ?_
                obtain ⟨rfl, rfl⟩ := q106
                have ne107 : dd ≠ it81 := (show @Ne Nat dd it81 from by have := ltN Fe.lt; have := g82; omega)
                have F108 : Fld Z h96 dd "com/example/subsumer/subsumer/core/Description" "numberInside" "Z" (.int q2) := ((Fn.keep K83 nin0).keep K98 (ninS ne107 nin0))
                refine Go.getF 114 rfl (v := .int q2) 123 d10_111 rfl F108 ?_
                refine Go.ior 115 rfl d10_114 ?_
                refine Go.nameI fun v109 hv109 => ?_
                refine Go.istore 117 rfl d10_115 (Ls' := #[.val (.ref a), .val (.ref lb), .val (.ref ex), .val (.ref un), .val (.ref al), .val (.ref am), .val (.int v6), .val (.int v109), .val (.ref it81), .val (.ref y)]) rfl ?_
                refine Go.goto 82 d10_117 (by decide) (by decide) ?_
                refine Go.aload 84 rfl d10_82 rfl rfl ?_
                have F113 : Exa Z h96 it81 "java/util/ImmutableCollections$ListItr" := (E84.keep K98)
                refine Go.callF 89 rfl (C := B33) (y := ⟨"java/util/Iterator", "hasNext", "()Z"⟩) it81 [] (rest := []) 109 110 111 247 248 249 250 251 227 252 (c33 Z hw h96 it81 (1 : Int32) (1 : Int32) F100 F99) F113 d10_84 rfl rfl rfl rfl rfl rfl rfl rfl rfl rfl rfl (by decide) pd33 rfl rfl rfl (W := 0) (Nat.le_of_ble_eq_true rfl) (by decide) (by decide) (by decide) (by decide) fun v110 h111 q112 => ?_
                obtain ⟨rfl, rfl⟩ := q112
                refine Go.eqI (w := 0) (if_pos rfl) ?_
                refine Go.if_eq 120 92 d10_89 (by decide) rfl rfl (fun (b114 : (0 : Int32) = 0) => ?_) (fun (b114 : ¬ (0 : Int32) = 0) => ?_)
                · exact J1 _ _ _ _ _ (((Keep.refl h25 []).trans K83 all0).trans K98 (allS (Or.inr (by have := K83.1; have := g82; omega)) all0)) (One.val rfl)
                · exact absurd rfl b114
          · have Vun2 : LV Z h'1 el em un oun := Vun.keep KJ1 nin0
            obtain rfl : oun = none := hUn0
            refine Go.aloadN 121 rfl d10_120 rfl rfl ?_
            refine Go.old fun x115 => ?_
            have hlu : un = el := by rcases Vun2 with ⟨_, q⟩ | ⟨y, q, _⟩; (exact q); cases q
            refine Go.callF 126 rfl (C := B30) (y := ⟨"java/util/List", "iterator", "()Ljava/util/Iterator;"⟩) un [] (rest := []) 85 86 87 275 221 222 276 215 177 224 (c30n Z hw h'1 un el ea em top bot lem non hv (hlu ▸ hEel.ext x115) (hlu ▸ hFel.ext x115) (hAea.ext x115)) (hlu ▸ hEel.ext x115) d10_121 rfl rfl rfl rfl rfl rfl rfl rfl rfl rfl rfl (by decide) pd30 rfl rfl rfl (W := 0) (Nat.le_of_ble_eq_true rfl) (by decide) (by decide) (by decide) (by decide) fun v116 h117 q118 => ?_
            obtain ⟨it119, rfl, g120, K121, E122, F123, F124, F125⟩ := q118
            have z126 : Z.heap.size ≤ it119 := Nat.le_trans (Nat.le_trans (Nat.le_trans (Nat.le_trans (Nat.le_trans (Nat.le_trans (Nat.le_trans hle K2.1) K8.1) K14.1) K20.1) K26.1) KJ1.1) g120
            refine Go.astore 128 rfl d10_126 rfl (Ls' := #[.val (.ref a), .val (.ref lb), .val (.ref ex), .val (.ref un), .val (.ref al), .val (.ref am), .val (.int u61), .val (.int u71), .val (.ref it119), s91]) rfl ?_
            refine Go.aload 130 rfl d10_128 rfl rfl ?_
            refine Go.callF 135 rfl (C := B33) (y := ⟨"java/util/Iterator", "hasNext", "()Z"⟩) it119 [] (rest := []) 109 110 111 247 248 249 250 251 227 252 (c33 Z hw h117 it119 (0 : Int32) (0 : Int32) F125 F124) E122 d10_130 rfl rfl rfl rfl rfl rfl rfl rfl rfl rfl rfl (by decide) pd33 rfl rfl rfl (W := 0) (Nat.le_of_ble_eq_true rfl) (by decide) (by decide) (by decide) (by decide) fun v127 h128 q129 => ?_
            obtain ⟨rfl, rfl⟩ := q129
            refine Go.eqI (w := 0) (if_pos rfl) ?_
            refine Go.if_eq 179 138 d10_135 (by decide) rfl rfl (fun (b130 : (0 : Int32) = 0) => ?_) (fun (b130 : ¬ (0 : Int32) = 0) => ?_)
            · refine Go.aloadN 180 rfl d10_179 rfl rfl ?_
              refine Go.iload 182 rfl d10_180 rfl ?_
              have F131 : Fld Z h117 a "com/example/subsumer/subsumer/core/Description" "existentialInside" "Z" (.int (0 : Int32)) := ((F31.keep KJ1 nin0).keep K121 nin0)
              have F132 : Exa Z h117 a "com/example/subsumer/subsumer/core/Description" := (((F24.keep K26).keep KJ1).keep K121)
              refine Go.putF 185 rfl (v' := .int (u61 &&& 1)) (ty := .boolean) 121 122 58 d10_182 rfl F131 F132 (Or.inr ⟨rfl, rfl, rfl⟩) rfl (by decide) rfl (fits_nar_bool u61) hge fun h133 K134 W135 F136 => ?_
              refine Go.aloadN 186 rfl d10_185 rfl rfl ?_
              refine Go.iload 188 rfl d10_186 rfl ?_
              have F137 : Fld Z h133 a "com/example/subsumer/subsumer/core/Description" "numberInside" "Z" (.int (0 : Int32)) := (Fld.oth hw ((F30.keep KJ1 nin0).keep K121 nin0) W135 124 122 (Or.inr rfl) (Or.inr rfl) (by decide) rfl rfl)
              have F138 : Exa Z h133 a "com/example/subsumer/subsumer/core/Description" := (F132.keep K134)
              refine Go.putF 191 rfl (v' := .int (u71 &&& 1)) (ty := .boolean) 123 124 58 d10_188 rfl F137 F138 (Or.inr ⟨rfl, rfl, rfl⟩) rfl (by decide) rfl (fits_nar_bool u71) hge fun h139 K140 W141 F142 => ?_
              have F143 : Fld Z h139 a "com/example/subsumer/subsumer/core/Description" "label" "Lcom/example/subsumer/subsumer/core/Label;" (.ref lb) := (Fld.oth hw (Fld.oth hw (((Fld.oth hw (Fld.oth hw (Fld.oth hw (Fld.oth hw F4 W9 65 67 (Or.inr rfl) (Or.inr rfl) (by decide) rfl rfl) W15 65 69 (Or.inr rfl) (Or.inr rfl) (by decide) rfl rfl) W21 65 71 (Or.inr rfl) (Or.inr rfl) (by decide) rfl rfl) W27 65 73 (Or.inr rfl) (Or.inr rfl) (by decide) rfl rfl).keep KJ1 nin0).keep K121 nin0) W135 65 122 (Or.inr rfl) (Or.inr rfl) (by decide) rfl rfl) W141 65 124 (Or.inr rfl) (Or.inr rfl) (by decide) rfl rfl)
              have F144 : Fld Z h139 a "com/example/subsumer/subsumer/core/Description" "existentials" "Ljava/util/List;" (.ref ex) := (Fld.oth hw (Fld.oth hw (((Fld.oth hw (Fld.oth hw (Fld.oth hw F10 W15 67 69 (Or.inr rfl) (Or.inr rfl) (by decide) rfl rfl) W21 67 71 (Or.inr rfl) (Or.inr rfl) (by decide) rfl rfl) W27 67 73 (Or.inr rfl) (Or.inr rfl) (by decide) rfl rfl).keep KJ1 nin0).keep K121 nin0) W135 67 122 (Or.inr rfl) (Or.inr rfl) (by decide) rfl rfl) W141 67 124 (Or.inr rfl) (Or.inr rfl) (by decide) rfl rfl)
              have F145 : Fld Z h139 a "com/example/subsumer/subsumer/core/Description" "universals" "Ljava/util/List;" (.ref un) := (Fld.oth hw (Fld.oth hw (((Fld.oth hw (Fld.oth hw F16 W21 69 71 (Or.inr rfl) (Or.inr rfl) (by decide) rfl rfl) W27 69 73 (Or.inr rfl) (Or.inr rfl) (by decide) rfl rfl).keep KJ1 nin0).keep K121 nin0) W135 69 122 (Or.inr rfl) (Or.inr rfl) (by decide) rfl rfl) W141 69 124 (Or.inr rfl) (Or.inr rfl) (by decide) rfl rfl)
              have F146 : Fld Z h139 a "com/example/subsumer/subsumer/core/Description" "atLeast" "Ljava/util/List;" (.ref al) := (Fld.oth hw (Fld.oth hw (((Fld.oth hw F22 W27 71 73 (Or.inr rfl) (Or.inr rfl) (by decide) rfl rfl).keep KJ1 nin0).keep K121 nin0) W135 71 122 (Or.inr rfl) (Or.inr rfl) (by decide) rfl rfl) W141 71 124 (Or.inr rfl) (Or.inr rfl) (by decide) rfl rfl)
              have F147 : Fld Z h139 a "com/example/subsumer/subsumer/core/Description" "atMost" "Ljava/util/List;" (.ref am) := (Fld.oth hw (Fld.oth hw ((F28.keep KJ1 nin0).keep K121 nin0) W135 73 122 (Or.inr rfl) (Or.inr rfl) (by decide) rfl rfl) W141 73 124 (Or.inr rfl) (Or.inr rfl) (by decide) rfl rfl)
              have F148 : Fld Z h139 a "com/example/subsumer/subsumer/core/Description" "existentialInside" "Z" (.int (u61 &&& 1)) := (Fld.oth hw F136 W141 122 124 (Or.inr rfl) (Or.inr rfl) (by decide) rfl rfl)
              exact Go.retV d10_191 rfl (by decide) (by decide) ⟨rfl, ((((((((((Keep.refl h0 [a]).trans K2 (by simp)).trans K8 (by simp)).trans K14 (by simp)).trans K20 (by simp)).trans K26 (by simp)).trans KJ1 all0).trans K121 all0).trans K134 (by simp)).trans K140 (by simp)), F143, F144, F145, F146, F147, _, _, F148, F142⟩
            · exact absurd rfl b130
theorem d27_0 : decode prog_3_method_1_code 0 = .ok (.aload_n 0, 1) := by decide +kernel
theorem d27_1 : decode prog_3_method_1_code 1 = .ok (.aload_n 1, 1) := by decide +kernel
theorem d27_2 : decode prog_3_method_1_code 2 = .ok (.aload_n 2, 1) := by decide +kernel
theorem d27_3 : decode prog_3_method_1_code 3 = .ok (.aload_n 3, 1) := by decide +kernel
theorem d27_4 : decode prog_3_method_1_code 4 = .ok (.invokestatic 1, 3) := by decide +kernel
theorem d27_7 : decode prog_3_method_1_code 7 = .ok (.invokestatic 1, 3) := by decide +kernel
theorem d27_10 : decode prog_3_method_1_code 10 = .ok (.invokespecial 7, 3) := by decide +kernel
theorem d27_13 : decode prog_3_method_1_code 13 = .ok (.return_, 1) := by decide +kernel
theorem pd27 : parseMethodDescriptor "(Lcom/example/subsumer/subsumer/core/Label;Ljava/util/List;Ljava/util/List;)V" = some ⟨[(.object "com/example/subsumer/subsumer/core/Label"), (.object "java/util/List"), (.object "java/util/List")], none⟩ := by decide +kernel
theorem pn27 : plainFor (⟨"com/example/subsumer/subsumer/core/Description", "<init>", "(Lcom/example/subsumer/subsumer/core/Label;Ljava/util/List;Ljava/util/List;)V"⟩ : MethodName) = true := by first | (refine plainFor_of_name ?_; simp [plainName, overriddenIn]; done) | (refine plainFor_of_name ?_; decide +kernel) | decide +kernel
abbrev B27 : Bd := ((⟨"com/example/subsumer/subsumer/core/Description", "<init>", "(Lcom/example/subsumer/subsumer/core/Label;Ljava/util/List;Ljava/util/List;)V"⟩ : MethodName), prog_3_method_1_code, 4, none, ({ frames := 4, cells := 2, slots := 8, locals := 60 } : Room), tables_1)
theorem ef27 (mid : MethodId) (a : Addr) (lb : Addr) (ex : Addr) (un : Addr) : entryFrame mid (List.toArray [.ref a, .ref lb, .ref ex, .ref un]) 4 = mkF mid 0 #[.val (.ref a), .val (.ref lb), .val (.ref ex), .val (.ref un)] [] := by first | (simp [entryFrame, mkF, argsToLocals, Value.category]; done) | rfl
def Q27 (Z : State) (a : Addr) (lb : Addr) (ex : Addr) (un : Addr) (el : Addr) (h0 : Heap) (v : Option Value) (h : Heap) : Prop := v = none ∧ Keep h0 h [a] ∧ Fld Z h a "com/example/subsumer/subsumer/core/Description" "label" "Lcom/example/subsumer/subsumer/core/Label;" (.ref lb) ∧ Fld Z h a "com/example/subsumer/subsumer/core/Description" "existentials" "Ljava/util/List;" (.ref ex) ∧ Fld Z h a "com/example/subsumer/subsumer/core/Description" "universals" "Ljava/util/List;" (.ref un) ∧ Fld Z h a "com/example/subsumer/subsumer/core/Description" "atLeast" "Ljava/util/List;" (.ref el) ∧ Fld Z h a "com/example/subsumer/subsumer/core/Description" "atMost" "Ljava/util/List;" (.ref el) ∧ ∃ q1 q2 : Int32, Fld Z h a "com/example/subsumer/subsumer/core/Description" "existentialInside" "Z" (.int q1) ∧ Fld Z h a "com/example/subsumer/subsumer/core/Description" "numberInside" "Z" (.int q2)
set_option maxRecDepth 65536 in
set_option maxHeartbeats 40000000 in
theorem c27 (Z : State) (hw : Wd Z tables_1) (h0 : Heap) (a : Addr) (lb : Addr) (ex : Addr) (un : Addr) (el : Addr) (ea : Addr) (em : Addr) (top : Addr) (bot : Addr) (lem : Addr) (non : Addr) (hv : Ev0 Z el ea em top bot lem non) (hge : Z.heap.size ≤ a) (hE : Exa Z h0 a "com/example/subsumer/subsumer/core/Description") (hF_label : Fld Z h0 a "com/example/subsumer/subsumer/core/Description" "label" "Lcom/example/subsumer/subsumer/core/Label;" (.null)) (hF_existentials : Fld Z h0 a "com/example/subsumer/subsumer/core/Description" "existentials" "Ljava/util/List;" (.null)) (hF_universals : Fld Z h0 a "com/example/subsumer/subsumer/core/Description" "universals" "Ljava/util/List;" (.null)) (hF_atLeast : Fld Z h0 a "com/example/subsumer/subsumer/core/Description" "atLeast" "Ljava/util/List;" (.null)) (hF_atMost : Fld Z h0 a "com/example/subsumer/subsumer/core/Description" "atMost" "Ljava/util/List;" (.null)) (hF_existentialInside : Fld Z h0 a "com/example/subsumer/subsumer/core/Description" "existentialInside" "Z" (.int (0 : Int32))) (hF_numberInside : Fld Z h0 a "com/example/subsumer/subsumer/core/Description" "numberInside" "Z" (.int (0 : Int32))) (oex : Option Addr) (hEx : LV Z h0 el em ex oex) (oun : Option Addr) (hUn : LV Z h0 el em un oun) (hEx' : ∀ x, oex = some x → EV Z h0 "com/example/subsumer/subsumer/core/Existential" x) (hUn0 : oun = none) : Con Z B27 (List.toArray [.ref a, .ref lb, .ref ex, .ref un]) h0 (Q27 Z a lb ex un el h0) := by
  refine Con.mk hw pn27 (fun mid => ef27 mid a lb ex un) (Go.old fun hle' => ?_)
  have hle := hle'.1
  obtain ⟨hSel, hSem, hStop, hSbot, hSlem, hSnon, hEel, hFel, hAea, hEtop, hTl, hTe, hTu, hTa, hTm, hEbot, hnbt, hElem, hLn, hLg, hAnon⟩ := id hv
  refine Go.aloadN 1 rfl d27_0 rfl rfl ?_
  refine Go.aloadN 2 rfl d27_1 rfl rfl ?_
  refine Go.aloadN 3 rfl d27_2 rfl rfl ?_
  refine Go.aloadN 4 rfl d27_3 rfl rfl ?_
  refine Go.callS 7 rfl (C := B26) [] (rest := [.ref un, .ref ex, .ref lb, .ref a]) 197 198 164 199 (c26 Z hw h0 el ea em top bot lem non hv) d27_4 rfl rfl rfl rfl (by decide) pd26 rfl rfl rfl (W := 4) (Nat.le_of_ble_eq_true rfl) (by decide) (by decide) (by decide) (by decide) fun v1 h2 q3 => ?_
  obtain ⟨rfl, rfl⟩ := q3
  refine Go.callS 10 rfl (C := B26) [] (rest := [.ref el, .ref un, .ref ex, .ref lb, .ref a]) 197 198 164 199 (c26 Z hw h0 el ea em top bot lem non hv) d27_7 rfl rfl rfl rfl (by decide) pd26 rfl rfl rfl (W := 5) (Nat.le_of_ble_eq_true rfl) (by decide) (by decide) (by decide) (by decide) fun v4 h5 q6 => ?_
  obtain ⟨rfl, rfl⟩ := q6
  refine Go.callI 13 rfl (C := B10) a [.ref lb, .ref ex, .ref un, .ref el, .ref el] (rest := []) 204 61 59 62 (c10 Z hw h0 a lb ex un el el el ea em top bot lem non hv hge hE hF_label hF_existentials hF_universals hF_atLeast hF_atMost hF_existentialInside hF_numberInside oex hEx oun hUn none (Or.inl ⟨rfl, rfl⟩) none (Or.inl ⟨rfl, rfl⟩) hEx' hUn0) d27_10 rfl rfl rfl rfl rfl rfl (by decide) pd10 rfl rfl rfl (W := 0) (Nat.le_of_ble_eq_true rfl) (by decide) (by decide) (by decide) (by decide) fun v7 h8 q9 => ?_
  obtain ⟨rfl, K10, F11, F12, F13, F14, F15, q18, q19, F16, F17⟩ := q9
  exact Go.retV d27_13 rfl (by decide) (by decide) ⟨rfl, K10, F11, F12, F13, F14, F15, _, _, F16, F17⟩
theorem d15_0 : decode prog_3_method_21_code 0 = .ok (.aload_n 0, 1) := by decide +kernel
theorem d15_1 : decode prog_3_method_21_code 1 = .ok (.getstatic 72, 3) := by decide +kernel
theorem d15_4 : decode prog_3_method_21_code 4 = .ok (.if_acmp .ne 7, 3) := by decide +kernel
theorem d15_7 : decode prog_3_method_21_code 7 = .ok (.iconst 1, 1) := by decide +kernel
theorem d15_8 : decode prog_3_method_21_code 8 = .ok (.goto 4, 3) := by decide +kernel
theorem d15_11 : decode prog_3_method_21_code 11 = .ok (.iconst 0, 1) := by decide +kernel
theorem d15_12 : decode prog_3_method_21_code 12 = .ok (.ireturn, 1) := by decide +kernel
theorem pd15 : parseMethodDescriptor "()Z" = some ⟨[], some .boolean⟩ := by decide +kernel
theorem pn15 : plainFor (⟨"com/example/subsumer/subsumer/core/Description", "isBottom", "()Z"⟩ : MethodName) = true := by first | (refine plainFor_of_name ?_; simp [plainName, overriddenIn]; done) | (refine plainFor_of_name ?_; decide +kernel) | decide +kernel
abbrev B15 : Bd := ((⟨"com/example/subsumer/subsumer/core/Description", "isBottom", "()Z"⟩ : MethodName), prog_3_method_21_code, 1, (some .boolean), ({ frames := 0, cells := 0, slots := 0, locals := 0 } : Room), tables_1)
theorem ef15 (mid : MethodId) (a : Addr) : entryFrame mid (List.toArray [.ref a]) 1 = mkF mid 0 #[.val (.ref a)] [] := by first | (simp [entryFrame, mkF, argsToLocals, Value.category]; done) | rfl
def Q15 (a : Addr) (bot : Addr) (h0 : Heap) (v : Option Value) (h : Heap) : Prop := v = some (.int (if a = bot then 1 else 0)) ∧ h0 = h
set_option maxRecDepth 65536 in
set_option maxHeartbeats 40000000 in
theorem c15 (Z : State) (hw : Wd Z tables_1) (h0 : Heap) (a : Addr) (bot : Addr) (el : Addr) (ea : Addr) (em : Addr) (top : Addr) (lem : Addr) (non : Addr) (hv : Ev0 Z el ea em top bot lem non) : Con Z B15 (List.toArray [.ref a]) h0 (Q15 a bot h0) := by
  refine Con.mk hw pn15 (fun mid => ef15 mid a) (Go.old fun hle' => ?_)
  have hle := hle'.1
  obtain ⟨hSel, hSem, hStop, hSbot, hSlem, hSnon, hEel, hFel, hAea, hEtop, hTl, hTe, hTu, hTa, hTm, hEbot, hnbt, hElem, hLn, hLg, hAnon⟩ := id hv
  refine Go.aloadN 1 rfl d15_0 rfl rfl ?_
  refine Go.getS 4 rfl (v := .ref bot) 130 d15_1 rfl hSbot ?_
  refine Go.acmp_ne 11 7 d15_4 (by decide) rfl rfl rfl rfl (fun (b1 : ¬ (.ref a : Value) = .ref bot) => ?_) (fun (b1 : (.ref a : Value) = .ref bot) => ?_)
  · refine Go.iconst 12 rfl (0 : Int32) d15_11 rfl ?_
    exact Go.retN (t := .boolean) (z' := (0 : Int32)) d15_12 rfl (by decide) rfl (by decide) (by decide) ⟨by rw [if_neg (fun q => b1 (congrArg Value.ref q))], rfl⟩
  · refine Go.iconst 8 rfl (1 : Int32) d15_7 rfl ?_
    refine Go.goto 12 d15_8 (by decide) (by decide) ?_
    exact Go.retN (t := .boolean) (z' := (1 : Int32)) d15_12 rfl (by decide) rfl (by decide) (by decide) ⟨by rw [if_pos (Value.ref.inj b1)], rfl⟩
theorem d18_0 : decode prog_3_method_7_code 0 = .ok (.aload_n 1, 1) := by decide +kernel
theorem d18_1 : decode prog_3_method_7_code 1 = .ok (.invokevirtual 89, 3) := by decide +kernel
theorem d18_4 : decode prog_3_method_7_code 4 = .ok (.ifCond .eq 9, 3) := by decide +kernel
theorem d18_7 : decode prog_3_method_7_code 7 = .ok (.getstatic 72, 3) := by decide +kernel
theorem d18_10 : decode prog_3_method_7_code 10 = .ok (.goto 28, 3) := by decide +kernel
theorem d18_13 : decode prog_3_method_7_code 13 = .ok (.new 8, 3) := by decide +kernel
theorem d18_16 : decode prog_3_method_7_code 16 = .ok (.dup, 1) := by decide +kernel
theorem d18_17 : decode prog_3_method_7_code 17 = .ok (.getstatic 92, 3) := by decide +kernel
theorem d18_20 : decode prog_3_method_7_code 20 = .ok (.new 52, 3) := by decide +kernel
theorem d18_23 : decode prog_3_method_7_code 23 = .ok (.dup, 1) := by decide +kernel
theorem d18_24 : decode prog_3_method_7_code 24 = .ok (.aload_n 0, 1) := by decide +kernel
theorem d18_25 : decode prog_3_method_7_code 25 = .ok (.aload_n 1, 1) := by decide +kernel
theorem d18_26 : decode prog_3_method_7_code 26 = .ok (.invokespecial 95, 3) := by decide +kernel
theorem d18_29 : decode prog_3_method_7_code 29 = .ok (.invokestatic 98, 3) := by decide +kernel
theorem d18_32 : decode prog_3_method_7_code 32 = .ok (.invokestatic 1, 3) := by decide +kernel
theorem d18_35 : decode prog_3_method_7_code 35 = .ok (.invokespecial 86, 3) := by decide +kernel
theorem d18_38 : decode prog_3_method_7_code 38 = .ok (.areturn, 1) := by decide +kernel
theorem pd18 : parseMethodDescriptor "(Ljava/lang/String;Lcom/example/subsumer/subsumer/core/Description;)Lcom/example/subsumer/subsumer/core/Description;" = some ⟨[(.object "java/lang/String"), (.object "com/example/subsumer/subsumer/core/Description")], some (.object "com/example/subsumer/subsumer/core/Description")⟩ := by decide +kernel
theorem pn18 : plainFor (⟨"com/example/subsumer/subsumer/core/Description", "some", "(Ljava/lang/String;Lcom/example/subsumer/subsumer/core/Description;)Lcom/example/subsumer/subsumer/core/Description;"⟩ : MethodName) = true := by first | (refine plainFor_of_name ?_; simp [plainName, overriddenIn]; done) | (refine plainFor_of_name ?_; decide +kernel) | decide +kernel
abbrev B18 : Bd := ((⟨"com/example/subsumer/subsumer/core/Description", "some", "(Ljava/lang/String;Lcom/example/subsumer/subsumer/core/Description;)Lcom/example/subsumer/subsumer/core/Description;"⟩ : MethodName), prog_3_method_7_code, 2, (some (.object "com/example/subsumer/subsumer/core/Description")), ({ frames := 6, cells := 5, slots := 19, locals := 77 } : Room), tables_1)
theorem ef18 (mid : MethodId) (p : Addr) (f : Addr) : entryFrame mid (List.toArray [.ref p, .ref f]) 2 = mkF mid 0 #[.val (.ref p), .val (.ref f)] [] := by first | (simp [entryFrame, mkF, argsToLocals, Value.category]; done) | rfl
def Q18 (Z : State) (el : Addr) (em : Addr) (f : Addr) (h0 : Heap) (v : Option Value) (h : Heap) : Prop := ∃ d l x, v = some (.ref d) ∧ h0.size ≤ d ∧ Keep h0 h [] ∧ Exa Z h d "com/example/subsumer/subsumer/core/Description" ∧ Fld Z h d "com/example/subsumer/subsumer/core/Description" "existentials" "Ljava/util/List;" (.ref l) ∧ LV Z h el em l (some x) ∧ Exa Z h x "com/example/subsumer/subsumer/core/Existential" ∧ Fld Z h x "com/example/subsumer/subsumer/core/Existential" "filler" "Lcom/example/subsumer/subsumer/core/Description;" (.ref f)
set_option maxRecDepth 65536 in
set_option maxHeartbeats 40000000 in
theorem c18 (Z : State) (hw : Wd Z tables_1) (h0 : Heap) (p : Addr) (f : Addr) (el : Addr) (em : Addr) (ea : Addr) (top : Addr) (bot : Addr) (lem : Addr) (non : Addr) (hv : Ev0 Z el ea em top bot lem non) (q1 : Int32) (q2 : Int32) (hEf : Exa Z h0 f "com/example/subsumer/subsumer/core/Description") (hnf : ¬ f = bot) (hFe : Fld Z h0 f "com/example/subsumer/subsumer/core/Description" "existentialInside" "Z" (.int q1)) (hFn : Fld Z h0 f "com/example/subsumer/subsumer/core/Description" "numberInside" "Z" (.int q2)) : Con Z B18 (List.toArray [.ref p, .ref f]) h0 (Q18 Z el em f h0) := by
  refine Con.mk hw pn18 (fun mid => ef18 mid p f) (Go.old fun hle' => ?_)
  have hle := hle'.1
  obtain ⟨hSel, hSem, hStop, hSbot, hSlem, hSnon, hEel, hFel, hAea, hEtop, hTl, hTe, hTu, hTa, hTm, hEbot, hnbt, hElem, hLn, hLg, hAnon⟩ := id hv
  refine Go.aloadN 1 rfl d18_0 rfl rfl ?_
  refine Go.callV 4 rfl (C := B15) f [] (rest := []) 143 126 128 127 59 129 (c15 Z hw h0 f bot el ea em top lem non hv) hEf d18_1 rfl rfl rfl rfl rfl rfl (by decide) pd15 rfl rfl rfl (W := 0) (Nat.le_of_ble_eq_true rfl) (by decide) (by decide) (by decide) (by decide) fun v1 h2 q3 => ?_
  obtain ⟨rfl, rfl⟩ := q3
  refine Go.eqI (w := 0) (if_neg hnf) ?_
  refine Go.if_eq 13 7 d18_4 (by decide) rfl rfl (fun (b4 : (0 : Int32) = 0) => ?_) (fun (b4 : ¬ (0 : Int32) = 0) => ?_)
  · refine Go.newO 16 rfl 144 58 59 d18_13 rfl rfl rfl (by decide) (by decide) fun h6 a5 g7 z8 K9 E10 D11 => ?_
    refine Go.dup 17 rfl d18_16 rfl ?_
    refine Go.getS 20 rfl (v := .ref lem) 145 d18_17 rfl hSlem ?_
    refine Go.newO 23 rfl 146 147 148 d18_20 rfl rfl rfl (by decide) (by decide) fun h13 a12 g14 z15 K16 E17 D18 => ?_
    refine Go.dup 24 rfl d18_23 rfl ?_
    refine Go.aloadN 25 rfl d18_24 rfl rfl ?_
    refine Go.aloadN 26 rfl d18_25 rfl rfl ?_
    refine Go.callI 29 rfl (C := B19) a12 [.ref p, .ref f] (rest := [.ref a12, .ref lem, .ref a5, .ref a5]) 149 150 148 151 (c19 Z hw h13 a12 p f z15 E17 (D18 159 (Or.inr rfl) (ty := (.object "java/lang/String")) (by decide) : Fld Z h13 a12 "com/example/subsumer/subsumer/core/Existential" "property" "Ljava/lang/String;" (.null)) (D18 161 (Or.inr rfl) (ty := (.object "com/example/subsumer/subsumer/core/Description")) (by decide) : Fld Z h13 a12 "com/example/subsumer/subsumer/core/Existential" "filler" "Lcom/example/subsumer/subsumer/core/Description;" (.null))) d18_26 rfl rfl rfl rfl rfl rfl (by decide) pd19 rfl rfl rfl (W := 4) (Nat.le_of_ble_eq_true rfl) (by decide) (by decide) (by decide) (by decide) fun v19 h20 q21 => ?_
    obtain ⟨rfl, K22, F23, F24⟩ := q21
    refine Go.callS 32 rfl (C := B21) [.ref a12] (rest := [.ref lem, .ref a5, .ref a5]) 162 163 164 165 (c21 Z hw h20 a12 el em ea top bot lem non hv) d18_29 rfl rfl rfl rfl (by decide) pd21 rfl rfl rfl (W := 3) (Nat.le_of_ble_eq_true rfl) (by decide) (by decide) (by decide) (by decide) fun v25 h26 q27 => ?_
    obtain ⟨l28, rfl, g29, K30, V31⟩ := q27
    have z32 : Z.heap.size ≤ l28 := Nat.le_trans (Nat.le_trans (Nat.le_trans (Nat.le_trans hle K9.1) K16.1) K22.1) g29
    refine Go.callS 35 rfl (C := B26) [] (rest := [.ref l28, .ref lem, .ref a5, .ref a5]) 197 198 164 199 (c26 Z hw h26 el ea em top bot lem non hv) d18_32 rfl rfl rfl rfl (by decide) pd26 rfl rfl rfl (W := 4) (Nat.le_of_ble_eq_true rfl) (by decide) (by decide) (by decide) (by decide) fun v33 h34 q35 => ?_
    obtain ⟨rfl, rfl⟩ := q35
    have F37 : Exa Z h26 a12 "com/example/subsumer/subsumer/core/Existential" := ((E17.keep K22).keep K30)
    have F38 : Fld Z h26 a12 "com/example/subsumer/subsumer/core/Existential" "filler" "Lcom/example/subsumer/subsumer/core/Description;" (.ref f) := (F24.keep K30 nin0)
    have ne39 : f ≠ a12 := (show @Ne Nat f a12 from by have := ltN hFe.lt; have := K9.1; have := g14; omega)
    have F40 : Fld Z h26 f "com/example/subsumer/subsumer/core/Description" "existentialInside" "Z" (.int q1) := ((((hFe.keep K9 nin0).keep K16 nin0).keep K22 (ninS ne39 nin0)).keep K30 nin0)
    have F41 : Fld Z h26 f "com/example/subsumer/subsumer/core/Description" "numberInside" "Z" (.int q2) := ((((hFn.keep K9 nin0).keep K16 nin0).keep K22 (ninS ne39 nin0)).keep K30 nin0)
    have W36 : EV Z h26 "com/example/subsumer/subsumer/core/Existential" a12 := ⟨F37, f, q1, q2, F38, F40, F41⟩
    have F42 : Exa Z h26 a5 "com/example/subsumer/subsumer/core/Description" := (((E10.keep K16).keep K22).keep K30)
    have ne43 : a5 ≠ a12 := (show @Ne Nat a5 a12 from by have := ltN E10.lt; have := g14; omega)
    have F44 : Fld Z h26 a5 "com/example/subsumer/subsumer/core/Description" "label" "Lcom/example/subsumer/subsumer/core/Label;" (.null) := ((((D11 65 (Or.inr rfl) (ty := (.object "com/example/subsumer/subsumer/core/Label")) (by decide) : Fld Z h6 a5 "com/example/subsumer/subsumer/core/Description" "label" "Lcom/example/subsumer/subsumer/core/Label;" (.null)).keep K16 nin0).keep K22 (ninS ne43 nin0)).keep K30 nin0)
    have F45 : Fld Z h26 a5 "com/example/subsumer/subsumer/core/Description" "existentials" "Ljava/util/List;" (.null) := ((((D11 67 (Or.inr rfl) (ty := (.object "java/util/List")) (by decide) : Fld Z h6 a5 "com/example/subsumer/subsumer/core/Description" "existentials" "Ljava/util/List;" (.null)).keep K16 nin0).keep K22 (ninS ne43 nin0)).keep K30 nin0)
    have F46 : Fld Z h26 a5 "com/example/subsumer/subsumer/core/Description" "universals" "Ljava/util/List;" (.null) := ((((D11 69 (Or.inr rfl) (ty := (.object "java/util/List")) (by decide) : Fld Z h6 a5 "com/example/subsumer/subsumer/core/Description" "universals" "Ljava/util/List;" (.null)).keep K16 nin0).keep K22 (ninS ne43 nin0)).keep K30 nin0)
    have F47 : Fld Z h26 a5 "com/example/subsumer/subsumer/core/Description" "atLeast" "Ljava/util/List;" (.null) := ((((D11 71 (Or.inr rfl) (ty := (.object "java/util/List")) (by decide) : Fld Z h6 a5 "com/example/subsumer/subsumer/core/Description" "atLeast" "Ljava/util/List;" (.null)).keep K16 nin0).keep K22 (ninS ne43 nin0)).keep K30 nin0)
    have F48 : Fld Z h26 a5 "com/example/subsumer/subsumer/core/Description" "atMost" "Ljava/util/List;" (.null) := ((((D11 73 (Or.inr rfl) (ty := (.object "java/util/List")) (by decide) : Fld Z h6 a5 "com/example/subsumer/subsumer/core/Description" "atMost" "Ljava/util/List;" (.null)).keep K16 nin0).keep K22 (ninS ne43 nin0)).keep K30 nin0)
    have F49 : Fld Z h26 a5 "com/example/subsumer/subsumer/core/Description" "existentialInside" "Z" (.int (0 : Int32)) := ((((D11 122 (Or.inr rfl) (ty := .boolean) (by decide) : Fld Z h6 a5 "com/example/subsumer/subsumer/core/Description" "existentialInside" "Z" (.int (0 : Int32))).keep K16 nin0).keep K22 (ninS ne43 nin0)).keep K30 nin0)
    have F50 : Fld Z h26 a5 "com/example/subsumer/subsumer/core/Description" "numberInside" "Z" (.int (0 : Int32)) := ((((D11 124 (Or.inr rfl) (ty := .boolean) (by decide) : Fld Z h6 a5 "com/example/subsumer/subsumer/core/Description" "numberInside" "Z" (.int (0 : Int32))).keep K16 nin0).keep K22 (ninS ne43 nin0)).keep K30 nin0)
    refine Go.callI 38 rfl (C := B27) a5 [.ref lem, .ref l28, .ref el] (rest := [.ref a5]) 201 202 59 203 (c27 Z hw h26 a5 lem l28 el el ea em top bot lem non hv z8 F42 F44 F45 F46 F47 F48 F49 F50 (some a12) V31 none (Or.inl ⟨rfl, rfl⟩) (fun _ q => Option.some.inj q ▸ W36) rfl) d18_35 rfl rfl rfl rfl rfl rfl (by decide) pd27 rfl rfl rfl (W := 1) (Nat.le_of_ble_eq_true rfl) (by decide) (by decide) (by decide) (by decide) fun v51 h52 q53 => ?_
    obtain ⟨rfl, K54, F55, F56, F57, F58, F59, q62, q63, F60, F61⟩ := q53
    have ne64 : l28 ≠ a5 := (show @Ne Nat l28 a5 from by have := ltN E10.lt; have := K16.1; have := K22.1; have := g29; omega)
    have F65 : Exa Z h52 a5 "com/example/subsumer/subsumer/core/Description" := (F42.keep K54)
    have F66 : Exa Z h52 a12 "com/example/subsumer/subsumer/core/Existential" := (F37.keep K54)
    have F67 : Fld Z h52 a12 "com/example/subsumer/subsumer/core/Existential" "filler" "Lcom/example/subsumer/subsumer/core/Description;" (.ref f) := (F38.keep K54 (ninS (Ne.symm ne43) nin0))
    exact Go.retA d18_38 rfl rfl rfl (by decide) (by decide) ⟨a5, l28, a12, rfl, Nat.le_of_eq g7.symm, ((((((Keep.refl h0 []).trans K9 all0).trans K16 all0).trans K22 (allS (Or.inr (by have := K9.1; have := K16.1; have := g14; omega)) all0)).trans K30 all0).trans K54 (allS (Or.inr (by have := K9.1; have := K16.1; have := K22.1; have := K30.1; have := g7; omega)) all0)), F65, F56, V31.keep K54 (ninS ne64 nin0), F66, F67⟩
  · exact absurd rfl b4
theorem d8_0 : decode jdk_39_method_1_code 0 = .ok (.aload_n 0, 1) := by decide +kernel
theorem d8_1 : decode jdk_39_method_1_code 1 = .ok (.invokespecial 1, 3) := by decide +kernel
theorem d8_4 : decode jdk_39_method_1_code 4 = .ok (.aload_n 0, 1) := by decide +kernel
theorem d8_5 : decode jdk_39_method_1_code 5 = .ok (.iconst 0, 1) := by decide +kernel
theorem d8_6 : decode jdk_39_method_1_code 6 = .ok (.putfield 7, 3) := by decide +kernel
theorem d8_9 : decode jdk_39_method_1_code 9 = .ok (.return_, 1) := by decide +kernel
theorem pd8 : parseMethodDescriptor "()V" = some ⟨[], none⟩ := by decide +kernel
theorem pn8 : plainFor (⟨"java/util/AbstractList", "<init>", "()V"⟩ : MethodName) = true := by first | (refine plainFor_of_name ?_; simp [plainName, overriddenIn]; done) | (refine plainFor_of_name ?_; decide +kernel) | decide +kernel
abbrev B8 : Bd := ((⟨"java/util/AbstractList", "<init>", "()V"⟩ : MethodName), jdk_39_method_1_code, 1, none, ({ frames := 2, cells := 0, slots := 0, locals := 24 } : Room), tables_1)
theorem ef8 (mid : MethodId) (a : Addr) : entryFrame mid (List.toArray [.ref a]) 1 = mkF mid 0 #[.val (.ref a)] [] := by first | (simp [entryFrame, mkF, argsToLocals, Value.category]; done) | rfl
def Q8 (Z : State) (a : Addr) (h0 : Heap) (v : Option Value) (h : Heap) : Prop := v = none ∧ Keep h0 h [a] ∧ Fld Z h a "java/util/AbstractList" "modCount" "I" (.int (0 : Int32)) ∧ Fld Z h a "java/util/ArrayList" "elementData" "[Ljava/lang/Object;" (.null) ∧ Fld Z h a "java/util/ArrayList" "size" "I" (.int (0 : Int32))
set_option maxRecDepth 65536 in
set_option maxHeartbeats 40000000 in
theorem c8 (Z : State) (hw : Wd Z tables_1) (h0 : Heap) (a : Addr)  (hge : Z.heap.size ≤ a) (hE : Exa Z h0 a "java/util/ArrayList") (hM : Fld Z h0 a "java/util/AbstractList" "modCount" "I" (.int (0 : Int32))) (hD : Fld Z h0 a "java/util/ArrayList" "elementData" "[Ljava/lang/Object;" (.null)) (hZ : Fld Z h0 a "java/util/ArrayList" "size" "I" (.int (0 : Int32))) : Con Z B8 (List.toArray [.ref a]) h0 (Q8 Z a h0) := by
  refine Con.mk hw pn8 (fun mid => ef8 mid a) (Go.old fun hle' => ?_)
  have hle := hle'.1
  refine Go.aloadN 1 rfl d8_0 rfl rfl ?_
  refine Go.callI 4 rfl (C := B9) a [] (rest := []) 45 46 49 50 (c9 Z hw h0 a) d8_1 rfl rfl rfl rfl rfl rfl (by decide) pd9 rfl rfl rfl (W := 0) (Nat.le_of_ble_eq_true rfl) (by decide) (by decide) (by decide) (by decide) fun v1 h2 q3 => ?_
  obtain ⟨rfl, rfl⟩ := q3
  refine Go.aloadN 5 rfl d8_4 rfl rfl ?_
  refine Go.iconst 6 rfl (0 : Int32) d8_5 rfl ?_
  refine Go.putF 9 rfl (v' := .int (0 : Int32)) (ty := .int) 52 53 34 d8_6 rfl hM hE (Or.inl rfl) rfl (by decide) rfl rfl hge fun h4 K5 W6 F7 => ?_
  have F8 : Fld Z h4 a "java/util/ArrayList" "elementData" "[Ljava/lang/Object;" (.null) := (Fld.oth hw hD W6 56 53 (Or.inl rfl) (Or.inl rfl) (by decide) rfl rfl)
  have F9 : Fld Z h4 a "java/util/ArrayList" "size" "I" (.int (0 : Int32)) := (Fld.oth hw hZ W6 84 53 (Or.inl rfl) (Or.inl rfl) (by decide) rfl rfl)
  exact Go.retV d8_9 rfl (by decide) (by decide) ⟨rfl, ((Keep.refl h0 [a]).trans K5 (by simp)), F7, F8, F9⟩
theorem d7_0 : decode jdk_38_method_2_code 0 = .ok (.aload_n 0, 1) := by decide +kernel
theorem d7_1 : decode jdk_38_method_2_code 1 = .ok (.invokespecial 1, 3) := by decide +kernel
theorem d7_4 : decode jdk_38_method_2_code 4 = .ok (.aload_n 0, 1) := by decide +kernel
theorem d7_5 : decode jdk_38_method_2_code 5 = .ok (.getstatic 39, 3) := by decide +kernel
theorem d7_8 : decode jdk_38_method_2_code 8 = .ok (.putfield 9, 3) := by decide +kernel
theorem d7_11 : decode jdk_38_method_2_code 11 = .ok (.return_, 1) := by decide +kernel
theorem pd7 : parseMethodDescriptor "()V" = some ⟨[], none⟩ := by decide +kernel
theorem pn7 : plainFor (⟨"java/util/ArrayList", "<init>", "()V"⟩ : MethodName) = true := by first | (refine plainFor_of_name ?_; simp [plainName, overriddenIn]; done) | (refine plainFor_of_name ?_; decide +kernel) | decide +kernel
abbrev B7 : Bd := ((⟨"java/util/ArrayList", "<init>", "()V"⟩ : MethodName), jdk_38_method_2_code, 1, none, ({ frames := 3, cells := 0, slots := 0, locals := 36 } : Room), tables_1)
theorem ef7 (mid : MethodId) (a : Addr) : entryFrame mid (List.toArray [.ref a]) 1 = mkF mid 0 #[.val (.ref a)] [] := by first | (simp [entryFrame, mkF, argsToLocals, Value.category]; done) | rfl
def Q7 (Z : State) (a : Addr) (da : Addr) (h0 : Heap) (v : Option Value) (h : Heap) : Prop := v = none ∧ Keep h0 h [a] ∧ Fld Z h a "java/util/AbstractList" "modCount" "I" (.int (0 : Int32)) ∧ Fld Z h a "java/util/ArrayList" "elementData" "[Ljava/lang/Object;" (.ref da) ∧ Fld Z h a "java/util/ArrayList" "size" "I" (.int (0 : Int32))
set_option maxRecDepth 65536 in
set_option maxHeartbeats 40000000 in
theorem c7 (Z : State) (hw : Wd Z tables_1) (h0 : Heap) (a : Addr) (da : Addr) (hSda : Sta Z Z.heap "java/util/ArrayList" "DEFAULTCAPACITY_EMPTY_ELEMENTDATA" "[Ljava/lang/Object;" (.ref da)) (hAda : Ary Z Z.heap da (.object "java/lang/Object") []) (hge : Z.heap.size ≤ a) (hE : Exa Z h0 a "java/util/ArrayList") (hM : Fld Z h0 a "java/util/AbstractList" "modCount" "I" (.int (0 : Int32))) (hD : Fld Z h0 a "java/util/ArrayList" "elementData" "[Ljava/lang/Object;" (.null)) (hZ : Fld Z h0 a "java/util/ArrayList" "size" "I" (.int (0 : Int32))) : Con Z B7 (List.toArray [.ref a]) h0 (Q7 Z a da h0) := by
  refine Con.mk hw pn7 (fun mid => ef7 mid a) (Go.old fun hle' => ?_)
  have hle := hle'.1
  refine Go.aloadN 1 rfl d7_0 rfl rfl ?_
  refine Go.callI 4 rfl (C := B8) a [] (rest := []) 39 40 43 44 (c8 Z hw h0 a hge hE hM hD hZ) d7_1 rfl rfl rfl rfl rfl rfl (by decide) pd8 rfl rfl rfl (W := 0) (Nat.le_of_ble_eq_true rfl) (by decide) (by decide) (by decide) (by decide) fun v1 h2 q3 => ?_
  obtain ⟨rfl, K4, F5, F6, F7⟩ := q3
  refine Go.aloadN 5 rfl d7_4 rfl rfl ?_
  refine Go.getS 8 rfl (v := .ref da) 54 d7_5 rfl hSda ?_
  have F8 : Exa Z h2 a "java/util/ArrayList" := (hE.keep K4)
  refine Go.putF 11 rfl (v' := .ref da) (ty := (.array (.object "java/lang/Object"))) 55 56 34 d7_8 rfl F6 F8 (Or.inl rfl) rfl (by decide) rfl rfl hge fun h9 K10 W11 F12 => ?_
  have F13 : Fld Z h9 a "java/util/AbstractList" "modCount" "I" (.int (0 : Int32)) := (Fld.oth hw F5 W11 53 56 (Or.inl rfl) (Or.inl rfl) (by decide) rfl rfl)
  have F14 : Fld Z h9 a "java/util/ArrayList" "size" "I" (.int (0 : Int32)) := (Fld.oth hw F7 W11 84 56 (Or.inl rfl) (Or.inl rfl) (by decide) rfl rfl)
  exact Go.retV d7_11 rfl (by decide) (by decide) ⟨rfl, (((Keep.refl h0 [a]).trans K4 (by simp)).trans K10 (by simp)), F13, F12, F14⟩
theorem d11_0 : decode jdk_38_method_9_code 0 = .ok (.aload_n 0, 1) := by decide +kernel
theorem d11_1 : decode jdk_38_method_9_code 1 = .ok (.getfield 48, 3) := by decide +kernel
theorem d11_4 : decode jdk_38_method_9_code 4 = .ok (.ifCond .ne 7, 3) := by decide +kernel
theorem d11_7 : decode jdk_38_method_9_code 7 = .ok (.iconst 1, 1) := by decide +kernel
theorem d11_8 : decode jdk_38_method_9_code 8 = .ok (.goto 4, 3) := by decide +kernel
theorem d11_11 : decode jdk_38_method_9_code 11 = .ok (.iconst 0, 1) := by decide +kernel
theorem d11_12 : decode jdk_38_method_9_code 12 = .ok (.ireturn, 1) := by decide +kernel
theorem pd11 : parseMethodDescriptor "()Z" = some ⟨[], some .boolean⟩ := by decide +kernel
theorem pn11 : plainFor (⟨"java/util/ArrayList", "isEmpty", "()Z"⟩ : MethodName) = true := by first | (refine plainFor_of_name ?_; simp [plainName, overriddenIn]; done) | (refine plainFor_of_name ?_; decide +kernel) | decide +kernel
abbrev B11 : Bd := ((⟨"java/util/ArrayList", "isEmpty", "()Z"⟩ : MethodName), jdk_38_method_9_code, 1, (some .boolean), ({ frames := 0, cells := 0, slots := 0, locals := 0 } : Room), tables_1)
theorem ef11 (mid : MethodId) (a : Addr) : entryFrame mid (List.toArray [.ref a]) 1 = mkF mid 0 #[.val (.ref a)] [] := by first | (simp [entryFrame, mkF, argsToLocals, Value.category]; done) | rfl
def Q11 (sz : Int32) (h0 : Heap) (v : Option Value) (h : Heap) : Prop := v = some (.int (if sz = 0 then 1 else 0)) ∧ h0 = h
set_option maxRecDepth 65536 in
set_option maxHeartbeats 40000000 in
theorem c11 (Z : State) (hw : Wd Z tables_1) (h0 : Heap) (a : Addr) (sz : Int32) (hZ : Fld Z h0 a "java/util/ArrayList" "size" "I" (.int sz)) : Con Z B11 (List.toArray [.ref a]) h0 (Q11 sz h0) := by
  refine Con.mk hw pn11 (fun mid => ef11 mid a) (Go.old fun hle' => ?_)
  have hle := hle'.1
  refine Go.aloadN 1 rfl d11_0 rfl rfl ?_
  refine Go.getF 4 rfl (v := .int sz) 83 d11_1 rfl hZ ?_
  refine Go.if_ne 11 7 d11_4 (by decide) rfl rfl (fun (b1 : ¬ sz = 0) => ?_) (fun (b1 : sz = 0) => ?_)
  · refine Go.iconst 12 rfl (0 : Int32) d11_11 rfl ?_
    exact Go.retN (t := .boolean) (z' := (0 : Int32)) d11_12 rfl (by decide) rfl (by decide) (by decide) ⟨by rw [if_neg b1], rfl⟩
  · refine Go.iconst 8 rfl (1 : Int32) d11_7 rfl ?_
    refine Go.goto 12 d11_8 (by decide) (by decide) ?_
    exact Go.retN (t := .boolean) (z' := (1 : Int32)) d11_12 rfl (by decide) rfl (by decide) (by decide) ⟨by rw [if_pos b1], rfl⟩
theorem d13_0 : decode jdk_49_method_1_code 0 = .ok (.aload_n 0, 1) := by decide +kernel
theorem d13_1 : decode jdk_49_method_1_code 1 = .ok (.aload_n 1, 1) := by decide +kernel
theorem d13_2 : decode jdk_49_method_1_code 2 = .ok (.putfield 1, 3) := by decide +kernel
theorem d13_5 : decode jdk_49_method_1_code 5 = .ok (.aload_n 0, 1) := by decide +kernel
theorem d13_6 : decode jdk_49_method_1_code 6 = .ok (.invokespecial 7, 3) := by decide +kernel
theorem d13_9 : decode jdk_49_method_1_code 9 = .ok (.aload_n 0, 1) := by decide +kernel
theorem d13_10 : decode jdk_49_method_1_code 10 = .ok (.iconst (-1), 1) := by decide +kernel
theorem d13_11 : decode jdk_49_method_1_code 11 = .ok (.putfield 13, 3) := by decide +kernel
theorem d13_14 : decode jdk_49_method_1_code 14 = .ok (.aload_n 0, 1) := by decide +kernel
theorem d13_15 : decode jdk_49_method_1_code 15 = .ok (.aload_n 0, 1) := by decide +kernel
theorem d13_16 : decode jdk_49_method_1_code 16 = .ok (.getfield 1, 3) := by decide +kernel
theorem d13_19 : decode jdk_49_method_1_code 19 = .ok (.getfield 17, 3) := by decide +kernel
theorem d13_22 : decode jdk_49_method_1_code 22 = .ok (.putfield 22, 3) := by decide +kernel
theorem d13_25 : decode jdk_49_method_1_code 25 = .ok (.return_, 1) := by decide +kernel
theorem pd13 : parseMethodDescriptor "(Ljava/util/ArrayList;)V" = some ⟨[(.object "java/util/ArrayList")], none⟩ := by decide +kernel
theorem pn13 : plainFor (⟨"java/util/ArrayList$Itr", "<init>", "(Ljava/util/ArrayList;)V"⟩ : MethodName) = true := by first | (refine plainFor_of_name ?_; simp [plainName, overriddenIn]; done) | (refine plainFor_of_name ?_; decide +kernel) | decide +kernel
abbrev B13 : Bd := ((⟨"java/util/ArrayList$Itr", "<init>", "(Ljava/util/ArrayList;)V"⟩ : MethodName), jdk_49_method_1_code, 2, none, ({ frames := 1, cells := 0, slots := 0, locals := 12 } : Room), tables_1)
theorem ef13 (mid : MethodId) (a : Addr) (l : Addr) : entryFrame mid (List.toArray [.ref a, .ref l]) 2 = mkF mid 0 #[.val (.ref a), .val (.ref l)] [] := by first | (simp [entryFrame, mkF, argsToLocals, Value.category]; done) | rfl
def Q13 (Z : State) (a : Addr) (l : Addr) (h0 : Heap) (v : Option Value) (h : Heap) : Prop := v = none ∧ Keep h0 h [a] ∧ Fld Z h a "java/util/ArrayList$Itr" "this$0" "Ljava/util/ArrayList;" (.ref l) ∧ Fld Z h a "java/util/ArrayList$Itr" "cursor" "I" (.int (0 : Int32))
set_option maxRecDepth 65536 in
set_option maxHeartbeats 40000000 in
theorem c13 (Z : State) (hw : Wd Z tables_1) (h0 : Heap) (a : Addr) (l : Addr)  (mc : Int32) (hge : Z.heap.size ≤ a) (hE : Exa Z h0 a "java/util/ArrayList$Itr") (hne : l ≠ a) (hM : Fld Z h0 l "java/util/AbstractList" "modCount" "I" (.int mc)) (hF_this0 : Fld Z h0 a "java/util/ArrayList$Itr" "this$0" "Ljava/util/ArrayList;" (.null)) (hF_lastRet : Fld Z h0 a "java/util/ArrayList$Itr" "lastRet" "I" (.int (0 : Int32))) (hF_expectedModCount : Fld Z h0 a "java/util/ArrayList$Itr" "expectedModCount" "I" (.int (0 : Int32))) (hF_cursor : Fld Z h0 a "java/util/ArrayList$Itr" "cursor" "I" (.int (0 : Int32))) : Con Z B13 (List.toArray [.ref a, .ref l]) h0 (Q13 Z a l h0) := by
  refine Con.mk hw pn13 (fun mid => ef13 mid a l) (Go.old fun hle' => ?_)
  have hle := hle'.1
  refine Go.aloadN 1 rfl d13_0 rfl rfl ?_
  refine Go.aloadN 2 rfl d13_1 rfl rfl ?_
  refine Go.putF 5 rfl (v' := .ref l) (ty := (.object "java/util/ArrayList")) 100 101 94 d13_2 rfl hF_this0 hE (Or.inr ⟨rfl, rfl, rfl⟩) rfl (by decide) rfl rfl hge fun h1 K2 W3 F4 => ?_
  refine Go.aloadN 6 rfl d13_5 rfl rfl ?_
  refine Go.initO 9 rfl 102 12 13 d13_6 rfl rfl rfl rfl (by decide) (W := 0) (Nat.le_of_ble_eq_true rfl) (by decide) ?_
  refine Go.aloadN 10 rfl d13_9 rfl rfl ?_
  refine Go.iconst 11 rfl (-1 : Int32) d13_10 rfl ?_
  have F5 : Fld Z h1 a "java/util/ArrayList$Itr" "lastRet" "I" (.int (0 : Int32)) := (Fld.oth hw hF_lastRet W3 104 101 (Or.inl rfl) (Or.inr rfl) (by decide) rfl rfl)
  have F6 : Exa Z h1 a "java/util/ArrayList$Itr" := (hE.keep K2)
  refine Go.putF 14 rfl (v' := .int (-1 : Int32)) (ty := .int) 103 104 94 d13_11 rfl F5 F6 (Or.inl rfl) rfl (by decide) rfl rfl hge fun h7 K8 W9 F10 => ?_
  refine Go.aloadN 15 rfl d13_14 rfl rfl ?_
  refine Go.aloadN 16 rfl d13_15 rfl rfl ?_
  have F11 : Fld Z h7 a "java/util/ArrayList$Itr" "this$0" "Ljava/util/ArrayList;" (.ref l) := (Fld.oth hw F4 W9 101 104 (Or.inr rfl) (Or.inl rfl) (by decide) rfl rfl)
  refine Go.getF 19 rfl (v := .ref l) 100 d13_16 rfl F11 ?_
  have F12 : Fld Z h7 l "java/util/AbstractList" "modCount" "I" (.int mc) := ((hM.keep K2 (ninS hne nin0)).keep K8 (ninS hne nin0))
  refine Go.getFV 22 rfl (v := .int mc) 105 106 d13_19 rfl rfl F12 ?_
  have F13 : Fld Z h7 a "java/util/ArrayList$Itr" "expectedModCount" "I" (.int (0 : Int32)) := (Fld.oth hw (Fld.oth hw hF_expectedModCount W3 108 101 (Or.inl rfl) (Or.inr rfl) (by decide) rfl rfl) W9 108 104 (Or.inl rfl) (Or.inl rfl) (by decide) rfl rfl)
  have F14 : Exa Z h7 a "java/util/ArrayList$Itr" := (F6.keep K8)
  refine Go.putF 25 rfl (v' := .int mc) (ty := .int) 107 108 94 d13_22 rfl F13 F14 (Or.inl rfl) rfl (by decide) rfl rfl hge fun h15 K16 W17 F18 => ?_
  have F19 : Fld Z h15 a "java/util/ArrayList$Itr" "this$0" "Ljava/util/ArrayList;" (.ref l) := (Fld.oth hw F11 W17 101 108 (Or.inr rfl) (Or.inl rfl) (by decide) rfl rfl)
  have F20 : Fld Z h15 a "java/util/ArrayList$Itr" "cursor" "I" (.int (0 : Int32)) := (Fld.oth hw (Fld.oth hw (Fld.oth hw hF_cursor W3 119 101 (Or.inl rfl) (Or.inr rfl) (by decide) rfl rfl) W9 119 104 (Or.inl rfl) (Or.inl rfl) (by decide) rfl rfl) W17 119 108 (Or.inl rfl) (Or.inl rfl) (by decide) rfl rfl)
  exact Go.retV d13_25 rfl (by decide) (by decide) ⟨rfl, ((((Keep.refl h0 [a]).trans K2 (by simp)).trans K8 (by simp)).trans K16 (by simp)), F19, F20⟩
theorem d12_0 : decode jdk_38_method_55_code 0 = .ok (.new 267, 3) := by decide +kernel
theorem d12_3 : decode jdk_38_method_55_code 3 = .ok (.dup, 1) := by decide +kernel
theorem d12_4 : decode jdk_38_method_55_code 4 = .ok (.aload_n 0, 1) := by decide +kernel
theorem d12_5 : decode jdk_38_method_55_code 5 = .ok (.invokespecial 269, 3) := by decide +kernel
theorem d12_8 : decode jdk_38_method_55_code 8 = .ok (.areturn, 1) := by decide +kernel
theorem pd12 : parseMethodDescriptor "()Ljava/util/Iterator;" = some ⟨[], some (.object "java/util/Iterator")⟩ := by decide +kernel
theorem pn12 : plainFor (⟨"java/util/ArrayList", "iterator", "()Ljava/util/Iterator;"⟩ : MethodName) = true := by first | (refine plainFor_of_name ?_; simp [plainName, overriddenIn]; done) | (refine plainFor_of_name ?_; decide +kernel) | decide +kernel
abbrev B12 : Bd := ((⟨"java/util/ArrayList", "iterator", "()Ljava/util/Iterator;"⟩ : MethodName), jdk_38_method_55_code, 1, (some (.object "java/util/Iterator")), ({ frames := 2, cells := 1, slots := 4, locals := 26 } : Room), tables_1)
theorem ef12 (mid : MethodId) (a : Addr) : entryFrame mid (List.toArray [.ref a]) 1 = mkF mid 0 #[.val (.ref a)] [] := by first | (simp [entryFrame, mkF, argsToLocals, Value.category]; done) | rfl
def Q12 (Z : State) (a : Addr) (h0 : Heap) (v : Option Value) (h : Heap) : Prop := ∃ it, v = some (.ref it) ∧ h0.size ≤ it ∧ Keep h0 h [] ∧ Exa Z h it "java/util/ArrayList$Itr" ∧ Fld Z h it "java/util/ArrayList$Itr" "this$0" "Ljava/util/ArrayList;" (.ref a) ∧ Fld Z h it "java/util/ArrayList$Itr" "cursor" "I" (.int (0 : Int32))
set_option maxRecDepth 65536 in
set_option maxHeartbeats 40000000 in
theorem c12 (Z : State) (hw : Wd Z tables_1) (h0 : Heap) (a : Addr)  (mc : Int32) (hM : Fld Z h0 a "java/util/AbstractList" "modCount" "I" (.int mc)) : Con Z B12 (List.toArray [.ref a]) h0 (Q12 Z a h0) := by
  refine Con.mk hw pn12 (fun mid => ef12 mid a) (Go.old fun hle' => ?_)
  have hle := hle'.1
  refine Go.newO 3 rfl 93 94 95 d12_0 rfl rfl rfl (by decide) (by decide) fun h2 a1 g3 z4 K5 E6 D7 => ?_
  refine Go.dup 4 rfl d12_3 rfl ?_
  refine Go.aloadN 5 rfl d12_4 rfl rfl ?_
  have ne8 : a ≠ a1 := (show @Ne Nat a a1 from by have := ltN hM.lt; have := g3; omega)
  have F9 : Fld Z h2 a "java/util/AbstractList" "modCount" "I" (.int mc) := (hM.keep K5 nin0)
  refine Go.callI 8 rfl (C := B13) a1 [.ref a] (rest := [.ref a1]) 96 97 95 99 (c13 Z hw h2 a1 a mc z4 E6 ne8 F9 (D7 101 (Or.inr rfl) (ty := (.object "java/util/ArrayList")) (by decide) : Fld Z h2 a1 "java/util/ArrayList$Itr" "this$0" "Ljava/util/ArrayList;" (.null)) (D7 104 (Or.inl rfl) (ty := .int) (by decide) : Fld Z h2 a1 "java/util/ArrayList$Itr" "lastRet" "I" (.int (0 : Int32))) (D7 108 (Or.inl rfl) (ty := .int) (by decide) : Fld Z h2 a1 "java/util/ArrayList$Itr" "expectedModCount" "I" (.int (0 : Int32))) (D7 119 (Or.inl rfl) (ty := .int) (by decide) : Fld Z h2 a1 "java/util/ArrayList$Itr" "cursor" "I" (.int (0 : Int32)))) d12_5 rfl rfl rfl rfl rfl rfl (by decide) pd13 rfl rfl rfl (W := 1) (Nat.le_of_ble_eq_true rfl) (by decide) (by decide) (by decide) (by decide) fun v10 h11 q12 => ?_
  obtain ⟨rfl, K13, F14, F15⟩ := q12
  have F16 : Exa Z h11 a1 "java/util/ArrayList$Itr" := (E6.keep K13)
  exact Go.retA d12_8 rfl rfl rfl (by decide) (by decide) ⟨a1, rfl, Nat.le_of_eq g3.symm, (((Keep.refl h0 []).trans K5 all0).trans K13 (allS (Or.inr (by have := K5.1; have := g3; omega)) all0)), F16, F14, F15⟩
theorem d14_0 : decode jdk_49_method_2_code 0 = .ok (.aload_n 0, 1) := by decide +kernel
theorem d14_1 : decode jdk_49_method_2_code 1 = .ok (.getfield 25, 3) := by decide +kernel
theorem d14_4 : decode jdk_49_method_2_code 4 = .ok (.aload_n 0, 1) := by decide +kernel
theorem d14_5 : decode jdk_49_method_2_code 5 = .ok (.getfield 1, 3) := by decide +kernel
theorem d14_8 : decode jdk_49_method_2_code 8 = .ok (.getfield 28, 3) := by decide +kernel
theorem d14_11 : decode jdk_49_method_2_code 11 = .ok (.if_icmp .eq 7, 3) := by decide +kernel
theorem d14_14 : decode jdk_49_method_2_code 14 = .ok (.iconst 1, 1) := by decide +kernel
theorem d14_15 : decode jdk_49_method_2_code 15 = .ok (.goto 4, 3) := by decide +kernel
theorem d14_18 : decode jdk_49_method_2_code 18 = .ok (.iconst 0, 1) := by decide +kernel
theorem d14_19 : decode jdk_49_method_2_code 19 = .ok (.ireturn, 1) := by decide +kernel
theorem pd14 : parseMethodDescriptor "()Z" = some ⟨[], some .boolean⟩ := by decide +kernel
theorem pn14 : plainFor (⟨"java/util/ArrayList$Itr", "hasNext", "()Z"⟩ : MethodName) = true := by first | (refine plainFor_of_name ?_; simp [plainName, overriddenIn]; done) | (refine plainFor_of_name ?_; decide +kernel) | decide +kernel
abbrev B14 : Bd := ((⟨"java/util/ArrayList$Itr", "hasNext", "()Z"⟩ : MethodName), jdk_49_method_2_code, 1, (some .boolean), ({ frames := 0, cells := 0, slots := 0, locals := 0 } : Room), tables_1)
theorem ef14 (mid : MethodId) (a : Addr) : entryFrame mid (List.toArray [.ref a]) 1 = mkF mid 0 #[.val (.ref a)] [] := by first | (simp [entryFrame, mkF, argsToLocals, Value.category]; done) | rfl
def Q14 (h0 : Heap) (v : Option Value) (h : Heap) : Prop := v = some (.int 0) ∧ h0 = h
set_option maxRecDepth 65536 in
set_option maxHeartbeats 40000000 in
theorem c14 (Z : State) (hw : Wd Z tables_1) (h0 : Heap) (a : Addr)  (l : Addr) (hT : Fld Z h0 a "java/util/ArrayList$Itr" "this$0" "Ljava/util/ArrayList;" (.ref l)) (hC : Fld Z h0 a "java/util/ArrayList$Itr" "cursor" "I" (.int (0 : Int32))) (hZ : Fld Z h0 l "java/util/ArrayList" "size" "I" (.int (0 : Int32))) : Con Z B14 (List.toArray [.ref a]) h0 (Q14 h0) := by
  refine Con.mk hw pn14 (fun mid => ef14 mid a) (Go.old fun hle' => ?_)
  have hle := hle'.1
  refine Go.aloadN 1 rfl d14_0 rfl rfl ?_
  refine Go.getF 4 rfl (v := .int (0 : Int32)) 118 d14_1 rfl hC ?_
  refine Go.aloadN 5 rfl d14_4 rfl rfl ?_
  refine Go.getF 8 rfl (v := .ref l) 100 d14_5 rfl hT ?_
  refine Go.getFN 11 rfl (v := .int (0 : Int32)) 120 d14_8 rfl hZ ?_
  refine Go.icmp_eq 18 14 d14_11 (by decide) rfl rfl (fun (b1 : (0 : Int32) = (0 : Int32)) => ?_) (fun (b1 : ¬ (0 : Int32) = (0 : Int32)) => ?_)
  · refine Go.iconst 19 rfl (0 : Int32) d14_18 rfl ?_
    exact Go.retN (t := .boolean) (z' := (0 : Int32)) d14_19 rfl (by decide) rfl (by decide) (by decide) ⟨rfl, rfl⟩
  · exact absurd rfl b1
theorem d43_0 : decode jdk_29_method_65_code 0 = .ok (.iload_n 0, 1) := by decide +kernel
theorem d43_1 : decode jdk_29_method_65_code 1 = .ok (.iload_n 1, 1) := by decide +kernel
theorem d43_2 : decode jdk_29_method_65_code 2 = .ok (.if_icmp .lt 7, 3) := by decide +kernel
theorem d43_5 : decode jdk_29_method_65_code 5 = .ok (.iload_n 0, 1) := by decide +kernel
theorem d43_6 : decode jdk_29_method_65_code 6 = .ok (.goto 4, 3) := by decide +kernel
theorem d43_9 : decode jdk_29_method_65_code 9 = .ok (.iload_n 1, 1) := by decide +kernel
theorem d43_10 : decode jdk_29_method_65_code 10 = .ok (.ireturn, 1) := by decide +kernel
theorem pd43 : parseMethodDescriptor "(II)I" = some ⟨[.int, .int], some .int⟩ := by decide +kernel
theorem pn43 : plainFor (⟨"java/lang/Math", "max", "(II)I"⟩ : MethodName) = true := by first | (refine plainFor_of_name ?_; simp [plainName, overriddenIn]; done) | (refine plainFor_of_name ?_; decide +kernel) | decide +kernel
abbrev B43 : Bd := ((⟨"java/lang/Math", "max", "(II)I"⟩ : MethodName), jdk_29_method_65_code, 2, (some .int), ({ frames := 0, cells := 0, slots := 0, locals := 0 } : Room), tables_1)
theorem ef43 (mid : MethodId)  : entryFrame mid (List.toArray [.int (10 : Int32), .int (1 : Int32)]) 2 = mkF mid 0 #[.val (.int (10 : Int32)), .val (.int (1 : Int32))] [] := by first | (simp [entryFrame, mkF, argsToLocals, Value.category]; done) | rfl
def Q43 (h0 : Heap) (v : Option Value) (h : Heap) : Prop := v = some (.int 10) ∧ h0 = h
set_option maxRecDepth 65536 in
set_option maxHeartbeats 40000000 in
theorem c43 (Z : State) (hw : Wd Z tables_1) (h0 : Heap)    : Con Z B43 (List.toArray [.int (10 : Int32), .int (1 : Int32)]) h0 (Q43 h0) := by
  refine Con.mk hw pn43 (fun mid => ef43 mid ) (Go.old fun hle' => ?_)
  have hle := hle'.1
  refine Go.iloadN 1 rfl d43_0 rfl ?_
  refine Go.iloadN 2 rfl d43_1 rfl ?_
  refine Go.icmp_lt 9 5 d43_2 (by decide) rfl rfl (fun (b1 : (10 : Int32) < (1 : Int32)) => ?_) (fun (b1 : ¬ (10 : Int32) < (1 : Int32)) => ?_)
  · exact absurd b1 (by decide)
  · refine Go.iloadN 6 rfl d43_5 rfl ?_
    refine Go.goto 10 d43_6 (by decide) (by decide) ?_
    exact Go.retI d43_10 rfl (by decide) (by decide) ⟨rfl, rfl⟩
theorem d42_0 : decode jdk_38_method_6_code 0 = .ok (.aload_n 0, 1) := by decide +kernel
theorem d42_1 : decode jdk_38_method_6_code 1 = .ok (.getfield 9, 3) := by decide +kernel
theorem d42_4 : decode jdk_38_method_6_code 4 = .ok (.arraylength, 1) := by decide +kernel
theorem d42_5 : decode jdk_38_method_6_code 5 = .ok (.istore_n 2, 1) := by decide +kernel
theorem d42_6 : decode jdk_38_method_6_code 6 = .ok (.iload_n 2, 1) := by decide +kernel
theorem d42_7 : decode jdk_38_method_6_code 7 = .ok (.ifCond .gt 13, 3) := by decide +kernel
theorem d42_10 : decode jdk_38_method_6_code 10 = .ok (.aload_n 0, 1) := by decide +kernel
theorem d42_11 : decode jdk_38_method_6_code 11 = .ok (.getfield 9, 3) := by decide +kernel
theorem d42_14 : decode jdk_38_method_6_code 14 = .ok (.getstatic 39, 3) := by decide +kernel
theorem d42_17 : decode jdk_38_method_6_code 17 = .ok (.if_acmp .eq 28, 3) := by decide +kernel
theorem d42_45 : decode jdk_38_method_6_code 45 = .ok (.aload_n 0, 1) := by decide +kernel
theorem d42_46 : decode jdk_38_method_6_code 46 = .ok (.bipush 10, 2) := by decide +kernel
theorem d42_48 : decode jdk_38_method_6_code 48 = .ok (.iload_n 1, 1) := by decide +kernel
theorem d42_49 : decode jdk_38_method_6_code 49 = .ok (.invokestatic 79, 3) := by decide +kernel
theorem d42_52 : decode jdk_38_method_6_code 52 = .ok (.anewarray 7, 3) := by decide +kernel
theorem d42_55 : decode jdk_38_method_6_code 55 = .ok (.dup_x1, 1) := by decide +kernel
theorem d42_56 : decode jdk_38_method_6_code 56 = .ok (.putfield 9, 3) := by decide +kernel
theorem d42_59 : decode jdk_38_method_6_code 59 = .ok (.areturn, 1) := by decide +kernel
theorem pd42 : parseMethodDescriptor "(I)[Ljava/lang/Object;" = some ⟨[.int], some (.array (.object "java/lang/Object"))⟩ := by decide +kernel
theorem pn42 : plainFor (⟨"java/util/ArrayList", "grow", "(I)[Ljava/lang/Object;"⟩ : MethodName) = true := by first | (refine plainFor_of_name ?_; simp [plainName, overriddenIn]; done) | (refine plainFor_of_name ?_; decide +kernel) | decide +kernel
abbrev B42 : Bd := ((⟨"java/util/ArrayList", "grow", "(I)[Ljava/lang/Object;"⟩ : MethodName), jdk_38_method_6_code, 4, (some (.array (.object "java/lang/Object"))), ({ frames := 1, cells := 1, slots := 10, locals := 14 } : Room), tables_1)
theorem ef42 (mid : MethodId) (a : Addr) : entryFrame mid (List.toArray [.ref a, .int (1 : Int32)]) 4 = mkF mid 0 #[.val (.ref a), .val (.int (1 : Int32)), .unset, .unset] [] := by first | (simp [entryFrame, mkF, argsToLocals, Value.category]; done) | rfl
def Q42 (Z : State) (a : Addr) (h0 : Heap) (v : Option Value) (h : Heap) : Prop := ∃ t, v = some (.ref t) ∧ h0.size ≤ t ∧ Keep h0 h [a] ∧ Ary Z h t (.object "java/lang/Object") [.null, .null, .null, .null, .null, .null, .null, .null, .null, .null] ∧ Aov Z h t "java/lang/Object" ∧ Fld Z h a "java/util/ArrayList" "size" "I" (.int (0 : Int32))
set_option maxRecDepth 65536 in
set_option maxHeartbeats 40000000 in
theorem c42 (Z : State) (hw : Wd Z tables_1) (h0 : Heap) (a : Addr)  (da : Addr) (hSda : Sta Z Z.heap "java/util/ArrayList" "DEFAULTCAPACITY_EMPTY_ELEMENTDATA" "[Ljava/lang/Object;" (.ref da)) (hAda : Ary Z Z.heap da (.object "java/lang/Object") []) (hge : Z.heap.size ≤ a) (hE : Exa Z h0 a "java/util/ArrayList") (hD : Fld Z h0 a "java/util/ArrayList" "elementData" "[Ljava/lang/Object;" (.ref da)) (hZ : Fld Z h0 a "java/util/ArrayList" "size" "I" (.int (0 : Int32))) : Con Z B42 (List.toArray [.ref a, .int (1 : Int32)]) h0 (Q42 Z a h0) := by
  refine Con.mk hw pn42 (fun mid => ef42 mid a) (Go.old fun hle' => ?_)
  have hle := hle'.1
  refine Go.old fun x1 => ?_
  refine Go.aloadN 1 rfl d42_0 rfl rfl ?_
  refine Go.getF 4 rfl (v := .ref da) 55 d42_1 rfl hD ?_
  refine Go.alen 5 rfl (0 : Int32) d42_4 (hAda.ext x1) rfl ?_
  refine Go.istoreN 6 rfl d42_5 (Ls' := #[.val (.ref a), .val (.int (1 : Int32)), .val (.int (0 : Int32)), .unset]) rfl ?_
  refine Go.iloadN 7 rfl d42_6 rfl ?_
  refine Go.if_gt 20 10 d42_7 (by decide) rfl rfl (fun (b2 : 0 < (0 : Int32)) => ?_) (fun (b2 : ¬ 0 < (0 : Int32)) => ?_)
  · exact absurd b2 (by decide)
  · refine Go.aloadN 11 rfl d42_10 rfl rfl ?_
    refine Go.getF 14 rfl (v := .ref da) 55 d42_11 rfl hD ?_
    refine Go.getS 17 rfl (v := .ref da) 54 d42_14 rfl hSda ?_
    refine Go.acmp_eq 45 20 d42_17 (by decide) rfl rfl rfl rfl (fun (b3 : (.ref da : Value) = .ref da) => ?_) (fun (b3 : ¬ (.ref da : Value) = .ref da) => ?_)
    · refine Go.aloadN 46 rfl d42_45 rfl rfl ?_
      refine Go.bipush 48 rfl (10 : Int32) d42_46 rfl ?_
      refine Go.iloadN 49 rfl d42_48 rfl ?_
      refine Go.callS 52 rfl (C := B43) [.int (10 : Int32), .int (1 : Int32)] (rest := [.ref a]) 323 324 325 326 (c43 Z hw h0) d42_49 rfl rfl rfl rfl (by decide) pd43 rfl rfl rfl (W := 1) (Nat.le_of_ble_eq_true rfl) (by decide) (by decide) (by decide) (by decide) fun v4 h5 q6 => ?_
      obtain ⟨rfl, rfl⟩ := q6
      refine Go.newR 55 rfl 327 328 10 10 d42_52 rfl rfl rfl (by decide) (by decide) (by decide) (by decide) fun h8 a7 g9 z10 K11 A12 E13 O14 => ?_
      have A15 : Ary Z h8 a7 (.object "java/lang/Object") [.null, .null, .null, .null, .null, .null, .null, .null, .null, .null] := A12
      refine Go.dupX1 56 rfl d42_55 rfl rfl ?_
      have F16 : Fld Z h8 a "java/util/ArrayList" "elementData" "[Ljava/lang/Object;" (.ref da) := (hD.keep K11 nin0)
      have F17 : Exa Z h8 a "java/util/ArrayList" := (hE.keep K11)
      refine Go.putF 59 rfl (v' := .ref a7) (ty := (.array (.object "java/lang/Object"))) 55 56 34 d42_56 rfl F16 F17 (Or.inl rfl) rfl (by decide) rfl rfl hge fun h18 K19 W20 F21 => ?_
      have ne22 : a7 ≠ a := (show @Ne Nat a7 a from by have := ltN hE.lt; have := g9; omega)
      have F23 : Ary Z h18 a7 (.object "java/lang/Object") [.null, .null, .null, .null, .null, .null, .null, .null, .null, .null] := (A15.keep K19 (ninS ne22 nin0))
      have F24 : Aov Z h18 a7 "java/lang/Object" := (O14.keep K19)
      have F25 : Fld Z h18 a "java/util/ArrayList" "size" "I" (.int (0 : Int32)) := (Fld.oth hw (hZ.keep K11 nin0) W20 84 56 (Or.inl rfl) (Or.inl rfl) (by decide) rfl rfl)
      exact Go.retA d42_59 rfl rfl rfl (by decide) (by decide) ⟨a7, rfl, Nat.le_of_eq g9.symm, (((Keep.refl h0 [a]).trans K11 all0).trans K19 (by simp)), F23, F24, F25⟩
    · exact absurd rfl b3
theorem d41_0 : decode jdk_38_method_7_code 0 = .ok (.aload_n 0, 1) := by decide +kernel
theorem d41_1 : decode jdk_38_method_7_code 1 = .ok (.aload_n 0, 1) := by decide +kernel
theorem d41_2 : decode jdk_38_method_7_code 2 = .ok (.getfield 48, 3) := by decide +kernel
theorem d41_5 : decode jdk_38_method_7_code 5 = .ok (.iconst 1, 1) := by decide +kernel
theorem d41_6 : decode jdk_38_method_7_code 6 = .ok (.iadd, 1) := by decide +kernel
theorem d41_7 : decode jdk_38_method_7_code 7 = .ok (.invokevirtual 69, 3) := by decide +kernel
theorem d41_10 : decode jdk_38_method_7_code 10 = .ok (.areturn, 1) := by decide +kernel
theorem pd41 : parseMethodDescriptor "()[Ljava/lang/Object;" = some ⟨[], some (.array (.object "java/lang/Object"))⟩ := by decide +kernel
theorem pn41 : plainFor (⟨"java/util/ArrayList", "grow", "()[Ljava/lang/Object;"⟩ : MethodName) = true := by first | (refine plainFor_of_name ?_; simp [plainName, overriddenIn]; done) | (refine plainFor_of_name ?_; decide +kernel) | decide +kernel
abbrev B41 : Bd := ((⟨"java/util/ArrayList", "grow", "()[Ljava/lang/Object;"⟩ : MethodName), jdk_38_method_7_code, 1, (some (.array (.object "java/lang/Object"))), ({ frames := 2, cells := 1, slots := 10, locals := 29 } : Room), tables_1)
theorem ef41 (mid : MethodId) (a : Addr) : entryFrame mid (List.toArray [.ref a]) 1 = mkF mid 0 #[.val (.ref a)] [] := by first | (simp [entryFrame, mkF, argsToLocals, Value.category]; done) | rfl
def Q41 (Z : State) (a : Addr) (h0 : Heap) (v : Option Value) (h : Heap) : Prop := ∃ t, v = some (.ref t) ∧ h0.size ≤ t ∧ Keep h0 h [a] ∧ Ary Z h t (.object "java/lang/Object") [.null, .null, .null, .null, .null, .null, .null, .null, .null, .null] ∧ Aov Z h t "java/lang/Object" ∧ Fld Z h a "java/util/ArrayList" "size" "I" (.int (0 : Int32))
set_option maxRecDepth 65536 in
set_option maxHeartbeats 40000000 in
theorem c41 (Z : State) (hw : Wd Z tables_1) (h0 : Heap) (a : Addr)  (da : Addr) (hSda : Sta Z Z.heap "java/util/ArrayList" "DEFAULTCAPACITY_EMPTY_ELEMENTDATA" "[Ljava/lang/Object;" (.ref da)) (hAda : Ary Z Z.heap da (.object "java/lang/Object") []) (hge : Z.heap.size ≤ a) (hE : Exa Z h0 a "java/util/ArrayList") (hD : Fld Z h0 a "java/util/ArrayList" "elementData" "[Ljava/lang/Object;" (.ref da)) (hZ : Fld Z h0 a "java/util/ArrayList" "size" "I" (.int (0 : Int32))) : Con Z B41 (List.toArray [.ref a]) h0 (Q41 Z a h0) := by
  refine Con.mk hw pn41 (fun mid => ef41 mid a) (Go.old fun hle' => ?_)
  have hle := hle'.1
  refine Go.old fun x1 => ?_
  refine Go.aloadN 1 rfl d41_0 rfl rfl ?_
  refine Go.aloadN 2 rfl d41_1 rfl rfl ?_
  refine Go.getF 5 rfl (v := .int (0 : Int32)) 83 d41_2 rfl hZ ?_
  refine Go.iconst 6 rfl (1 : Int32) d41_5 rfl ?_
  refine Go.iadd 7 rfl d41_6 ?_
  refine Go.eqI (w := 1) (by decide) ?_
  refine Go.callP 10 rfl (C := B42) a [.int (1 : Int32)] (rest := []) 318 319 321 320 35 322 (c42 Z hw h0 a da hSda hAda hge hE hD hZ) hE d41_7 rfl rfl rfl rfl rfl rfl (by decide) pd42 rfl rfl rfl (W := 0) (Nat.le_of_ble_eq_true rfl) (by decide) (by decide) (by decide) (by decide) fun v2 h3 q4 => ?_
  obtain ⟨t, rfl, g, K, A, O, F⟩ := q4
  exact Go.retA d41_10 rfl rfl rfl (by decide) (by decide) ⟨t, rfl, g, K, A, O, F⟩
theorem d40_0 : decode jdk_38_method_24_code 0 = .ok (.iload_n 3, 1) := by decide +kernel
theorem d40_1 : decode jdk_38_method_24_code 1 = .ok (.aload_n 2, 1) := by decide +kernel
theorem d40_2 : decode jdk_38_method_24_code 2 = .ok (.arraylength, 1) := by decide +kernel
theorem d40_3 : decode jdk_38_method_24_code 3 = .ok (.if_icmp .ne 8, 3) := by decide +kernel
theorem d40_6 : decode jdk_38_method_24_code 6 = .ok (.aload_n 0, 1) := by decide +kernel
theorem d40_7 : decode jdk_38_method_24_code 7 = .ok (.invokevirtual 129, 3) := by decide +kernel
theorem d40_10 : decode jdk_38_method_24_code 10 = .ok (.astore_n 2, 1) := by decide +kernel
theorem d40_11 : decode jdk_38_method_24_code 11 = .ok (.aload_n 2, 1) := by decide +kernel
theorem d40_12 : decode jdk_38_method_24_code 12 = .ok (.iload_n 3, 1) := by decide +kernel
theorem d40_13 : decode jdk_38_method_24_code 13 = .ok (.aload_n 1, 1) := by decide +kernel
theorem d40_14 : decode jdk_38_method_24_code 14 = .ok (.aastore, 1) := by decide +kernel
theorem d40_15 : decode jdk_38_method_24_code 15 = .ok (.aload_n 0, 1) := by decide +kernel
theorem d40_16 : decode jdk_38_method_24_code 16 = .ok (.iload_n 3, 1) := by decide +kernel
theorem d40_17 : decode jdk_38_method_24_code 17 = .ok (.iconst 1, 1) := by decide +kernel
theorem d40_18 : decode jdk_38_method_24_code 18 = .ok (.iadd, 1) := by decide +kernel
theorem d40_19 : decode jdk_38_method_24_code 19 = .ok (.putfield 48, 3) := by decide +kernel
theorem d40_22 : decode jdk_38_method_24_code 22 = .ok (.return_, 1) := by decide +kernel
theorem pd40 : parseMethodDescriptor "(Ljava/lang/Object;[Ljava/lang/Object;I)V" = some ⟨[(.object "java/lang/Object"), (.array (.object "java/lang/Object")), .int], none⟩ := by decide +kernel
theorem pn40 : plainFor (⟨"java/util/ArrayList", "add", "(Ljava/lang/Object;[Ljava/lang/Object;I)V"⟩ : MethodName) = true := by first | (refine plainFor_of_name ?_; simp [plainName, overriddenIn]; done) | (refine plainFor_of_name ?_; decide +kernel) | decide +kernel
abbrev B40 : Bd := ((⟨"java/util/ArrayList", "add", "(Ljava/lang/Object;[Ljava/lang/Object;I)V"⟩ : MethodName), jdk_38_method_24_code, 4, none, ({ frames := 3, cells := 1, slots := 10, locals := 41 } : Room), tables_1)
theorem ef40 (mid : MethodId) (a : Addr) (x : Addr) (da : Addr) : entryFrame mid (List.toArray [.ref a, .ref x, .ref da, .int (0 : Int32)]) 4 = mkF mid 0 #[.val (.ref a), .val (.ref x), .val (.ref da), .val (.int (0 : Int32))] [] := by first | (simp [entryFrame, mkF, argsToLocals, Value.category]; done) | rfl
def Q40 (Z : State) (a : Addr) (h0 : Heap) (v : Option Value) (h : Heap) : Prop := v = none ∧ Keep h0 h [a] ∧ Fld Z h a "java/util/ArrayList" "size" "I" (.int (1 : Int32))
set_option maxRecDepth 65536 in
set_option maxHeartbeats 40000000 in
theorem c40 (Z : State) (hw : Wd Z tables_1) (h0 : Heap) (a : Addr) (x : Addr) (da : Addr)  (hSda : Sta Z Z.heap "java/util/ArrayList" "DEFAULTCAPACITY_EMPTY_ELEMENTDATA" "[Ljava/lang/Object;" (.ref da)) (hAda : Ary Z Z.heap da (.object "java/lang/Object") []) (hge : Z.heap.size ≤ a) (hE : Exa Z h0 a "java/util/ArrayList") (hD : Fld Z h0 a "java/util/ArrayList" "elementData" "[Ljava/lang/Object;" (.ref da)) (hZ : Fld Z h0 a "java/util/ArrayList" "size" "I" (.int (0 : Int32))) (hI : Ins Z h0 x "java/lang/Object" true) : Con Z B40 (List.toArray [.ref a, .ref x, .ref da, .int (0 : Int32)]) h0 (Q40 Z a h0) := by
  refine Con.mk hw pn40 (fun mid => ef40 mid a x da) (Go.old fun hle' => ?_)
  have hle := hle'.1
  refine Go.old fun x1 => ?_
  refine Go.iloadN 1 rfl d40_0 rfl ?_
  refine Go.aloadN 2 rfl d40_1 rfl rfl ?_
  refine Go.alen 3 rfl (0 : Int32) d40_2 (hAda.ext x1) rfl ?_
  refine Go.icmp_ne 11 6 d40_3 (by decide) rfl rfl (fun (b2 : ¬ (0 : Int32) = (0 : Int32)) => ?_) (fun (b2 : (0 : Int32) = (0 : Int32)) => ?_)
  · exact absurd rfl b2
  · refine Go.aloadN 7 rfl d40_6 rfl rfl ?_
    refine Go.callP 10 rfl (C := B41) a [] (rest := []) 313 314 316 315 35 317 (c41 Z hw h0 a da hSda hAda hge hE hD hZ) hE d40_7 rfl rfl rfl rfl rfl rfl (by decide) pd41 rfl rfl rfl (W := 0) (Nat.le_of_ble_eq_true rfl) (by decide) (by decide) (by decide) (by decide) fun v3 h4 q5 => ?_
    obtain ⟨t, rfl, g, K, A, O, F⟩ := q5
    have z6 : Z.heap.size ≤ t := Nat.le_trans hle g
    refine Go.astoreN 11 rfl d40_10 rfl (Ls' := #[.val (.ref a), .val (.ref x), .val (.ref t), .val (.int (0 : Int32))]) rfl ?_
    refine Go.aloadN 12 rfl d40_11 rfl rfl ?_
    refine Go.iloadN 13 rfl d40_12 rfl ?_
    refine Go.aloadN 14 rfl d40_13 rfl rfl ?_
    have F7 : Ins Z h4 x "java/lang/Object" true := (Jvm.Ow.Ins.keep hI K)
    refine Go.stR 15 rfl d40_14 A O F7 0 rfl (Nat.le_of_ble_eq_true rfl) z6 fun h8 K9 A10 => ?_
    have A11 : Ary Z h8 t (.object "java/lang/Object") [.ref x, .null, .null, .null, .null, .null, .null, .null, .null, .null] := A10
    refine Go.aloadN 16 rfl d40_15 rfl rfl ?_
    refine Go.iloadN 17 rfl d40_16 rfl ?_
    refine Go.iconst 18 rfl (1 : Int32) d40_17 rfl ?_
    refine Go.iadd 19 rfl d40_18 ?_
    refine Go.eqI (w := 1) (by decide) ?_
    have ne12 : a ≠ t := (show @Ne Nat a t from by have := ltN hE.lt; have := g; omega)
    have F13 : Fld Z h8 a "java/util/ArrayList" "size" "I" (.int (0 : Int32)) := (F.keep K9 (ninS ne12 nin0))
    have F14 : Exa Z h8 a "java/util/ArrayList" := ((hE.keep K).keep K9)
    refine Go.putF 22 rfl (v' := .int (1 : Int32)) (ty := .int) 83 84 34 d40_19 rfl F13 F14 (Or.inl rfl) rfl (by decide) rfl rfl hge fun h15 K16 W17 F18 => ?_
    exact Go.retV d40_22 rfl (by decide) (by decide) ⟨rfl, ((((Keep.refl h0 [a]).trans K (by simp)).trans K9 (allS (Or.inr (by have := K.1; have := g; omega)) all0)).trans K16 (by simp)), F18⟩
theorem d39_0 : decode jdk_38_method_25_code 0 = .ok (.aload_n 0, 1) := by decide +kernel
theorem d39_1 : decode jdk_38_method_25_code 1 = .ok (.dup, 1) := by decide +kernel
theorem d39_2 : decode jdk_38_method_25_code 2 = .ok (.getfield 63, 3) := by decide +kernel
theorem d39_5 : decode jdk_38_method_25_code 5 = .ok (.iconst 1, 1) := by decide +kernel
theorem d39_6 : decode jdk_38_method_25_code 6 = .ok (.iadd, 1) := by decide +kernel
theorem d39_7 : decode jdk_38_method_25_code 7 = .ok (.putfield 63, 3) := by decide +kernel
theorem d39_10 : decode jdk_38_method_25_code 10 = .ok (.aload_n 0, 1) := by decide +kernel
theorem d39_11 : decode jdk_38_method_25_code 11 = .ok (.aload_n 1, 1) := by decide +kernel
theorem d39_12 : decode jdk_38_method_25_code 12 = .ok (.aload_n 0, 1) := by decide +kernel
theorem d39_13 : decode jdk_38_method_25_code 13 = .ok (.getfield 9, 3) := by decide +kernel
theorem d39_16 : decode jdk_38_method_25_code 16 = .ok (.aload_n 0, 1) := by decide +kernel
theorem d39_17 : decode jdk_38_method_25_code 17 = .ok (.getfield 48, 3) := by decide +kernel
theorem d39_20 : decode jdk_38_method_25_code 20 = .ok (.invokevirtual 131, 3) := by decide +kernel
theorem d39_23 : decode jdk_38_method_25_code 23 = .ok (.iconst 1, 1) := by decide +kernel
theorem d39_24 : decode jdk_38_method_25_code 24 = .ok (.ireturn, 1) := by decide +kernel
theorem pd39 : parseMethodDescriptor "(Ljava/lang/Object;)Z" = some ⟨[(.object "java/lang/Object")], some .boolean⟩ := by decide +kernel
theorem pn39 : plainFor (⟨"java/util/ArrayList", "add", "(Ljava/lang/Object;)Z"⟩ : MethodName) = true := by first | (refine plainFor_of_name ?_; simp [plainName, overriddenIn]; done) | (refine plainFor_of_name ?_; decide +kernel) | decide +kernel
abbrev B39 : Bd := ((⟨"java/util/ArrayList", "add", "(Ljava/lang/Object;)Z"⟩ : MethodName), jdk_38_method_25_code, 2, (some .boolean), ({ frames := 4, cells := 1, slots := 10, locals := 56 } : Room), tables_1)
theorem ef39 (mid : MethodId) (a : Addr) (x : Addr) : entryFrame mid (List.toArray [.ref a, .ref x]) 2 = mkF mid 0 #[.val (.ref a), .val (.ref x)] [] := by first | (simp [entryFrame, mkF, argsToLocals, Value.category]; done) | rfl
def Q39 (Z : State) (a : Addr) (h0 : Heap) (v : Option Value) (h : Heap) : Prop := v = some (.int 1) ∧ Keep h0 h [a] ∧ Fld Z h a "java/util/ArrayList" "size" "I" (.int (1 : Int32))
set_option maxRecDepth 65536 in
set_option maxHeartbeats 40000000 in
theorem c39 (Z : State) (hw : Wd Z tables_1) (h0 : Heap) (a : Addr) (x : Addr)  (da : Addr) (hSda : Sta Z Z.heap "java/util/ArrayList" "DEFAULTCAPACITY_EMPTY_ELEMENTDATA" "[Ljava/lang/Object;" (.ref da)) (hAda : Ary Z Z.heap da (.object "java/lang/Object") []) (hge : Z.heap.size ≤ a) (hE : Exa Z h0 a "java/util/ArrayList") (hD : Fld Z h0 a "java/util/ArrayList" "elementData" "[Ljava/lang/Object;" (.ref da)) (hZ : Fld Z h0 a "java/util/ArrayList" "size" "I" (.int (0 : Int32))) (mc : Int32) (hM : Fld Z h0 a "java/util/AbstractList" "modCount" "I" (.int mc)) (hI : Ins Z h0 x "java/lang/Object" true) : Con Z B39 (List.toArray [.ref a, .ref x]) h0 (Q39 Z a h0) := by
  refine Con.mk hw pn39 (fun mid => ef39 mid a x) (Go.old fun hle' => ?_)
  have hle := hle'.1
  refine Go.old fun x1 => ?_
  refine Go.aloadN 1 rfl d39_0 rfl rfl ?_
  refine Go.dup 2 rfl d39_1 rfl ?_
  refine Go.getFV 5 rfl (v := .int mc) 307 106 d39_2 rfl rfl hM ?_
  refine Go.iconst 6 rfl (1 : Int32) d39_5 rfl ?_
  refine Go.iadd 7 rfl d39_6 ?_
  refine Go.nameI fun v2 hv2 => ?_
  refine Go.putFV 10 rfl (v' := .int v2) (ty := .int) 307 53 34 106 d39_7 rfl rfl hM hE (Or.inl rfl) rfl (by decide) rfl rfl hge fun h3 K4 W5 F6 => ?_
  refine Go.aloadN 11 rfl d39_10 rfl rfl ?_
  refine Go.aloadN 12 rfl d39_11 rfl rfl ?_
  refine Go.aloadN 13 rfl d39_12 rfl rfl ?_
  have F7 : Fld Z h3 a "java/util/ArrayList" "elementData" "[Ljava/lang/Object;" (.ref da) := (Fld.oth hw hD W5 56 53 (Or.inl rfl) (Or.inl rfl) (by decide) rfl rfl)
  refine Go.getF 16 rfl (v := .ref da) 55 d39_13 rfl F7 ?_
  refine Go.aloadN 17 rfl d39_16 rfl rfl ?_
  have F8 : Fld Z h3 a "java/util/ArrayList" "size" "I" (.int (0 : Int32)) := (Fld.oth hw hZ W5 84 53 (Or.inl rfl) (Or.inl rfl) (by decide) rfl rfl)
  refine Go.getF 20 rfl (v := .int (0 : Int32)) 83 d39_17 rfl F8 ?_
  have F9 : Exa Z h3 a "java/util/ArrayList" := (hE.keep K4)
  have F10 : Ins Z h3 x "java/lang/Object" true := (Jvm.Ow.Ins.keep hI K4)
  refine Go.callP 23 rfl (C := B40) a [.ref x, .ref da, .int (0 : Int32)] (rest := []) 308 309 311 310 35 312 (c40 Z hw h3 a x da hSda hAda hge F9 F7 F8 F10) F9 d39_20 rfl rfl rfl rfl rfl rfl (by decide) pd40 rfl rfl rfl (W := 0) (Nat.le_of_ble_eq_true rfl) (by decide) (by decide) (by decide) (by decide) fun v11 h12 q13 => ?_
  obtain ⟨rfl, K, F⟩ := q13
  refine Go.iconst 24 rfl (1 : Int32) d39_23 rfl ?_
  exact Go.retN (t := .boolean) (z' := 1) d39_24 rfl (by decide) (by decide) (by decide) (by decide) ⟨rfl, (((Keep.refl h0 [a]).trans K4 (by simp)).trans K (by simp)), F⟩
theorem ef10a (mid : MethodId) (a : Addr) (lb : Addr) (ex : Addr) (un : Addr) (al : Addr) (am : Addr) : entryFrame mid (List.toArray [.ref a, .ref lb, .ref ex, .ref un, .ref al, .ref am]) 10 = mkF mid 0 #[.val (.ref a), .val (.ref lb), .val (.ref ex), .val (.ref un), .val (.ref al), .val (.ref am), .unset, .unset, .unset, .unset] [] := by first | (simp [entryFrame, mkF, argsToLocals, Value.category]; done) | rfl
def Q10a (Z : State) (a : Addr) (lb : Addr) (ex : Addr) (un : Addr) (al : Addr) (am : Addr) (h0 : Heap) (v : Option Value) (h : Heap) : Prop := v = none ∧ Keep h0 h [a] ∧ Fld Z h a "com/example/subsumer/subsumer/core/Description" "label" "Lcom/example/subsumer/subsumer/core/Label;" (.ref lb) ∧ Fld Z h a "com/example/subsumer/subsumer/core/Description" "existentials" "Ljava/util/List;" (.ref ex) ∧ Fld Z h a "com/example/subsumer/subsumer/core/Description" "universals" "Ljava/util/List;" (.ref un) ∧ Fld Z h a "com/example/subsumer/subsumer/core/Description" "atLeast" "Ljava/util/List;" (.ref al) ∧ Fld Z h a "com/example/subsumer/subsumer/core/Description" "atMost" "Ljava/util/List;" (.ref am) ∧ ∃ q1 q2 : Int32, Fld Z h a "com/example/subsumer/subsumer/core/Description" "existentialInside" "Z" (.int q1) ∧ Fld Z h a "com/example/subsumer/subsumer/core/Description" "numberInside" "Z" (.int q2)
set_option maxRecDepth 65536 in
set_option maxHeartbeats 40000000 in
theorem c10a (Z : State) (hw : Wd Z tables_1) (h0 : Heap) (a : Addr) (lb : Addr) (ex : Addr) (un : Addr) (al : Addr) (am : Addr)  (el : Addr) (ea : Addr) (em : Addr) (top : Addr) (bot : Addr) (lem : Addr) (non : Addr) (hv : Ev0 Z el ea em top bot lem non) (mex : Int32) (mun : Int32) (sz : Int32) (hge : Z.heap.size ≤ a) (hE : Exa Z h0 a "com/example/subsumer/subsumer/core/Description") (hF_label : Fld Z h0 a "com/example/subsumer/subsumer/core/Description" "label" "Lcom/example/subsumer/subsumer/core/Label;" (.null)) (hF_existentials : Fld Z h0 a "com/example/subsumer/subsumer/core/Description" "existentials" "Ljava/util/List;" (.null)) (hF_universals : Fld Z h0 a "com/example/subsumer/subsumer/core/Description" "universals" "Ljava/util/List;" (.null)) (hF_atLeast : Fld Z h0 a "com/example/subsumer/subsumer/core/Description" "atLeast" "Ljava/util/List;" (.null)) (hF_atMost : Fld Z h0 a "com/example/subsumer/subsumer/core/Description" "atMost" "Ljava/util/List;" (.null)) (hF_existentialInside : Fld Z h0 a "com/example/subsumer/subsumer/core/Description" "existentialInside" "Z" (.int (0 : Int32))) (hF_numberInside : Fld Z h0 a "com/example/subsumer/subsumer/core/Description" "numberInside" "Z" (.int (0 : Int32))) (hEex : Exa Z h0 ex "java/util/ArrayList") (hSex : Fld Z h0 ex "java/util/ArrayList" "size" "I" (.int (0 : Int32))) (hMex : Fld Z h0 ex "java/util/AbstractList" "modCount" "I" (.int mex)) (hEun : Exa Z h0 un "java/util/ArrayList") (hSun : Fld Z h0 un "java/util/ArrayList" "size" "I" (.int (0 : Int32))) (hMun : Fld Z h0 un "java/util/AbstractList" "modCount" "I" (.int mun)) (hEal : Exa Z h0 al "java/util/ArrayList") (hSal : Fld Z h0 al "java/util/ArrayList" "size" "I" (.int sz)) (hEam : Exa Z h0 am "java/util/ArrayList") (hSam : Fld Z h0 am "java/util/ArrayList" "size" "I" (.int (0 : Int32))) : Con Z B10 (List.toArray [.ref a, .ref lb, .ref ex, .ref un, .ref al, .ref am]) h0 (Q10a Z a lb ex un al am h0) := by
  refine Con.mk hw pn10 (fun mid => ef10a mid a lb ex un al am) (Go.old fun hle' => ?_)
  have hle := hle'.1
  obtain ⟨hSel, hSem, hStop, hSbot, hSlem, hSnon, hEel, hFel, hAea, hEtop, hTl, hTe, hTu, hTa, hTm, hEbot, hnbt, hElem, hLn, hLg, hAnon⟩ := id hv
  have nex : ex ≠ a := ne_exa hEex hE (by decide)
  have nun : un ≠ a := ne_exa hEun hE (by decide)
  have nal : al ≠ a := ne_exa hEal hE (by decide)
  have nam : am ≠ a := ne_exa hEam hE (by decide)
  refine Go.aloadN 1 rfl d10_0 rfl rfl ?_
  refine Go.initO 4 rfl 63 12 13 d10_1 rfl rfl rfl rfl (by decide) (W := 0) (Nat.le_of_ble_eq_true rfl) (by decide) ?_
  refine Go.aloadN 5 rfl d10_4 rfl rfl ?_
  refine Go.aloadN 6 rfl d10_5 rfl rfl ?_
  refine Go.putF 9 rfl (v' := .ref lb) (ty := (.object "com/example/subsumer/subsumer/core/Label")) 64 65 58 d10_6 rfl hF_label hE (Or.inr ⟨rfl, rfl, rfl⟩) rfl (by decide) rfl rfl hge fun h1 K2 W3 F4 => ?_
  refine Go.aloadN 10 rfl d10_9 rfl rfl ?_
  refine Go.aloadN 11 rfl d10_10 rfl rfl ?_
  have F5 : Fld Z h1 a "com/example/subsumer/subsumer/core/Description" "existentials" "Ljava/util/List;" (.null) := (Fld.oth hw hF_existentials W3 67 65 (Or.inr rfl) (Or.inr rfl) (by decide) rfl rfl)
  have F6 : Exa Z h1 a "com/example/subsumer/subsumer/core/Description" := (hE.keep K2)
  refine Go.putF 14 rfl (v' := .ref ex) (ty := (.object "java/util/List")) 66 67 58 d10_11 rfl F5 F6 (Or.inr ⟨rfl, rfl, rfl⟩) rfl (by decide) rfl rfl hge fun h7 K8 W9 F10 => ?_
  refine Go.aloadN 15 rfl d10_14 rfl rfl ?_
  refine Go.aloadN 16 rfl d10_15 rfl rfl ?_
  have F11 : Fld Z h7 a "com/example/subsumer/subsumer/core/Description" "universals" "Ljava/util/List;" (.null) := (Fld.oth hw (Fld.oth hw hF_universals W3 69 65 (Or.inr rfl) (Or.inr rfl) (by decide) rfl rfl) W9 69 67 (Or.inr rfl) (Or.inr rfl) (by decide) rfl rfl)
  have F12 : Exa Z h7 a "com/example/subsumer/subsumer/core/Description" := (F6.keep K8)
  refine Go.putF 19 rfl (v' := .ref un) (ty := (.object "java/util/List")) 68 69 58 d10_16 rfl F11 F12 (Or.inr ⟨rfl, rfl, rfl⟩) rfl (by decide) rfl rfl hge fun h13 K14 W15 F16 => ?_
  refine Go.aloadN 20 rfl d10_19 rfl rfl ?_
  refine Go.aload 22 rfl d10_20 rfl rfl ?_
  have F17 : Fld Z h13 a "com/example/subsumer/subsumer/core/Description" "atLeast" "Ljava/util/List;" (.null) := (Fld.oth hw (Fld.oth hw (Fld.oth hw hF_atLeast W3 71 65 (Or.inr rfl) (Or.inr rfl) (by decide) rfl rfl) W9 71 67 (Or.inr rfl) (Or.inr rfl) (by decide) rfl rfl) W15 71 69 (Or.inr rfl) (Or.inr rfl) (by decide) rfl rfl)
  have F18 : Exa Z h13 a "com/example/subsumer/subsumer/core/Description" := (F12.keep K14)
  refine Go.putF 25 rfl (v' := .ref al) (ty := (.object "java/util/List")) 70 71 58 d10_22 rfl F17 F18 (Or.inr ⟨rfl, rfl, rfl⟩) rfl (by decide) rfl rfl hge fun h19 K20 W21 F22 => ?_
  refine Go.aloadN 26 rfl d10_25 rfl rfl ?_
  refine Go.aload 28 rfl d10_26 rfl rfl ?_
  have F23 : Fld Z h19 a "com/example/subsumer/subsumer/core/Description" "atMost" "Ljava/util/List;" (.null) := (Fld.oth hw (Fld.oth hw (Fld.oth hw (Fld.oth hw hF_atMost W3 73 65 (Or.inr rfl) (Or.inr rfl) (by decide) rfl rfl) W9 73 67 (Or.inr rfl) (Or.inr rfl) (by decide) rfl rfl) W15 73 69 (Or.inr rfl) (Or.inr rfl) (by decide) rfl rfl) W21 73 71 (Or.inr rfl) (Or.inr rfl) (by decide) rfl rfl)
  have F24 : Exa Z h19 a "com/example/subsumer/subsumer/core/Description" := (F18.keep K20)
  refine Go.putF 31 rfl (v' := .ref am) (ty := (.object "java/util/List")) 72 73 58 d10_28 rfl F23 F24 (Or.inr ⟨rfl, rfl, rfl⟩) rfl (by decide) rfl rfl hge fun h25 K26 W27 F28 => ?_
  refine Go.aloadN 32 rfl d10_31 rfl rfl ?_
  have F29 : Fld Z h25 ex "java/util/ArrayList" "size" "I" (.int (0 : Int32)) := (((((hSex.keep K2 (ninS nex nin0)).keep K8 (ninS nex nin0)).keep K14 (ninS nex nin0)).keep K20 (ninS nex nin0)).keep K26 (ninS nex nin0))
  have F33 : Exa Z h25 ex "java/util/ArrayList" := (((((hEex.keep K2).keep K8).keep K14).keep K20).keep K26)
  refine Go.callF 37 rfl (C := B11) (y := ⟨"java/util/List", "isEmpty", "()Z"⟩) ex [] (rest := []) 74 75 76 77 78 79 80 81 35 82 (c11 Z hw h25 ex (0 : Int32) F29) F33 d10_32 rfl rfl rfl rfl rfl rfl rfl rfl rfl rfl rfl (by decide) pd11 rfl rfl rfl (W := 0) (Nat.le_of_ble_eq_true rfl) (by decide) (by decide) (by decide) (by decide) fun v30 h31 q32 => ?_
  obtain ⟨rfl, rfl⟩ := q32
  refine Go.joinI (pcJ := 45) (LsJ := #[.val (.ref a), .val (.ref lb), .val (.ref ex), .val (.ref un), .val (.ref al), .val (.ref am), .unset, .unset, .unset, .unset]) (stJ := []) (fun v => True) (fun J => ?_) (fun v6 _h6 => ?_)
  · refine Go.if_ne 44 40 d10_37 (by decide) rfl rfl (fun (b34 : ¬ (if (0 : Int32) = 0 then 1 else 0) = 0) => ?_) (fun (b34 : (if (0 : Int32) = 0 then 1 else 0) = 0) => ?_)
    · refine Go.iconst 45 rfl (0 : Int32) d10_44 rfl ?_
      exact J _ trivial
    · refine Go.iconst 41 rfl (1 : Int32) d10_40 rfl ?_
      refine Go.goto 45 d10_41 (by decide) (by decide) ?_
      exact J _ trivial
  · refine Go.istore 47 rfl d10_45 (Ls' := #[.val (.ref a), .val (.ref lb), .val (.ref ex), .val (.ref un), .val (.ref al), .val (.ref am), .val (.int v6), .unset, .unset, .unset]) rfl ?_
    refine Go.aload 49 rfl d10_47 rfl rfl ?_
    have F35 : Fld Z h25 al "java/util/ArrayList" "size" "I" (.int sz) := (((((hSal.keep K2 (ninS nal nin0)).keep K8 (ninS nal nin0)).keep K14 (ninS nal nin0)).keep K20 (ninS nal nin0)).keep K26 (ninS nal nin0))
    have F39 : Exa Z h25 al "java/util/ArrayList" := (((((hEal.keep K2).keep K8).keep K14).keep K20).keep K26)
    refine Go.callF 54 rfl (C := B11) (y := ⟨"java/util/List", "isEmpty", "()Z"⟩) al [] (rest := []) 74 75 76 77 78 79 80 81 35 82 (c11 Z hw h25 al sz F35) F39 d10_49 rfl rfl rfl rfl rfl rfl rfl rfl rfl rfl rfl (by decide) pd11 rfl rfl rfl (W := 0) (Nat.le_of_ble_eq_true rfl) (by decide) (by decide) (by decide) (by decide) fun v36 h37 q38 => ?_
    obtain ⟨rfl, rfl⟩ := q38
    refine Go.joinI (pcJ := 72) (LsJ := #[.val (.ref a), .val (.ref lb), .val (.ref ex), .val (.ref un), .val (.ref al), .val (.ref am), .val (.int v6), .unset, .unset, .unset]) (stJ := []) (fun v => True) (fun J => ?_) (fun v7 _h7 => ?_)
    · refine Go.if_eq 67 57 d10_54 (by decide) rfl rfl (fun (b40 : (if sz = 0 then 1 else 0) = 0) => ?_) (fun (b40 : ¬ (if sz = 0 then 1 else 0) = 0) => ?_)
      · refine Go.iconst 68 rfl (1 : Int32) d10_67 rfl ?_
        refine Go.goto 72 d10_68 (by decide) (by decide) ?_
        exact J _ trivial
      · refine Go.aload 59 rfl d10_57 rfl rfl ?_
        have F41 : Fld Z h25 am "java/util/ArrayList" "size" "I" (.int (0 : Int32)) := (((((hSam.keep K2 (ninS nam nin0)).keep K8 (ninS nam nin0)).keep K14 (ninS nam nin0)).keep K20 (ninS nam nin0)).keep K26 (ninS nam nin0))
        have F45 : Exa Z h25 am "java/util/ArrayList" := (((((hEam.keep K2).keep K8).keep K14).keep K20).keep K26)
        refine Go.callF 64 rfl (C := B11) (y := ⟨"java/util/List", "isEmpty", "()Z"⟩) am [] (rest := []) 74 75 76 77 78 79 80 81 35 82 (c11 Z hw h25 am (0 : Int32) F41) F45 d10_59 rfl rfl rfl rfl rfl rfl rfl rfl rfl rfl rfl (by decide) pd11 rfl rfl rfl (W := 0) (Nat.le_of_ble_eq_true rfl) (by decide) (by decide) (by decide) (by decide) fun v42 h43 q44 => ?_
        obtain ⟨rfl, rfl⟩ := q44
        refine Go.if_ne 71 67 d10_64 (by decide) rfl rfl (fun (b46 : ¬ (if (0 : Int32) = 0 then 1 else 0) = 0) => ?_) (fun (b46 : (if (0 : Int32) = 0 then 1 else 0) = 0) => ?_)
        · refine Go.iconst 72 rfl (0 : Int32) d10_71 rfl ?_
          exact J _ trivial
        · refine Go.iconst 68 rfl (1 : Int32) d10_67 rfl ?_
          refine Go.goto 72 d10_68 (by decide) (by decide) ?_
          exact J _ trivial
    · refine Go.istore 74 rfl d10_72 (Ls' := #[.val (.ref a), .val (.ref lb), .val (.ref ex), .val (.ref un), .val (.ref al), .val (.ref am), .val (.int v6), .val (.int v7), .unset, .unset]) rfl ?_
      refine Go.aloadN 75 rfl d10_74 rfl rfl ?_
      have F47 : Fld Z h25 ex "java/util/AbstractList" "modCount" "I" (.int mex) := (((((hMex.keep K2 (ninS nex nin0)).keep K8 (ninS nex nin0)).keep K14 (ninS nex nin0)).keep K20 (ninS nex nin0)).keep K26 (ninS nex nin0))
      refine Go.callF 80 rfl (C := B12) (y := ⟨"java/util/List", "iterator", "()Ljava/util/Iterator;"⟩) ex [] (rest := []) 85 86 87 88 89 90 91 81 35 92 (c12 Z hw h25 ex mex F47) F33 d10_75 rfl rfl rfl rfl rfl rfl rfl rfl rfl rfl rfl (by decide) pd12 rfl rfl rfl (W := 0) (Nat.le_of_ble_eq_true rfl) (by decide) (by decide) (by decide) (by decide) fun v48 h49 q50 => ?_
      obtain ⟨it51, rfl, g52, K53, E54, F55, F56⟩ := q50
      have z57 : Z.heap.size ≤ it51 := Nat.le_trans (Nat.le_trans (Nat.le_trans (Nat.le_trans (Nat.le_trans (Nat.le_trans hle K2.1) K8.1) K14.1) K20.1) K26.1) g52
      refine Go.astore 82 rfl d10_80 rfl (Ls' := #[.val (.ref a), .val (.ref lb), .val (.ref ex), .val (.ref un), .val (.ref al), .val (.ref am), .val (.int v6), .val (.int v7), .val (.ref it51), .unset]) rfl ?_
      refine Go.aload 84 rfl d10_82 rfl rfl ?_
      have F58 : Fld Z h49 ex "java/util/ArrayList" "size" "I" (.int (0 : Int32)) := (F29.keep K53 nin0)
      refine Go.callF 89 rfl (C := B14) (y := ⟨"java/util/Iterator", "hasNext", "()Z"⟩) it51 [] (rest := []) 109 110 111 112 113 114 115 116 95 117 (c14 Z hw h49 it51 ex F55 F56 F58) E54 d10_84 rfl rfl rfl rfl rfl rfl rfl rfl rfl rfl rfl (by decide) pd14 rfl rfl rfl (W := 0) (Nat.le_of_ble_eq_true rfl) (by decide) (by decide) (by decide) (by decide) fun v59 h60 q61 => ?_
      obtain ⟨rfl, rfl⟩ := q61
      refine Go.if_eq 120 92 d10_89 (by decide) rfl rfl (fun (b62 : (0 : Int32) = 0) => ?_) (fun (b62 : ¬ (0 : Int32) = 0) => ?_)
      · refine Go.aloadN 121 rfl d10_120 rfl rfl ?_
        have F63 : Fld Z h49 un "java/util/AbstractList" "modCount" "I" (.int mun) := ((((((hMun.keep K2 (ninS nun nin0)).keep K8 (ninS nun nin0)).keep K14 (ninS nun nin0)).keep K20 (ninS nun nin0)).keep K26 (ninS nun nin0)).keep K53 nin0)
        have F67 : Exa Z h49 un "java/util/ArrayList" := ((((((hEun.keep K2).keep K8).keep K14).keep K20).keep K26).keep K53)
        refine Go.callF 126 rfl (C := B12) (y := ⟨"java/util/List", "iterator", "()Ljava/util/Iterator;"⟩) un [] (rest := []) 85 86 87 88 89 90 91 81 35 92 (c12 Z hw h49 un mun F63) F67 d10_121 rfl rfl rfl rfl rfl rfl rfl rfl rfl rfl rfl (by decide) pd12 rfl rfl rfl (W := 0) (Nat.le_of_ble_eq_true rfl) (by decide) (by decide) (by decide) (by decide) fun v64 h65 q66 => ?_
        obtain ⟨it68, rfl, g69, K70, E71, F72, F73⟩ := q66
        have z74 : Z.heap.size ≤ it68 := Nat.le_trans (Nat.le_trans (Nat.le_trans (Nat.le_trans (Nat.le_trans (Nat.le_trans (Nat.le_trans hle K2.1) K8.1) K14.1) K20.1) K26.1) K53.1) g69
        refine Go.astore 128 rfl d10_126 rfl (Ls' := #[.val (.ref a), .val (.ref lb), .val (.ref ex), .val (.ref un), .val (.ref al), .val (.ref am), .val (.int v6), .val (.int v7), .val (.ref it68), .unset]) rfl ?_
        refine Go.aload 130 rfl d10_128 rfl rfl ?_
        have F75 : Fld Z h65 un "java/util/ArrayList" "size" "I" (.int (0 : Int32)) := (((((((hSun.keep K2 (ninS nun nin0)).keep K8 (ninS nun nin0)).keep K14 (ninS nun nin0)).keep K20 (ninS nun nin0)).keep K26 (ninS nun nin0)).keep K53 nin0).keep K70 nin0)
        refine Go.callF 135 rfl (C := B14) (y := ⟨"java/util/Iterator", "hasNext", "()Z"⟩) it68 [] (rest := []) 109 110 111 112 113 114 115 116 95 117 (c14 Z hw h65 it68 un F72 F73 F75) E71 d10_130 rfl rfl rfl rfl rfl rfl rfl rfl rfl rfl rfl (by decide) pd14 rfl rfl rfl (W := 0) (Nat.le_of_ble_eq_true rfl) (by decide) (by decide) (by decide) (by decide) fun v76 h77 q78 => ?_
        obtain ⟨rfl, rfl⟩ := q78
        refine Go.if_eq 179 138 d10_135 (by decide) rfl rfl (fun (b79 : (0 : Int32) = 0) => ?_) (fun (b79 : ¬ (0 : Int32) = 0) => ?_)
        · refine Go.aloadN 180 rfl d10_179 rfl rfl ?_
          refine Go.iload 182 rfl d10_180 rfl ?_
          have F80 : Fld Z h65 a "com/example/subsumer/subsumer/core/Description" "existentialInside" "Z" (.int (0 : Int32)) := (((Fld.oth hw (Fld.oth hw (Fld.oth hw (Fld.oth hw (Fld.oth hw hF_existentialInside W3 122 65 (Or.inr rfl) (Or.inr rfl) (by decide) rfl rfl) W9 122 67 (Or.inr rfl) (Or.inr rfl) (by decide) rfl rfl) W15 122 69 (Or.inr rfl) (Or.inr rfl) (by decide) rfl rfl) W21 122 71 (Or.inr rfl) (Or.inr rfl) (by decide) rfl rfl) W27 122 73 (Or.inr rfl) (Or.inr rfl) (by decide) rfl rfl).keep K53 nin0).keep K70 nin0)
          have F81 : Exa Z h65 a "com/example/subsumer/subsumer/core/Description" := (((F24.keep K26).keep K53).keep K70)
          refine Go.putF 185 rfl (v' := .int (v6 &&& 1)) (ty := .boolean) 121 122 58 d10_182 rfl F80 F81 (Or.inr ⟨rfl, rfl, rfl⟩) rfl (by decide) rfl (fits_nar_bool v6) hge fun h82 K83 W84 F85 => ?_
          refine Go.aloadN 186 rfl d10_185 rfl rfl ?_
          refine Go.iload 188 rfl d10_186 rfl ?_
          have F86 : Fld Z h82 a "com/example/subsumer/subsumer/core/Description" "numberInside" "Z" (.int (0 : Int32)) := (Fld.oth hw (((Fld.oth hw (Fld.oth hw (Fld.oth hw (Fld.oth hw (Fld.oth hw hF_numberInside W3 124 65 (Or.inr rfl) (Or.inr rfl) (by decide) rfl rfl) W9 124 67 (Or.inr rfl) (Or.inr rfl) (by decide) rfl rfl) W15 124 69 (Or.inr rfl) (Or.inr rfl) (by decide) rfl rfl) W21 124 71 (Or.inr rfl) (Or.inr rfl) (by decide) rfl rfl) W27 124 73 (Or.inr rfl) (Or.inr rfl) (by decide) rfl rfl).keep K53 nin0).keep K70 nin0) W84 124 122 (Or.inr rfl) (Or.inr rfl) (by decide) rfl rfl)
          have F87 : Exa Z h82 a "com/example/subsumer/subsumer/core/Description" := (F81.keep K83)
          refine Go.putF 191 rfl (v' := .int (v7 &&& 1)) (ty := .boolean) 123 124 58 d10_188 rfl F86 F87 (Or.inr ⟨rfl, rfl, rfl⟩) rfl (by decide) rfl (fits_nar_bool v7) hge fun h88 K89 W90 F91 => ?_
          have F92 : Fld Z h88 a "com/example/subsumer/subsumer/core/Description" "label" "Lcom/example/subsumer/subsumer/core/Label;" (.ref lb) := (Fld.oth hw (Fld.oth hw (((Fld.oth hw (Fld.oth hw (Fld.oth hw (Fld.oth hw F4 W9 65 67 (Or.inr rfl) (Or.inr rfl) (by decide) rfl rfl) W15 65 69 (Or.inr rfl) (Or.inr rfl) (by decide) rfl rfl) W21 65 71 (Or.inr rfl) (Or.inr rfl) (by decide) rfl rfl) W27 65 73 (Or.inr rfl) (Or.inr rfl) (by decide) rfl rfl).keep K53 nin0).keep K70 nin0) W84 65 122 (Or.inr rfl) (Or.inr rfl) (by decide) rfl rfl) W90 65 124 (Or.inr rfl) (Or.inr rfl) (by decide) rfl rfl)
          have F93 : Fld Z h88 a "com/example/subsumer/subsumer/core/Description" "existentials" "Ljava/util/List;" (.ref ex) := (Fld.oth hw (Fld.oth hw (((Fld.oth hw (Fld.oth hw (Fld.oth hw F10 W15 67 69 (Or.inr rfl) (Or.inr rfl) (by decide) rfl rfl) W21 67 71 (Or.inr rfl) (Or.inr rfl) (by decide) rfl rfl) W27 67 73 (Or.inr rfl) (Or.inr rfl) (by decide) rfl rfl).keep K53 nin0).keep K70 nin0) W84 67 122 (Or.inr rfl) (Or.inr rfl) (by decide) rfl rfl) W90 67 124 (Or.inr rfl) (Or.inr rfl) (by decide) rfl rfl)
          have F94 : Fld Z h88 a "com/example/subsumer/subsumer/core/Description" "universals" "Ljava/util/List;" (.ref un) := (Fld.oth hw (Fld.oth hw (((Fld.oth hw (Fld.oth hw F16 W21 69 71 (Or.inr rfl) (Or.inr rfl) (by decide) rfl rfl) W27 69 73 (Or.inr rfl) (Or.inr rfl) (by decide) rfl rfl).keep K53 nin0).keep K70 nin0) W84 69 122 (Or.inr rfl) (Or.inr rfl) (by decide) rfl rfl) W90 69 124 (Or.inr rfl) (Or.inr rfl) (by decide) rfl rfl)
          have F95 : Fld Z h88 a "com/example/subsumer/subsumer/core/Description" "atLeast" "Ljava/util/List;" (.ref al) := (Fld.oth hw (Fld.oth hw (((Fld.oth hw F22 W27 71 73 (Or.inr rfl) (Or.inr rfl) (by decide) rfl rfl).keep K53 nin0).keep K70 nin0) W84 71 122 (Or.inr rfl) (Or.inr rfl) (by decide) rfl rfl) W90 71 124 (Or.inr rfl) (Or.inr rfl) (by decide) rfl rfl)
          have F96 : Fld Z h88 a "com/example/subsumer/subsumer/core/Description" "atMost" "Ljava/util/List;" (.ref am) := (Fld.oth hw (Fld.oth hw ((F28.keep K53 nin0).keep K70 nin0) W84 73 122 (Or.inr rfl) (Or.inr rfl) (by decide) rfl rfl) W90 73 124 (Or.inr rfl) (Or.inr rfl) (by decide) rfl rfl)
          have F97 : Fld Z h88 a "com/example/subsumer/subsumer/core/Description" "existentialInside" "Z" (.int (v6 &&& 1)) := (Fld.oth hw F85 W90 122 124 (Or.inr rfl) (Or.inr rfl) (by decide) rfl rfl)
          exact Go.retV d10_191 rfl (by decide) (by decide) ⟨rfl, ((((((((((Keep.refl h0 [a]).trans K2 (by simp)).trans K8 (by simp)).trans K14 (by simp)).trans K20 (by simp)).trans K26 (by simp)).trans K53 all0).trans K70 all0).trans K83 (by simp)).trans K89 (by simp)), F92, F93, F94, F95, F96, _, _, F97, F91⟩
        · exact absurd rfl b79
      · exact absurd rfl b62
theorem d17_0 : decode prog_3_method_3_code 0 = .ok (.getstatic 68, 3) := by decide +kernel
theorem d17_3 : decode prog_3_method_3_code 3 = .ok (.areturn, 1) := by decide +kernel
theorem pd17 : parseMethodDescriptor "()Lcom/example/subsumer/subsumer/core/Description;" = some ⟨[], some (.object "com/example/subsumer/subsumer/core/Description")⟩ := by decide +kernel
theorem pn17 : plainFor (⟨"com/example/subsumer/subsumer/core/Description", "top", "()Lcom/example/subsumer/subsumer/core/Description;"⟩ : MethodName) = true := by first | (refine plainFor_of_name ?_; simp [plainName, overriddenIn]; done) | (refine plainFor_of_name ?_; decide +kernel) | decide +kernel
abbrev B17 : Bd := ((⟨"com/example/subsumer/subsumer/core/Description", "top", "()Lcom/example/subsumer/subsumer/core/Description;"⟩ : MethodName), prog_3_method_3_code, 0, (some (.object "com/example/subsumer/subsumer/core/Description")), ({ frames := 0, cells := 0, slots := 0, locals := 0 } : Room), tables_1)
theorem ef17 (mid : MethodId)  : entryFrame mid (List.toArray []) 0 = mkF mid 0 #[] [] := by first | (simp [entryFrame, mkF, argsToLocals, Value.category]; done) | rfl
def Q17 (top : Addr) (h0 : Heap) (v : Option Value) (h : Heap) : Prop := v = some (.ref top) ∧ h0 = h
set_option maxRecDepth 65536 in
set_option maxHeartbeats 40000000 in
theorem c17 (Z : State) (hw : Wd Z tables_1) (h0 : Heap)  (top : Addr) (el : Addr) (ea : Addr) (em : Addr) (bot : Addr) (lem : Addr) (non : Addr) (hv : Ev0 Z el ea em top bot lem non) : Con Z B17 (List.toArray []) h0 (Q17 top h0) := by
  refine Con.mk hw pn17 (fun mid => ef17 mid ) (Go.old fun hle' => ?_)
  have hle := hle'.1
  obtain ⟨hSel, hSem, hStop, hSbot, hSlem, hSnon, hEel, hFel, hAea, hEtop, hTl, hTe, hTu, hTa, hTm, hEbot, hnbt, hElem, hLn, hLg, hAnon⟩ := id hv
  refine Go.getS 3 rfl (v := .ref top) 138 d17_0 rfl hStop ?_
  exact Go.retA d17_3 rfl rfl rfl (by decide) (by decide) ⟨rfl, rfl⟩
theorem d16_0 : decode prog_3_method_4_code 0 = .ok (.getstatic 72, 3) := by decide +kernel
theorem d16_3 : decode prog_3_method_4_code 3 = .ok (.areturn, 1) := by decide +kernel
theorem pd16 : parseMethodDescriptor "()Lcom/example/subsumer/subsumer/core/Description;" = some ⟨[], some (.object "com/example/subsumer/subsumer/core/Description")⟩ := by decide +kernel
theorem pn16 : plainFor (⟨"com/example/subsumer/subsumer/core/Description", "bottom", "()Lcom/example/subsumer/subsumer/core/Description;"⟩ : MethodName) = true := by first | (refine plainFor_of_name ?_; simp [plainName, overriddenIn]; done) | (refine plainFor_of_name ?_; decide +kernel) | decide +kernel
abbrev B16 : Bd := ((⟨"com/example/subsumer/subsumer/core/Description", "bottom", "()Lcom/example/subsumer/subsumer/core/Description;"⟩ : MethodName), prog_3_method_4_code, 0, (some (.object "com/example/subsumer/subsumer/core/Description")), ({ frames := 0, cells := 0, slots := 0, locals := 0 } : Room), tables_1)
theorem ef16 (mid : MethodId)  : entryFrame mid (List.toArray []) 0 = mkF mid 0 #[] [] := by first | (simp [entryFrame, mkF, argsToLocals, Value.category]; done) | rfl
def Q16 (bot : Addr) (h0 : Heap) (v : Option Value) (h : Heap) : Prop := v = some (.ref bot) ∧ h0 = h
set_option maxRecDepth 65536 in
set_option maxHeartbeats 40000000 in
theorem c16 (Z : State) (hw : Wd Z tables_1) (h0 : Heap)  (bot : Addr) (el : Addr) (ea : Addr) (em : Addr) (top : Addr) (lem : Addr) (non : Addr) (hv : Ev0 Z el ea em top bot lem non) : Con Z B16 (List.toArray []) h0 (Q16 bot h0) := by
  refine Con.mk hw pn16 (fun mid => ef16 mid ) (Go.old fun hle' => ?_)
  have hle := hle'.1
  obtain ⟨hSel, hSem, hStop, hSbot, hSlem, hSnon, hEel, hFel, hAea, hEtop, hTl, hTe, hTu, hTa, hTm, hEbot, hnbt, hElem, hLn, hLg, hAnon⟩ := id hv
  refine Go.getS 3 rfl (v := .ref bot) 130 d16_0 rfl hSbot ?_
  exact Go.retA d16_3 rfl rfl rfl (by decide) (by decide) ⟨rfl, rfl⟩
theorem ef18b (mid : MethodId) (p : Addr) (bot : Addr) : entryFrame mid (List.toArray [.ref p, .ref bot]) 2 = mkF mid 0 #[.val (.ref p), .val (.ref bot)] [] := by first | (simp [entryFrame, mkF, argsToLocals, Value.category]; done) | rfl
def Q18b (bot : Addr) (h0 : Heap) (v : Option Value) (h : Heap) : Prop := v = some (.ref bot) ∧ h0 = h
set_option maxRecDepth 65536 in
set_option maxHeartbeats 40000000 in
theorem c18b (Z : State) (hw : Wd Z tables_1) (h0 : Heap) (p : Addr) (bot : Addr)  (el : Addr) (ea : Addr) (em : Addr) (top : Addr) (lem : Addr) (non : Addr) (hv : Ev0 Z el ea em top bot lem non) : Con Z B18 (List.toArray [.ref p, .ref bot]) h0 (Q18b bot h0) := by
  refine Con.mk hw pn18 (fun mid => ef18b mid p bot) (Go.old fun hle' => ?_)
  have hle := hle'.1
  obtain ⟨hSel, hSem, hStop, hSbot, hSlem, hSnon, hEel, hFel, hAea, hEtop, hTl, hTe, hTu, hTa, hTm, hEbot, hnbt, hElem, hLn, hLg, hAnon⟩ := id hv
  refine Go.old fun x1 => ?_
  refine Go.aloadN 1 rfl d18_0 rfl rfl ?_
  refine Go.callV 4 rfl (C := B15) bot [] (rest := []) 143 126 128 127 59 129 (c15 Z hw h0 bot bot el ea em top lem non hv) (hEbot.ext x1) d18_1 rfl rfl rfl rfl rfl rfl (by decide) pd15 rfl rfl rfl (W := 0) (Nat.le_of_ble_eq_true rfl) (by decide) (by decide) (by decide) (by decide) fun v2 h3 q4 => ?_
  obtain ⟨rfl, rfl⟩ := q4
  refine Go.eqI (w := 1) (if_pos rfl) ?_
  refine Go.if_eq 13 7 d18_4 (by decide) rfl rfl (fun (b5 : (1 : Int32) = 0) => ?_) (fun (b5 : ¬ (1 : Int32) = 0) => ?_)
  · exact absurd b5 (by decide)
  · refine Go.getS 10 rfl (v := .ref bot) 130 d18_7 rfl hSbot ?_
    refine Go.goto 38 d18_10 (by decide) (by decide) ?_
    exact Go.retA d18_38 rfl rfl rfl (by decide) (by decide) ⟨rfl, rfl⟩
theorem pn0 : plainFor (⟨"com/example/subsumer/subsumer/core/DescriptionIsBottomPinLaw", "law", "(III)Z"⟩ : MethodName) = true := by first | (refine plainFor_of_name ?_; simp [plainName, overriddenIn]; done) | (refine plainFor_of_name ?_; decide +kernel) | decide +kernel
abbrev B0 : Bd := (x, code, maxLocals, ret, room_1, tables_1)
theorem ef0 (mid : MethodId) (p1 : Int32) (p2 : Int32) (p3 : Int32) : entryFrame mid (List.toArray [.int p1, .int p2, .int p3]) maxLocals = mkF mid 0 #[.val (.int p1), .val (.int p2), .val (.int p3), .unset, .unset, .unset, .unset, .unset, .unset, .unset, .unset, .unset, .unset, .unset, .unset] [] := by first | (simp [entryFrame, mkF, argsToLocals, Value.category, maxLocals]; done) | rfl
def Q0  (v : Option Value) (h : Heap) : Prop := v = some (.int 1)
set_option maxRecDepth 65536 in
set_option maxHeartbeats 40000000 in
theorem c0 (Z : State) (hw : Wd Z tables_1) (h0 : Heap) (p1 : Int32) (p2 : Int32) (p3 : Int32)  (el : Addr) (ea : Addr) (em : Addr) (top : Addr) (bot : Addr) (lem : Addr) (non : Addr) (hv : Ev0 Z el ea em top bot lem non) (cs : Int32) (hS : Sta Z Z.heap "java/lang/String" "COMPACT_STRINGS" "Z" (.int cs)) (hcs : ¬ cs = 0) (da : Addr) (hSda : Sta Z Z.heap "java/util/ArrayList" "DEFAULTCAPACITY_EMPTY_ELEMENTDATA" "[Ljava/lang/Object;" (.ref da)) (hAda : Ary Z Z.heap da (.object "java/lang/Object") []) : Con Z B0 (List.toArray [.int p1, .int p2, .int p3]) h0 (Q0 ) := by
  refine Con.mk hw pn0 (fun mid => ef0 mid p1 p2 p3) (Go.old fun hle' => ?_)
  have hle := hle'.1
  obtain ⟨hSel, hSem, hStop, hSbot, hSlem, hSnon, hEel, hFel, hAea, hEtop, hTl, hTe, hTu, hTa, hTm, hEbot, hnbt, hElem, hLn, hLg, hAnon⟩ := id hv
  refine Go.iconst 1 rfl (1 : Int32) at_0 rfl ?_
  refine Go.newA 3 rfl 0 1 1 at_1 rfl rfl (by decide) (by decide) (by decide) (by decide) fun h2 a1 g3 z4 K5 A6 E7 => ?_
  have A8 : Ary Z h2 a1 .char [.int 0] := A6
  refine Go.dup 4 rfl at_3 rfl ?_
  refine Go.iconst 5 rfl (0 : Int32) at_4 rfl ?_
  refine Go.iloadN 6 rfl at_5 rfl ?_
  refine Go.sipush 9 rfl (255 : Int32) at_6 rfl ?_
  refine Go.iand 10 rfl at_9 ?_
  refine Go.i2c 11 rfl at_10 ?_
  refine Go.nameI fun v9 hv9 => ?_
  refine Go.stC 12 rfl at_11 A8 0 rfl (Nat.le_of_ble_eq_true rfl) z4 fun h10 K11 A12 => ?_
  have A13 : Ary Z h10 a1 .char [.int (nar .char v9)] := A12
  refine Go.astoreN 13 rfl at_12 rfl (Ls' := #[.val (.int p1), .val (.int p2), .val (.int p3), .val (.ref a1), .unset, .unset, .unset, .unset, .unset, .unset, .unset, .unset, .unset, .unset, .unset]) rfl ?_
  refine Go.newO 16 rfl 1 2 3 at_13 rfl rfl rfl (by decide) (by decide) fun h15 a14 g16 z17 K18 E19 D20 => ?_
  refine Go.dup 17 rfl at_16 rfl ?_
  refine Go.aloadN 18 rfl at_17 rfl rfl ?_
  have F21 : Ary Z h15 a1 .char [.int (nar .char v9)] := (A13.keep K18 nin0)
  refine Go.callI 21 rfl (C := B1) a14 [.ref a1] (rest := [.ref a14]) 4 5 3 6 (c1 Z hw h15 a14 a1 (nar .char v9) cs hS hcs z17 E19 (D20 29 (Or.inr rfl) (ty := (.array .byte)) (by decide) : Fld Z h15 a14 "java/lang/String" "value" "[B" (.null)) (D20 27 (Or.inr rfl) (ty := .byte) (by decide) : Fld Z h15 a14 "java/lang/String" "coder" "B" (.int (0 : Int32))) F21 (own_c1 hv9)) at_18 rfl rfl rfl rfl rfl rfl (by decide) pd1 rfl rfl rfl (W := 1) (Nat.le_of_ble_eq_true rfl) (by decide) (by decide) (by decide) (by decide) fun v22 h23 q24 => ?_
  obtain ⟨rfl, t25, g26, K27, F28, F29, A30⟩ := q24
  have z31 : Z.heap.size ≤ t25 := Nat.le_trans (Nat.le_trans (Nat.le_trans (Nat.le_trans hle K5.1) K11.1) K18.1) g26
  refine Go.astore 23 rfl at_21 rfl (Ls' := #[.val (.int p1), .val (.int p2), .val (.int p3), .val (.ref a1), .val (.ref a14), .unset, .unset, .unset, .unset, .unset, .unset, .unset, .unset, .unset, .unset]) rfl ?_
  refine Go.iloadN 24 rfl at_23 rfl ?_
  refine Go.iconst 25 rfl (3 : Int32) at_24 rfl ?_
  refine Go.iand 26 rfl at_25 ?_
  refine Go.nameI fun v32 hv32 => ?_
  refine Go.istore 28 rfl at_26 (Ls' := #[.val (.int p1), .val (.int p2), .val (.int p3), .val (.ref a1), .val (.ref a14), .val (.int v32), .unset, .unset, .unset, .unset, .unset, .unset, .unset, .unset, .unset]) rfl ?_
  refine Go.iload 30 rfl at_28 rfl ?_
  refine cut (∀ (hL : Heap) (lb : Addr), Keep h23 hL [] → Exa Z hL lb "com/example/subsumer/subsumer/core/Label" → Go Q0 Z B0 6 10 hL 130 #[.val (.int p1), .val (.int p2), .val (.int p3), .val (.ref a1), .val (.ref a14), .val (.int v32), .val (.ref lb), .unset, .unset, .unset, .unset, .unset, .unset, .unset, .unset] []) (fun J => ?_) (fun hL lb KL EL => ?_)
  · refine Go.if_ne 41 33 at_30 (by decide) rfl rfl (fun (b33 : ¬ v32 = 0) => ?_) (fun (b33 : v32 = 0) => ?_)
    · refine Go.iload 43 rfl at_41 rfl ?_
      refine Go.iconst 44 rfl (1 : Int32) at_43 rfl ?_
      refine Go.icmp_ne 72 47 at_44 (by decide) rfl rfl (fun (b35 : ¬ v32 = (1 : Int32)) => ?_) (fun (b35 : v32 = (1 : Int32)) => ?_)
      · refine Go.iload 74 rfl at_72 rfl ?_
        refine Go.iconst 75 rfl (2 : Int32) at_74 rfl ?_
        refine Go.icmp_ne 103 78 at_75 (by decide) rfl rfl (fun (b77 : ¬ v32 = (2 : Int32)) => ?_) (fun (b77 : v32 = (2 : Int32)) => ?_)
        · refine Go.newO 106 rfl 280 281 31 at_103 rfl rfl rfl (by decide) (by decide) fun h120 a119 g121 z122 K123 E124 D125 => ?_
          refine Go.dup 107 rfl at_106 rfl ?_
          refine Go.iconst 108 rfl (1 : Int32) at_107 rfl ?_
          refine Go.newR 111 rfl 1 282 1 1 at_108 rfl rfl rfl (by decide) (by decide) (by decide) (by decide) fun h127 a126 g128 z129 K130 A131 E132 O133 => ?_
          have A134 : Ary Z h127 a126 (.object "java/lang/String") [.null] := A131
          refine Go.dup 112 rfl at_111 rfl ?_
          refine Go.iconst 113 rfl (0 : Int32) at_112 rfl ?_
          refine Go.aload 115 rfl at_113 rfl rfl ?_
          have F135 : Exa Z h127 a14 "java/lang/String" := (((E19.keep K27).keep K123).keep K130)
          refine Go.stR 116 rfl at_115 A134 O133 (Ins.self F135) 0 rfl (Nat.le_of_ble_eq_true rfl) z129 fun h136 K137 A138 => ?_
          have A139 : Ary Z h136 a126 (.object "java/lang/String") [.ref a14] := A138
          refine Go.iconst 117 rfl (1 : Int32) at_116 rfl ?_
          refine Go.newR 120 rfl 1 282 1 1 at_117 rfl rfl rfl (by decide) (by decide) (by decide) (by decide) fun h141 a140 g142 z143 K144 A145 E146 O147 => ?_
          have A148 : Ary Z h141 a140 (.object "java/lang/String") [.null] := A145
          refine Go.dup 121 rfl at_120 rfl ?_
          refine Go.iconst 122 rfl (0 : Int32) at_121 rfl ?_
          refine Go.aload 124 rfl at_122 rfl rfl ?_
          have F149 : Exa Z h141 a14 "java/lang/String" := ((F135.keep K137).keep K144)
          refine Go.stR 125 rfl at_124 A148 O147 (Ins.self F149) 0 rfl (Nat.le_of_ble_eq_true rfl) z143 fun h150 K151 A152 => ?_
          have A153 : Ary Z h150 a140 (.object "java/lang/String") [.ref a14] := A152
          have F154 : Exa Z h150 a119 "com/example/subsumer/subsumer/core/Label" := ((((E124.keep K130).keep K137).keep K144).keep K151)
          have ne155 : a119 ≠ a126 := (show @Ne Nat a119 a126 from by have := ltN E124.lt; have := g128; omega)
          have ne156 : a119 ≠ a140 := (show @Ne Nat a119 a140 from by have := ltN E124.lt; have := K130.1; have := K137.1; have := g142; omega)
          have F157 : Fld Z h150 a119 "com/example/subsumer/subsumer/core/Label" "names" "[Ljava/lang/String;" (.null) := (((((D125 288 (Or.inr rfl) (ty := (.array (.object "java/lang/String"))) (by decide) : Fld Z h120 a119 "com/example/subsumer/subsumer/core/Label" "names" "[Ljava/lang/String;" (.null)).keep K130 nin0).keep K137 (ninS ne155 nin0)).keep K144 nin0).keep K151 (ninS ne156 nin0))
          have F158 : Fld Z h150 a119 "com/example/subsumer/subsumer/core/Label" "negated" "[Ljava/lang/String;" (.null) := (((((D125 290 (Or.inr rfl) (ty := (.array (.object "java/lang/String"))) (by decide) : Fld Z h120 a119 "com/example/subsumer/subsumer/core/Label" "negated" "[Ljava/lang/String;" (.null)).keep K130 nin0).keep K137 (ninS ne155 nin0)).keep K144 nin0).keep K151 (ninS ne156 nin0))
          refine Go.callI 128 rfl (C := B37) a119 [.ref a126, .ref a140] (rest := [.ref a119]) 283 284 31 285 (c37 Z hw h150 a119 a126 a140 z122 F154 F157 F158) at_125 rfl rfl rfl rfl rfl rfl (by decide) pd37 rfl rfl rfl (W := 1) (Nat.le_of_ble_eq_true rfl) (by decide) (by decide) (by decide) (by decide) fun v159 h160 q161 => ?_
          obtain ⟨rfl, K162, F163, F164⟩ := q161
          refine Go.astore 130 rfl at_128 rfl (Ls' := #[.val (.int p1), .val (.int p2), .val (.int p3), .val (.ref a1), .val (.ref a14), .val (.int v32), .val (.ref a119), .unset, .unset, .unset, .unset, .unset, .unset, .unset, .unset]) rfl ?_
          have F165 : Exa Z h160 a119 "com/example/subsumer/subsumer/core/Label" := (F154.keep K162)
          exact J _ _ (((((((Keep.refl h23 []).trans K123 all0).trans K130 all0).trans K137 (allS (Or.inr (by have := K123.1; have := K130.1; have := g128; omega)) all0)).trans K144 all0).trans K151 (allS (Or.inr (by have := K123.1; have := K130.1; have := K137.1; have := K144.1; have := g142; omega)) all0)).trans K162 (allS (Or.inr (by have := K123.1; have := K130.1; have := K137.1; have := K144.1; have := K151.1; have := g121; omega)) all0)) F165
        · refine Go.newO 81 rfl 280 281 31 at_78 rfl rfl rfl (by decide) (by decide) fun h79 a78 g80 z81 K82 E83 D84 => ?_
          refine Go.dup 82 rfl at_81 rfl ?_
          refine Go.iconst 83 rfl (0 : Int32) at_82 rfl ?_
          refine Go.newR 86 rfl 1 282 0 0 at_83 rfl rfl rfl (by decide) (by decide) (by decide) (by decide) fun h86 a85 g87 z88 K89 A90 E91 O92 => ?_
          have A93 : Ary Z h86 a85 (.object "java/lang/String") [] := A90
          refine Go.iconst 87 rfl (1 : Int32) at_86 rfl ?_
          refine Go.newR 90 rfl 1 282 1 1 at_87 rfl rfl rfl (by decide) (by decide) (by decide) (by decide) fun h95 a94 g96 z97 K98 A99 E100 O101 => ?_
          have A102 : Ary Z h95 a94 (.object "java/lang/String") [.null] := A99
          refine Go.dup 91 rfl at_90 rfl ?_
          refine Go.iconst 92 rfl (0 : Int32) at_91 rfl ?_
          refine Go.aload 94 rfl at_92 rfl rfl ?_
          have F103 : Exa Z h95 a14 "java/lang/String" := ((((E19.keep K27).keep K82).keep K89).keep K98)
          refine Go.stR 95 rfl at_94 A102 O101 (Ins.self F103) 0 rfl (Nat.le_of_ble_eq_true rfl) z97 fun h104 K105 A106 => ?_
          have A107 : Ary Z h104 a94 (.object "java/lang/String") [.ref a14] := A106
          have F108 : Exa Z h104 a78 "com/example/subsumer/subsumer/core/Label" := (((E83.keep K89).keep K98).keep K105)
          have ne109 : a78 ≠ a94 := (show @Ne Nat a78 a94 from by have := ltN E83.lt; have := K89.1; have := g96; omega)
          have F110 : Fld Z h104 a78 "com/example/subsumer/subsumer/core/Label" "names" "[Ljava/lang/String;" (.null) := ((((D84 288 (Or.inr rfl) (ty := (.array (.object "java/lang/String"))) (by decide) : Fld Z h79 a78 "com/example/subsumer/subsumer/core/Label" "names" "[Ljava/lang/String;" (.null)).keep K89 nin0).keep K98 nin0).keep K105 (ninS ne109 nin0))
          have F111 : Fld Z h104 a78 "com/example/subsumer/subsumer/core/Label" "negated" "[Ljava/lang/String;" (.null) := ((((D84 290 (Or.inr rfl) (ty := (.array (.object "java/lang/String"))) (by decide) : Fld Z h79 a78 "com/example/subsumer/subsumer/core/Label" "negated" "[Ljava/lang/String;" (.null)).keep K89 nin0).keep K98 nin0).keep K105 (ninS ne109 nin0))
          refine Go.callI 98 rfl (C := B37) a78 [.ref a85, .ref a94] (rest := [.ref a78]) 283 284 31 285 (c37 Z hw h104 a78 a85 a94 z81 F108 F110 F111) at_95 rfl rfl rfl rfl rfl rfl (by decide) pd37 rfl rfl rfl (W := 1) (Nat.le_of_ble_eq_true rfl) (by decide) (by decide) (by decide) (by decide) fun v112 h113 q114 => ?_
          obtain ⟨rfl, K115, F116, F117⟩ := q114
          refine Go.astore 100 rfl at_98 rfl (Ls' := #[.val (.int p1), .val (.int p2), .val (.int p3), .val (.ref a1), .val (.ref a14), .val (.int v32), .val (.ref a78), .unset, .unset, .unset, .unset, .unset, .unset, .unset, .unset]) rfl ?_
          refine Go.goto 130 at_100 (by decide) (by decide) ?_
          refine Go.more (k' := 6) (n' := 10) (by decide) (by decide) ?_
          have F118 : Exa Z h113 a78 "com/example/subsumer/subsumer/core/Label" := (F108.keep K115)
          exact J _ _ ((((((Keep.refl h23 []).trans K82 all0).trans K89 all0).trans K98 all0).trans K105 (allS (Or.inr (by have := K82.1; have := K89.1; have := K98.1; have := g96; omega)) all0)).trans K115 (allS (Or.inr (by have := K82.1; have := K89.1; have := K98.1; have := K105.1; have := g80; omega)) all0)) F118
      · refine Go.newO 50 rfl 280 281 31 at_47 rfl rfl rfl (by decide) (by decide) fun h37 a36 g38 z39 K40 E41 D42 => ?_
        refine Go.dup 51 rfl at_50 rfl ?_
        refine Go.iconst 52 rfl (1 : Int32) at_51 rfl ?_
        refine Go.newR 55 rfl 1 282 1 1 at_52 rfl rfl rfl (by decide) (by decide) (by decide) (by decide) fun h44 a43 g45 z46 K47 A48 E49 O50 => ?_
        have A51 : Ary Z h44 a43 (.object "java/lang/String") [.null] := A48
        refine Go.dup 56 rfl at_55 rfl ?_
        refine Go.iconst 57 rfl (0 : Int32) at_56 rfl ?_
        refine Go.aload 59 rfl at_57 rfl rfl ?_
        have F52 : Exa Z h44 a14 "java/lang/String" := (((E19.keep K27).keep K40).keep K47)
        refine Go.stR 60 rfl at_59 A51 O50 (Ins.self F52) 0 rfl (Nat.le_of_ble_eq_true rfl) z46 fun h53 K54 A55 => ?_
        have A56 : Ary Z h53 a43 (.object "java/lang/String") [.ref a14] := A55
        refine Go.iconst 61 rfl (0 : Int32) at_60 rfl ?_
        refine Go.newR 64 rfl 1 282 0 0 at_61 rfl rfl rfl (by decide) (by decide) (by decide) (by decide) fun h58 a57 g59 z60 K61 A62 E63 O64 => ?_
        have A65 : Ary Z h58 a57 (.object "java/lang/String") [] := A62
        have F66 : Exa Z h58 a36 "com/example/subsumer/subsumer/core/Label" := (((E41.keep K47).keep K54).keep K61)
        have ne67 : a36 ≠ a43 := (show @Ne Nat a36 a43 from by have := ltN E41.lt; have := g45; omega)
        have F68 : Fld Z h58 a36 "com/example/subsumer/subsumer/core/Label" "names" "[Ljava/lang/String;" (.null) := ((((D42 288 (Or.inr rfl) (ty := (.array (.object "java/lang/String"))) (by decide) : Fld Z h37 a36 "com/example/subsumer/subsumer/core/Label" "names" "[Ljava/lang/String;" (.null)).keep K47 nin0).keep K54 (ninS ne67 nin0)).keep K61 nin0)
        have F69 : Fld Z h58 a36 "com/example/subsumer/subsumer/core/Label" "negated" "[Ljava/lang/String;" (.null) := ((((D42 290 (Or.inr rfl) (ty := (.array (.object "java/lang/String"))) (by decide) : Fld Z h37 a36 "com/example/subsumer/subsumer/core/Label" "negated" "[Ljava/lang/String;" (.null)).keep K47 nin0).keep K54 (ninS ne67 nin0)).keep K61 nin0)
        refine Go.callI 67 rfl (C := B37) a36 [.ref a43, .ref a57] (rest := [.ref a36]) 283 284 31 285 (c37 Z hw h58 a36 a43 a57 z39 F66 F68 F69) at_64 rfl rfl rfl rfl rfl rfl (by decide) pd37 rfl rfl rfl (W := 1) (Nat.le_of_ble_eq_true rfl) (by decide) (by decide) (by decide) (by decide) fun v70 h71 q72 => ?_
        obtain ⟨rfl, K73, F74, F75⟩ := q72
        refine Go.astore 69 rfl at_67 rfl (Ls' := #[.val (.int p1), .val (.int p2), .val (.int p3), .val (.ref a1), .val (.ref a14), .val (.int v32), .val (.ref a36), .unset, .unset, .unset, .unset, .unset, .unset, .unset, .unset]) rfl ?_
        refine Go.goto 130 at_69 (by decide) (by decide) ?_
        refine Go.more (k' := 6) (n' := 10) (by decide) (by decide) ?_
        have F76 : Exa Z h71 a36 "com/example/subsumer/subsumer/core/Label" := (F66.keep K73)
        exact J _ _ ((((((Keep.refl h23 []).trans K40 all0).trans K47 all0).trans K54 (allS (Or.inr (by have := K40.1; have := K47.1; have := g45; omega)) all0)).trans K61 all0).trans K73 (allS (Or.inr (by have := K40.1; have := K47.1; have := K54.1; have := K61.1; have := g38; omega)) all0)) F76
    · refine Go.old fun x34 => ?_
      refine Go.getS 36 rfl (v := .ref lem) 30 at_33 rfl hSlem ?_
      refine Go.astore 38 rfl at_36 rfl (Ls' := #[.val (.int p1), .val (.int p2), .val (.int p3), .val (.ref a1), .val (.ref a14), .val (.int v32), .val (.ref lem), .unset, .unset, .unset, .unset, .unset, .unset, .unset, .unset]) rfl ?_
      refine Go.goto 130 at_38 (by decide) (by decide) ?_
      refine Go.more (k' := 6) (n' := 10) (by decide) (by decide) ?_
      exact J _ _ (Keep.refl h23 []) (hElem.ext x34)
  · refine Go.newO 133 rfl 33 34 35 at_130 rfl rfl rfl (by decide) (by decide) fun h167 a166 g168 z169 K170 E171 D172 => ?_
    refine Go.dup 134 rfl at_133 rfl ?_
    refine Go.callI 137 rfl (C := B7) a166 [] (rest := [.ref a166]) 36 37 35 38 (c7 Z hw h167 a166 da hSda hAda z169 E171 (D172 53 (Or.inl rfl) (ty := .int) (by decide) : Fld Z h167 a166 "java/util/AbstractList" "modCount" "I" (.int (0 : Int32))) (D172 56 (Or.inl rfl) (ty := (.array (.object "java/lang/Object"))) (by decide) : Fld Z h167 a166 "java/util/ArrayList" "elementData" "[Ljava/lang/Object;" (.null)) (D172 84 (Or.inl rfl) (ty := .int) (by decide) : Fld Z h167 a166 "java/util/ArrayList" "size" "I" (.int (0 : Int32)))) at_134 rfl rfl rfl rfl rfl rfl (by decide) pd7 rfl rfl rfl (W := 1) (Nat.le_of_ble_eq_true rfl) (by decide) (by decide) (by decide) (by decide) fun v173 h174 q175 => ?_
    obtain ⟨rfl, K176, F177, F178, F179⟩ := q175
    refine Go.astore 139 rfl at_137 rfl (Ls' := #[.val (.int p1), .val (.int p2), .val (.int p3), .val (.ref a1), .val (.ref a14), .val (.int v32), .val (.ref lb), .val (.ref a166), .unset, .unset, .unset, .unset, .unset, .unset, .unset]) rfl ?_
    refine Go.iloadN 140 rfl at_139 rfl ?_
    refine Go.iconst 141 rfl (4 : Int32) at_140 rfl ?_
    refine Go.iand 142 rfl at_141 ?_
    refine cut (∀ (hA : Heap) (sz : Int32), Keep h174 hA [a166] → Fld Z hA a166 "java/util/ArrayList" "size" "I" (.int sz) → Go Q0 Z B0 9 25 hA 161 #[.val (.int p1), .val (.int p2), .val (.int p3), .val (.ref a1), .val (.ref a14), .val (.int v32), .val (.ref lb), .val (.ref a166), .unset, .unset, .unset, .unset, .unset, .unset, .unset] []) (fun J => ?_) (fun hA sz KA FA => ?_)
    · refine Go.if_eq 161 145 at_142 (by decide) rfl rfl (fun (b180 : (p1 &&& (4 : Int32)) = 0) => ?_) (fun (b180 : ¬ (p1 &&& (4 : Int32)) = 0) => ?_)
      · refine Go.more (k' := 9) (n' := 25) (by decide) (by decide) ?_
        exact J _ _ (Keep.refl _ _) F179
      · refine Go.aload 147 rfl at_145 rfl rfl ?_
        refine Go.newO 150 rfl 291 292 293 at_147 rfl rfl rfl (by decide) (by decide) fun h182 a181 g183 z184 K185 E186 D187 => ?_
        refine Go.dup 151 rfl at_150 rfl ?_
        refine Go.aload 153 rfl at_151 rfl rfl ?_
        refine Go.iloadN 154 rfl at_153 rfl ?_
        refine Go.callI 157 rfl (C := B38) a181 [.ref a14, .int p3] (rest := [.ref a181, .ref a166]) 294 295 293 296 (c38 Z hw h182 a181 a14 p3 z184 E186 (D187 299 (Or.inr rfl) (ty := (.object "java/lang/String")) (by decide) : Fld Z h182 a181 "com/example/subsumer/subsumer/core/AtLeast" "property" "Ljava/lang/String;" (.null)) (D187 301 (Or.inr rfl) (ty := .int) (by decide) : Fld Z h182 a181 "com/example/subsumer/subsumer/core/AtLeast" "number" "I" (.int (0 : Int32)))) at_154 rfl rfl rfl rfl rfl rfl (by decide) pd38 rfl rfl rfl (W := 2) (Nat.le_of_ble_eq_true rfl) (by decide) (by decide) (by decide) (by decide) fun v188 h189 q190 => ?_
        obtain ⟨rfl, K191, F192, F193⟩ := q190
        have F195 : Exa Z h189 a181 "com/example/subsumer/subsumer/core/AtLeast" := (E186.keep K191)
        have I194 : Ins Z h189 a181 "java/lang/Object" true := own_ins hw 329 rfl F195
        have F196 : Exa Z h189 a166 "java/util/ArrayList" := (((E171.keep K176).keep K185).keep K191)
        have ne197 : a166 ≠ a181 := (show @Ne Nat a166 a181 from by have := ltN F177.lt; have := g183; omega)
        have F198 : Fld Z h189 a166 "java/util/ArrayList" "elementData" "[Ljava/lang/Object;" (.ref da) := ((F178.keep K185 nin0).keep K191 (ninS ne197 nin0))
        have F199 : Fld Z h189 a166 "java/util/ArrayList" "size" "I" (.int (0 : Int32)) := ((F179.keep K185 nin0).keep K191 (ninS ne197 nin0))
        have F200 : Fld Z h189 a166 "java/util/AbstractList" "modCount" "I" (.int (0 : Int32)) := ((F177.keep K185 nin0).keep K191 (ninS ne197 nin0))
        refine Go.callV 160 rfl (C := B39) a166 [.ref a181] (rest := []) 302 303 305 304 35 306 (c39 Z hw h189 a166 a181 da hSda hAda z169 F196 F198 F199 (0 : Int32) F200 I194) F196 at_157 rfl rfl rfl rfl rfl rfl (by decide) pd39 rfl rfl rfl (W := 0) (Nat.le_of_ble_eq_true rfl) (by decide) (by decide) (by decide) (by decide) fun v201 h202 q203 => ?_
        obtain ⟨rfl, KB, FB⟩ := q203
        refine Go.pop 161 rfl at_160 rfl ?_
        exact J _ _ ((((Keep.refl h174 [a166]).trans K185 all0).trans K191 (allS (Or.inr (by have := K185.1; have := g183; omega)) all0)).trans KB (by simp)) FB
    · refine Go.newO 164 rfl 57 58 59 at_161 rfl rfl rfl (by decide) (by decide) fun h205 a204 g206 z207 K208 E209 D210 => ?_
      refine Go.dup 165 rfl at_164 rfl ?_
      refine Go.aload 167 rfl at_165 rfl rfl ?_
      refine Go.newO 170 rfl 33 34 35 at_167 rfl rfl rfl (by decide) (by decide) fun h212 a211 g213 z214 K215 E216 D217 => ?_
      refine Go.dup 171 rfl at_170 rfl ?_
      refine Go.callI 174 rfl (C := B7) a211 [] (rest := [.ref a211, .ref lb, .ref a204, .ref a204]) 36 37 35 38 (c7 Z hw h212 a211 da hSda hAda z214 E216 (D217 53 (Or.inl rfl) (ty := .int) (by decide) : Fld Z h212 a211 "java/util/AbstractList" "modCount" "I" (.int (0 : Int32))) (D217 56 (Or.inl rfl) (ty := (.array (.object "java/lang/Object"))) (by decide) : Fld Z h212 a211 "java/util/ArrayList" "elementData" "[Ljava/lang/Object;" (.null)) (D217 84 (Or.inl rfl) (ty := .int) (by decide) : Fld Z h212 a211 "java/util/ArrayList" "size" "I" (.int (0 : Int32)))) at_171 rfl rfl rfl rfl rfl rfl (by decide) pd7 rfl rfl rfl (W := 4) (Nat.le_of_ble_eq_true rfl) (by decide) (by decide) (by decide) (by decide) fun v218 h219 q220 => ?_
      obtain ⟨rfl, K221, F222, F223, F224⟩ := q220
      refine Go.newO 177 rfl 33 34 35 at_174 rfl rfl rfl (by decide) (by decide) fun h226 a225 g227 z228 K229 E230 D231 => ?_
      refine Go.dup 178 rfl at_177 rfl ?_
      refine Go.callI 181 rfl (C := B7) a225 [] (rest := [.ref a225, .ref a211, .ref lb, .ref a204, .ref a204]) 36 37 35 38 (c7 Z hw h226 a225 da hSda hAda z228 E230 (D231 53 (Or.inl rfl) (ty := .int) (by decide) : Fld Z h226 a225 "java/util/AbstractList" "modCount" "I" (.int (0 : Int32))) (D231 56 (Or.inl rfl) (ty := (.array (.object "java/lang/Object"))) (by decide) : Fld Z h226 a225 "java/util/ArrayList" "elementData" "[Ljava/lang/Object;" (.null)) (D231 84 (Or.inl rfl) (ty := .int) (by decide) : Fld Z h226 a225 "java/util/ArrayList" "size" "I" (.int (0 : Int32)))) at_178 rfl rfl rfl rfl rfl rfl (by decide) pd7 rfl rfl rfl (W := 5) (Nat.le_of_ble_eq_true rfl) (by decide) (by decide) (by decide) (by decide) fun v232 h233 q234 => ?_
      obtain ⟨rfl, K235, F236, F237, F238⟩ := q234
      refine Go.aload 183 rfl at_181 rfl rfl ?_
      refine Go.newO 186 rfl 33 34 35 at_183 rfl rfl rfl (by decide) (by decide) fun h240 a239 g241 z242 K243 E244 D245 => ?_
      refine Go.dup 187 rfl at_186 rfl ?_
      refine Go.callI 190 rfl (C := B7) a239 [] (rest := [.ref a239, .ref a166, .ref a225, .ref a211, .ref lb, .ref a204, .ref a204]) 36 37 35 38 (c7 Z hw h240 a239 da hSda hAda z242 E244 (D245 53 (Or.inl rfl) (ty := .int) (by decide) : Fld Z h240 a239 "java/util/AbstractList" "modCount" "I" (.int (0 : Int32))) (D245 56 (Or.inl rfl) (ty := (.array (.object "java/lang/Object"))) (by decide) : Fld Z h240 a239 "java/util/ArrayList" "elementData" "[Ljava/lang/Object;" (.null)) (D245 84 (Or.inl rfl) (ty := .int) (by decide) : Fld Z h240 a239 "java/util/ArrayList" "size" "I" (.int (0 : Int32)))) at_187 rfl rfl rfl rfl rfl rfl (by decide) pd7 rfl rfl rfl (W := 7) (Nat.le_of_ble_eq_true rfl) (by decide) (by decide) (by decide) (by decide) fun v246 h247 q248 => ?_
      obtain ⟨rfl, K249, F250, F251, F252⟩ := q248
      have F253 : Exa Z h247 a204 "com/example/subsumer/subsumer/core/Description" := ((((((E209.keep K215).keep K221).keep K229).keep K235).keep K243).keep K249)
      have ne254 : a204 ≠ a211 := (show @Ne Nat a204 a211 from by have := ltN E209.lt; have := g213; omega)
      have ne255 : a204 ≠ a225 := (show @Ne Nat a204 a225 from by have := ltN E209.lt; have := K215.1; have := K221.1; have := g227; omega)
      have ne256 : a204 ≠ a239 := (show @Ne Nat a204 a239 from by have := ltN E209.lt; have := K215.1; have := K221.1; have := K229.1; have := K235.1; have := g241; omega)
      have F257 : Fld Z h247 a204 "com/example/subsumer/subsumer/core/Description" "label" "Lcom/example/subsumer/subsumer/core/Label;" (.null) := (((((((D210 65 (Or.inr rfl) (ty := (.object "com/example/subsumer/subsumer/core/Label")) (by decide) : Fld Z h205 a204 "com/example/subsumer/subsumer/core/Description" "label" "Lcom/example/subsumer/subsumer/core/Label;" (.null)).keep K215 nin0).keep K221 (ninS ne254 nin0)).keep K229 nin0).keep K235 (ninS ne255 nin0)).keep K243 nin0).keep K249 (ninS ne256 nin0))
      have F258 : Fld Z h247 a204 "com/example/subsumer/subsumer/core/Description" "existentials" "Ljava/util/List;" (.null) := (((((((D210 67 (Or.inr rfl) (ty := (.object "java/util/List")) (by decide) : Fld Z h205 a204 "com/example/subsumer/subsumer/core/Description" "existentials" "Ljava/util/List;" (.null)).keep K215 nin0).keep K221 (ninS ne254 nin0)).keep K229 nin0).keep K235 (ninS ne255 nin0)).keep K243 nin0).keep K249 (ninS ne256 nin0))
      have F259 : Fld Z h247 a204 "com/example/subsumer/subsumer/core/Description" "universals" "Ljava/util/List;" (.null) := (((((((D210 69 (Or.inr rfl) (ty := (.object "java/util/List")) (by decide) : Fld Z h205 a204 "com/example/subsumer/subsumer/core/Description" "universals" "Ljava/util/List;" (.null)).keep K215 nin0).keep K221 (ninS ne254 nin0)).keep K229 nin0).keep K235 (ninS ne255 nin0)).keep K243 nin0).keep K249 (ninS ne256 nin0))
      have F260 : Fld Z h247 a204 "com/example/subsumer/subsumer/core/Description" "atLeast" "Ljava/util/List;" (.null) := (((((((D210 71 (Or.inr rfl) (ty := (.object "java/util/List")) (by decide) : Fld Z h205 a204 "com/example/subsumer/subsumer/core/Description" "atLeast" "Ljava/util/List;" (.null)).keep K215 nin0).keep K221 (ninS ne254 nin0)).keep K229 nin0).keep K235 (ninS ne255 nin0)).keep K243 nin0).keep K249 (ninS ne256 nin0))
      have F261 : Fld Z h247 a204 "com/example/subsumer/subsumer/core/Description" "atMost" "Ljava/util/List;" (.null) := (((((((D210 73 (Or.inr rfl) (ty := (.object "java/util/List")) (by decide) : Fld Z h205 a204 "com/example/subsumer/subsumer/core/Description" "atMost" "Ljava/util/List;" (.null)).keep K215 nin0).keep K221 (ninS ne254 nin0)).keep K229 nin0).keep K235 (ninS ne255 nin0)).keep K243 nin0).keep K249 (ninS ne256 nin0))
      have F262 : Fld Z h247 a204 "com/example/subsumer/subsumer/core/Description" "existentialInside" "Z" (.int (0 : Int32)) := (((((((D210 122 (Or.inr rfl) (ty := .boolean) (by decide) : Fld Z h205 a204 "com/example/subsumer/subsumer/core/Description" "existentialInside" "Z" (.int (0 : Int32))).keep K215 nin0).keep K221 (ninS ne254 nin0)).keep K229 nin0).keep K235 (ninS ne255 nin0)).keep K243 nin0).keep K249 (ninS ne256 nin0))
      have F263 : Fld Z h247 a204 "com/example/subsumer/subsumer/core/Description" "numberInside" "Z" (.int (0 : Int32)) := (((((((D210 124 (Or.inr rfl) (ty := .boolean) (by decide) : Fld Z h205 a204 "com/example/subsumer/subsumer/core/Description" "numberInside" "Z" (.int (0 : Int32))).keep K215 nin0).keep K221 (ninS ne254 nin0)).keep K229 nin0).keep K235 (ninS ne255 nin0)).keep K243 nin0).keep K249 (ninS ne256 nin0))
      have F264 : Exa Z h247 a211 "java/util/ArrayList" := (((((E216.keep K221).keep K229).keep K235).keep K243).keep K249)
      have ne265 : a211 ≠ a225 := (show @Ne Nat a211 a225 from by have := ltN F222.lt; have := g227; omega)
      have ne266 : a211 ≠ a239 := (show @Ne Nat a211 a239 from by have := ltN F222.lt; have := K229.1; have := K235.1; have := g241; omega)
      have F267 : Fld Z h247 a211 "java/util/ArrayList" "size" "I" (.int (0 : Int32)) := ((((F224.keep K229 nin0).keep K235 (ninS ne265 nin0)).keep K243 nin0).keep K249 (ninS ne266 nin0))
      have F268 : Fld Z h247 a211 "java/util/AbstractList" "modCount" "I" (.int (0 : Int32)) := ((((F222.keep K229 nin0).keep K235 (ninS ne265 nin0)).keep K243 nin0).keep K249 (ninS ne266 nin0))
      have F269 : Exa Z h247 a225 "java/util/ArrayList" := (((E230.keep K235).keep K243).keep K249)
      have ne270 : a225 ≠ a239 := (show @Ne Nat a225 a239 from by have := ltN F236.lt; have := g241; omega)
      have F271 : Fld Z h247 a225 "java/util/ArrayList" "size" "I" (.int (0 : Int32)) := ((F238.keep K243 nin0).keep K249 (ninS ne270 nin0))
      have F272 : Fld Z h247 a225 "java/util/AbstractList" "modCount" "I" (.int (0 : Int32)) := ((F236.keep K243 nin0).keep K249 (ninS ne270 nin0))
      have F273 : Exa Z h247 a166 "java/util/ArrayList" := (((((((((E171.keep K176).keep KA).keep K208).keep K215).keep K221).keep K229).keep K235).keep K243).keep K249)
      have ne274 : a166 ≠ a211 := (show @Ne Nat a166 a211 from by have := ltN FA.lt; have := K208.1; have := g213; omega)
      have ne275 : a166 ≠ a225 := (show @Ne Nat a166 a225 from by have := ltN FA.lt; have := K208.1; have := K215.1; have := K221.1; have := g227; omega)
      have ne276 : a166 ≠ a239 := (show @Ne Nat a166 a239 from by have := ltN FA.lt; have := K208.1; have := K215.1; have := K221.1; have := K229.1; have := K235.1; have := g241; omega)
      have F277 : Fld Z h247 a166 "java/util/ArrayList" "size" "I" (.int sz) := (((((((FA.keep K208 nin0).keep K215 nin0).keep K221 (ninS ne274 nin0)).keep K229 nin0).keep K235 (ninS ne275 nin0)).keep K243 nin0).keep K249 (ninS ne276 nin0))
      have F278 : Exa Z h247 a239 "java/util/ArrayList" := (E244.keep K249)
      refine Go.callI 193 rfl (C := B10) a204 [.ref lb, .ref a211, .ref a225, .ref a166, .ref a239] (rest := [.ref a204]) 60 61 59 62 (c10a Z hw h247 a204 lb a211 a225 a166 a239 el ea em top bot lem non hv (0 : Int32) (0 : Int32) sz z207 F253 F257 F258 F259 F260 F261 F262 F263 F264 F267 F268 F269 F271 F272 F273 F277 F278 F252) at_190 rfl rfl rfl rfl rfl rfl (by decide) pd10 rfl rfl rfl (W := 1) (Nat.le_of_ble_eq_true rfl) (by decide) (by decide) (by decide) (by decide) fun v279 h280 q281 => ?_
      obtain ⟨rfl, K282, F283, F284, F285, F286, F287, q1, q2, F288, F289⟩ := q281
      have hdb : ¬ a204 = bot := fun q => absurd (ltN hEbot.lt) (by rw [← q]; have := z207; omega)
      refine Go.astore 195 rfl at_193 rfl (Ls' := #[.val (.int p1), .val (.int p2), .val (.int p3), .val (.ref a1), .val (.ref a14), .val (.int v32), .val (.ref lb), .val (.ref a166), .val (.ref a204), .unset, .unset, .unset, .unset, .unset, .unset]) rfl ?_
      refine Go.aload 197 rfl at_195 rfl rfl ?_
      have F293 : Exa Z h280 a204 "com/example/subsumer/subsumer/core/Description" := (F253.keep K282)
      refine Go.callV 200 rfl (C := B15) a204 [] (rest := []) 125 126 128 127 59 129 (c15 Z hw h280 a204 bot el ea em top lem non hv) F293 at_197 rfl rfl rfl rfl rfl rfl (by decide) pd15 rfl rfl rfl (W := 0) (Nat.le_of_ble_eq_true rfl) (by decide) (by decide) (by decide) (by decide) fun v290 h291 q292 => ?_
      obtain ⟨rfl, rfl⟩ := q292
      refine Go.eqI (w := 0) (if_neg hdb) ?_
      refine Go.if_ne 207 203 at_200 (by decide) rfl rfl (fun (b294 : ¬ (0 : Int32) = 0) => ?_) (fun (b294 : (0 : Int32) = 0) => ?_)
      · exact absurd rfl b294
      · refine Go.iconst 204 rfl (1 : Int32) at_203 rfl ?_
        refine Go.goto 208 at_204 (by decide) (by decide) ?_
        refine Go.istore 210 rfl at_208 (Ls' := #[.val (.int p1), .val (.int p2), .val (.int p3), .val (.ref a1), .val (.ref a14), .val (.int v32), .val (.ref lb), .val (.ref a166), .val (.ref a204), .val (.int (1 : Int32)), .unset, .unset, .unset, .unset, .unset]) rfl ?_
        refine Go.callS 213 rfl (C := B16) [] (rest := []) 132 133 59 134 (c16 Z hw h280 bot el ea em top lem non hv) at_210 rfl rfl rfl rfl (by decide) pd16 rfl rfl rfl (W := 0) (Nat.le_of_ble_eq_true rfl) (by decide) (by decide) (by decide) (by decide) fun v295 h296 q297 => ?_
        obtain ⟨rfl, rfl⟩ := q297
        refine Go.old fun x298 => ?_
        refine Go.callV 216 rfl (C := B15) bot [] (rest := []) 125 126 128 127 59 129 (c15 Z hw h280 bot bot el ea em top lem non hv) (hEbot.ext x298) at_213 rfl rfl rfl rfl rfl rfl (by decide) pd15 rfl rfl rfl (W := 0) (Nat.le_of_ble_eq_true rfl) (by decide) (by decide) (by decide) (by decide) fun v299 h300 q301 => ?_
        obtain ⟨rfl, rfl⟩ := q301
        refine Go.eqI (w := 1) (if_pos rfl) ?_
        refine Go.istore 218 rfl at_216 (Ls' := #[.val (.int p1), .val (.int p2), .val (.int p3), .val (.ref a1), .val (.ref a14), .val (.int v32), .val (.ref lb), .val (.ref a166), .val (.ref a204), .val (.int (1 : Int32)), .val (.int (1 : Int32)), .unset, .unset, .unset, .unset]) rfl ?_
        refine Go.callS 221 rfl (C := B17) [] (rest := []) 135 136 59 137 (c17 Z hw h280 top el ea em bot lem non hv) at_218 rfl rfl rfl rfl (by decide) pd17 rfl rfl rfl (W := 0) (Nat.le_of_ble_eq_true rfl) (by decide) (by decide) (by decide) (by decide) fun v302 h303 q304 => ?_
        obtain ⟨rfl, rfl⟩ := q304
        refine Go.callV 224 rfl (C := B15) top [] (rest := []) 125 126 128 127 59 129 (c15 Z hw h280 top bot el ea em top lem non hv) (hEtop.ext x298) at_221 rfl rfl rfl rfl rfl rfl (by decide) pd15 rfl rfl rfl (W := 0) (Nat.le_of_ble_eq_true rfl) (by decide) (by decide) (by decide) (by decide) fun v305 h306 q307 => ?_
        obtain ⟨rfl, rfl⟩ := q307
        refine Go.eqI (w := 0) (if_neg (fun q => hnbt q.symm)) ?_
        refine Go.if_ne 231 227 at_224 (by decide) rfl rfl (fun (b308 : ¬ (0 : Int32) = 0) => ?_) (fun (b308 : (0 : Int32) = 0) => ?_)
        · exact absurd rfl b308
        · refine Go.iconst 228 rfl (1 : Int32) at_227 rfl ?_
          refine Go.goto 232 at_228 (by decide) (by decide) ?_
          refine Go.istore 234 rfl at_232 (Ls' := #[.val (.int p1), .val (.int p2), .val (.int p3), .val (.ref a1), .val (.ref a14), .val (.int v32), .val (.ref lb), .val (.ref a166), .val (.ref a204), .val (.int (1 : Int32)), .val (.int (1 : Int32)), .val (.int (1 : Int32)), .unset, .unset, .unset]) rfl ?_
          refine Go.iloadN 235 rfl at_234 rfl ?_
          refine Go.bipush 237 rfl (8 : Int32) at_235 rfl ?_
          refine Go.iand 238 rfl at_237 ?_
          refine Go.if_eq 245 241 at_238 (by decide) rfl rfl (fun (b309 : (p1 &&& (8 : Int32)) = 0) => ?_) (fun (b309 : ¬ (p1 &&& (8 : Int32)) = 0) => ?_)
          · refine Go.iconst 246 rfl (0 : Int32) at_245 rfl ?_
            refine Go.istore 248 rfl at_246 (Ls' := #[.val (.int p1), .val (.int p2), .val (.int p3), .val (.ref a1), .val (.ref a14), .val (.int v32), .val (.ref lb), .val (.ref a166), .val (.ref a204), .val (.int (1 : Int32)), .val (.int (1 : Int32)), .val (.int (1 : Int32)), .val (.int (0 : Int32)), .unset, .unset]) rfl ?_
            refine Go.iload 250 rfl at_248 rfl ?_
            refine Go.if_eq 259 253 at_250 (by decide) rfl rfl (fun (b310 : (0 : Int32) = 0) => ?_) (fun (b310 : ¬ (0 : Int32) = 0) => ?_)
            · refine Go.aload 261 rfl at_259 rfl rfl ?_
              refine Go.astore 263 rfl at_261 rfl (Ls' := #[.val (.int p1), .val (.int p2), .val (.int p3), .val (.ref a1), .val (.ref a14), .val (.int v32), .val (.ref lb), .val (.ref a166), .val (.ref a204), .val (.int (1 : Int32)), .val (.int (1 : Int32)), .val (.int (1 : Int32)), .val (.int (0 : Int32)), .val (.ref a204), .unset]) rfl ?_
              refine Go.aload 265 rfl at_263 rfl rfl ?_
              refine Go.aload 267 rfl at_265 rfl rfl ?_
              refine Go.callS 270 rfl (C := B18) [.ref a14, .ref a204] (rest := []) 140 141 59 142 (c18 Z hw h280 a14 a204 el em ea top bot lem non hv q1 q2 F293 hdb F288 F289) at_267 rfl rfl rfl rfl (by decide) pd18 rfl rfl rfl (W := 0) (Nat.le_of_ble_eq_true rfl) (by decide) (by decide) (by decide) (by decide) fun v311 h312 q313 => ?_
              obtain ⟨sd, sl, sx, rfl, sg, sK, sE, sF, sV, sX, sY⟩ := q313
              have z314 : Z.heap.size ≤ sd := Nat.le_trans (Nat.le_trans (Nat.le_trans (Nat.le_trans (Nat.le_trans (Nat.le_trans (Nat.le_trans (Nat.le_trans (Nat.le_trans (Nat.le_trans (Nat.le_trans (Nat.le_trans (Nat.le_trans (Nat.le_trans (Nat.le_trans (Nat.le_trans (Nat.le_trans hle K5.1) K11.1) K18.1) K27.1) KL.1) K170.1) K176.1) KA.1) K208.1) K215.1) K221.1) K229.1) K235.1) K243.1) K249.1) K282.1) sg
              have hsb : ¬ sd = bot := fun q => absurd (ltN hEbot.lt) (by rw [← q]; have := z314; omega)
              refine Go.callV 273 rfl (C := B15) sd [] (rest := []) 125 126 128 127 59 129 (c15 Z hw h312 sd bot el ea em top lem non hv) sE at_270 rfl rfl rfl rfl rfl rfl (by decide) pd15 rfl rfl rfl (W := 0) (Nat.le_of_ble_eq_true rfl) (by decide) (by decide) (by decide) (by decide) fun v315 h316 q317 => ?_
              obtain ⟨rfl, rfl⟩ := q317
              refine Go.eqI (w := 0) (if_neg hsb) ?_
              refine Go.iload 275 rfl at_273 rfl ?_
              refine Go.icmp_ne 282 278 at_275 (by decide) rfl rfl (fun (b318 : ¬ (0 : Int32) = (0 : Int32)) => ?_) (fun (b318 : (0 : Int32) = (0 : Int32)) => ?_)
              · exact absurd rfl b318
              · refine Go.iconst 279 rfl (1 : Int32) at_278 rfl ?_
                refine Go.goto 283 at_279 (by decide) (by decide) ?_
                refine Go.istore 285 rfl at_283 (Ls' := #[.val (.int p1), .val (.int p2), .val (.int p3), .val (.ref a1), .val (.ref a14), .val (.int v32), .val (.ref lb), .val (.ref a166), .val (.ref a204), .val (.int (1 : Int32)), .val (.int (1 : Int32)), .val (.int (1 : Int32)), .val (.int (0 : Int32)), .val (.ref a204), .val (.int (1 : Int32))]) rfl ?_
                refine Go.iload 287 rfl at_285 rfl ?_
                refine Go.if_eq 309 290 at_287 (by decide) rfl rfl (fun (b319 : (1 : Int32) = 0) => ?_) (fun (b319 : ¬ (1 : Int32) = 0) => ?_)
                · exact absurd b319 (by decide)
                · refine Go.iload 292 rfl at_290 rfl ?_
                  refine Go.if_eq 309 295 at_292 (by decide) rfl rfl (fun (b320 : (1 : Int32) = 0) => ?_) (fun (b320 : ¬ (1 : Int32) = 0) => ?_)
                  · exact absurd b320 (by decide)
                  · refine Go.iload 297 rfl at_295 rfl ?_
                    refine Go.if_eq 309 300 at_297 (by decide) rfl rfl (fun (b321 : (1 : Int32) = 0) => ?_) (fun (b321 : ¬ (1 : Int32) = 0) => ?_)
                    · exact absurd b321 (by decide)
                    · refine Go.iload 302 rfl at_300 rfl ?_
                      refine Go.if_eq 309 305 at_302 (by decide) rfl rfl (fun (b322 : (1 : Int32) = 0) => ?_) (fun (b322 : ¬ (1 : Int32) = 0) => ?_)
                      · exact absurd b322 (by decide)
                      · refine Go.iconst 306 rfl (1 : Int32) at_305 rfl ?_
                        refine Go.goto 310 at_306 (by decide) (by decide) ?_
                        exact Go.retN (t := .boolean) (z' := 1) at_310 rfl (by decide) (by decide) (by decide) (by decide) rfl
            · exact absurd rfl b310
          · refine Go.iconst 242 rfl (1 : Int32) at_241 rfl ?_
            refine Go.goto 246 at_242 (by decide) (by decide) ?_
            refine Go.istore 248 rfl at_246 (Ls' := #[.val (.int p1), .val (.int p2), .val (.int p3), .val (.ref a1), .val (.ref a14), .val (.int v32), .val (.ref lb), .val (.ref a166), .val (.ref a204), .val (.int (1 : Int32)), .val (.int (1 : Int32)), .val (.int (1 : Int32)), .val (.int (1 : Int32)), .unset, .unset]) rfl ?_
            refine Go.iload 250 rfl at_248 rfl ?_
            refine Go.if_eq 259 253 at_250 (by decide) rfl rfl (fun (b323 : (1 : Int32) = 0) => ?_) (fun (b323 : ¬ (1 : Int32) = 0) => ?_)
            · exact absurd b323 (by decide)
            · refine Go.callS 256 rfl (C := B16) [] (rest := []) 132 133 59 134 (c16 Z hw h280 bot el ea em top lem non hv) at_253 rfl rfl rfl rfl (by decide) pd16 rfl rfl rfl (W := 0) (Nat.le_of_ble_eq_true rfl) (by decide) (by decide) (by decide) (by decide) fun v324 h325 q326 => ?_
              obtain ⟨rfl, rfl⟩ := q326
              refine Go.goto 261 at_256 (by decide) (by decide) ?_
              refine Go.astore 263 rfl at_261 rfl (Ls' := #[.val (.int p1), .val (.int p2), .val (.int p3), .val (.ref a1), .val (.ref a14), .val (.int v32), .val (.ref lb), .val (.ref a166), .val (.ref a204), .val (.int (1 : Int32)), .val (.int (1 : Int32)), .val (.int (1 : Int32)), .val (.int (1 : Int32)), .val (.ref bot), .unset]) rfl ?_
              refine Go.aload 265 rfl at_263 rfl rfl ?_
              refine Go.aload 267 rfl at_265 rfl rfl ?_
              refine Go.callS 270 rfl (C := B18) [.ref a14, .ref bot] (rest := []) 140 141 59 142 (c18b Z hw h280 a14 bot el ea em top lem non hv) at_267 rfl rfl rfl rfl (by decide) pd18 rfl rfl rfl (W := 0) (Nat.le_of_ble_eq_true rfl) (by decide) (by decide) (by decide) (by decide) fun v327 h328 q329 => ?_
              obtain ⟨rfl, rfl⟩ := q329
              refine Go.callV 273 rfl (C := B15) bot [] (rest := []) 125 126 128 127 59 129 (c15 Z hw h280 bot bot el ea em top lem non hv) (hEbot.ext x298) at_270 rfl rfl rfl rfl rfl rfl (by decide) pd15 rfl rfl rfl (W := 0) (Nat.le_of_ble_eq_true rfl) (by decide) (by decide) (by decide) (by decide) fun v330 h331 q332 => ?_
              obtain ⟨rfl, rfl⟩ := q332
              refine Go.eqI (w := 1) (if_pos rfl) ?_
              refine Go.iload 275 rfl at_273 rfl ?_
              refine Go.icmp_ne 282 278 at_275 (by decide) rfl rfl (fun (b333 : ¬ (1 : Int32) = (1 : Int32)) => ?_) (fun (b333 : (1 : Int32) = (1 : Int32)) => ?_)
              · exact absurd rfl b333
              · refine Go.iconst 279 rfl (1 : Int32) at_278 rfl ?_
                refine Go.goto 283 at_279 (by decide) (by decide) ?_
                refine Go.istore 285 rfl at_283 (Ls' := #[.val (.int p1), .val (.int p2), .val (.int p3), .val (.ref a1), .val (.ref a14), .val (.int v32), .val (.ref lb), .val (.ref a166), .val (.ref a204), .val (.int (1 : Int32)), .val (.int (1 : Int32)), .val (.int (1 : Int32)), .val (.int (1 : Int32)), .val (.ref bot), .val (.int (1 : Int32))]) rfl ?_
                refine Go.iload 287 rfl at_285 rfl ?_
                refine Go.if_eq 309 290 at_287 (by decide) rfl rfl (fun (b334 : (1 : Int32) = 0) => ?_) (fun (b334 : ¬ (1 : Int32) = 0) => ?_)
                · exact absurd b334 (by decide)
                · refine Go.iload 292 rfl at_290 rfl ?_
                  refine Go.if_eq 309 295 at_292 (by decide) rfl rfl (fun (b335 : (1 : Int32) = 0) => ?_) (fun (b335 : ¬ (1 : Int32) = 0) => ?_)
                  · exact absurd b335 (by decide)
                  · refine Go.iload 297 rfl at_295 rfl ?_
                    refine Go.if_eq 309 300 at_297 (by decide) rfl rfl (fun (b336 : (1 : Int32) = 0) => ?_) (fun (b336 : ¬ (1 : Int32) = 0) => ?_)
                    · exact absurd b336 (by decide)
                    · refine Go.iload 302 rfl at_300 rfl ?_
                      refine Go.if_eq 309 305 at_302 (by decide) rfl rfl (fun (b337 : (1 : Int32) = 0) => ?_) (fun (b337 : ¬ (1 : Int32) = 0) => ?_)
                      · exact absurd b337 (by decide)
                      · refine Go.iconst 306 rfl (1 : Int32) at_305 rfl ?_
                        refine Go.goto 310 at_306 (by decide) (by decide) ?_
                        exact Go.retN (t := .boolean) (z' := 1) at_310 rfl (by decide) (by decide) (by decide) (by decide) rfl
set_option maxRecDepth 65536 in
set_option maxHeartbeats 40000000 in
theorem comes_1 {Post : Tables → Env → Array Value → State → Outcome → State → Prop} (hpost : ∀ tb e args s v u, (limb_1_1.after args s (.returned v) u = true ∧ limb_1_2.after args s (.returned v) u = true ∧ True) → FrameEnd s (.returned v) u (Jvm.fieldLocs frame_1_writes args s ++ Jvm.arrayLocs frame_1_arrays args s ++ Jvm.staticLocs frame_1_statics s) 48 256 → Post tb e args s (.returned v) u) :
    ArmFor flags0 classFile x code maxLocals ret World_1 tables_1 room_1 Calls_1 rest_1 Pre_1 Post := by
  intro l hfl _ _ p e ha hc hk s m args below hf hA hF happ hP
  obtain ⟨hcalls, hrest, hpre⟩ := hP
  obtain ⟨-, -, -, hnamed, -, -, -, hat⟩ := (Spec.applies_iff hf).mp happ
  obtain ⟨hg, hn⟩ := and_e (Cond.before_iff.mp (show (Jvm.Cond.and given_1 narrow_1).before args s = true from hpre))
  obtain ⟨hg1, hg2⟩ := and_e hg
  obtain ⟨w0, w1, w2, rfl⟩ : ∃ w0 w1 w2 : Value, args = #[w0, w1, w2] := by
    have hs : args.size = 3 := by simpa [Cond.value, given_1] using hg1
    obtain ⟨L⟩ := args
    match L, hs with
    | [w0, w1, w2], _ => exact ⟨w0, w1, w2, rfl⟩
  obtain ⟨ga0, gb0⟩ := and_e hg2
  obtain ⟨i0, e0⟩ := is_v ga0
  obtain rfl : w0 = (.int i0) := Option.some.inj e0
  obtain ⟨ga1, gb1⟩ := and_e gb0
  obtain ⟨i1, e1⟩ := is_v ga1
  obtain rfl : w1 = (.int i1) := Option.some.inj e1
  obtain ⟨i2, e2⟩ := is_v gb1
  obtain rfl : w2 = (.int i2) := Option.some.inj e2
  have hw : Wd s tables_1 := ⟨_, fun d (hd : d ∈ tables_1) => atoms_spec (ws := Jvm.Cond.code x code maxLocals ret :: tables_1) hat d (List.mem_cons_of_mem _ hd)⟩
  have hfit : Fit s := fun {y c} hc i hi => by
    obtain ⟨ha, rfl⟩ := Array.getElem?_eq_some_iff.mp hc
    have q := List.all_eq_true.mp ((Array.all_eq_true_iff_forall_mem.mp hF) _ (Array.getElem_mem ha)) i (List.mem_range.mpr hi)
    simpa [Array.getElem?_eq_getElem hi] using q
  obtain ⟨hsets, hown0⟩ := atoms_of _ (rest_1_c_eq ▸ (show rest_1_c.before _ s = true from hrest))
  obtain ⟨cs, ecs⟩ := is_v (Cond.before_iff.mp (hsets _ (List.mem_of_getElem? (i := 1) rfl)))
  have hS : Sta s s.heap "java/lang/String" "COMPACT_STRINGS" "Z" (.int cs) := Sta.start ecs (Or.inl (hsets _ (List.mem_of_getElem? (i := 0) rfl)))
  have hcs : ¬ (cs = (0 : Int32)) := gotF (Cond.eq_ints ecs (Term.int_eval (0))) (not_v (Cond.before_iff.mp (hsets _ (List.mem_of_getElem? (i := 2) rfl))))
  obtain ⟨hn1, hn⟩ := and_e hn
  obtain ⟨hn2, hn⟩ := and_e hn
  obtain ⟨hn3, hn4⟩ := and_e hn
  obtain ⟨lem, elem⟩ := exa_v hn1
  obtain ⟨bot, ebot⟩ := exa_v hn2
  obtain ⟨top, etop⟩ := exa_v hn3
  obtain ⟨el, eel⟩ := exa_v (Cond.before_iff.mp (hsets _ (List.mem_of_getElem? (i := 29) rfl)))
  obtain ⟨em, eem⟩ := exa_v (Cond.before_iff.mp (hsets _ (List.mem_of_getElem? (i := 20) rfl)))
  obtain ⟨ea, eea⟩ := arr_v (Cond.before_iff.mp (hsets _ (List.mem_of_getElem? (i := 30) rfl)))
  obtain ⟨da, eda⟩ := arr_v (Cond.before_iff.mp (hsets _ (List.mem_of_getElem? (i := 15) rfl)))
  have wd : ∀ (i : Nat) (d : Cond), tables_1[i]? = some d → d.before _ s = true := fun i d q => atoms_spec (ws := Jvm.Cond.code x code maxLocals ret :: tables_1) hat d (List.mem_cons_of_mem _ (List.mem_of_getElem? q))
  have hSda := Sta.start eda (Or.inr ⟨wd 35 _ rfl, hsets _ (List.mem_of_getElem? (i := 11) rfl)⟩)
  have hAda := own_ar0 eda (Cond.before_iff.mp (hsets _ (List.mem_of_getElem? (i := 15) rfl))) (Cond.before_iff.mp (hsets _ (List.mem_of_getElem? (i := 17) rfl)))
  have hv : Ev0 s el ea em top bot lem da := by
    refine ⟨Sta.start eel (Or.inl (hsets _ (List.mem_of_getElem? (i := 28) rfl))), Sta.start eem (Or.inl (hsets _ (List.mem_of_getElem? (i := 19) rfl))), Sta.start etop (Or.inr ⟨wd 59 _ rfl, wd 139 _ rfl⟩), Sta.start ebot (Or.inr ⟨wd 59 _ rfl, wd 131 _ rfl⟩), Sta.start elem (Or.inr ⟨wd 31 _ rfl, wd 32 _ rfl⟩), trivial, Exa.start eel (Cond.before_iff.mp (hsets _ (List.mem_of_getElem? (i := 29) rfl))), own_fs eel eea, own_ar0 eea (Cond.before_iff.mp (hsets _ (List.mem_of_getElem? (i := 30) rfl))) (Cond.before_iff.mp (hsets _ (List.mem_of_getElem? (i := 32) rfl))), Exa.start etop hn3, trivial, trivial, trivial, trivial, trivial, Exa.start ebot hn2, ?_, Exa.start elem hn1, trivial, trivial, trivial⟩
    have hq := gotF (eq_R ebot etop rfl rfl) (not_v hn4)
    exact fun q => hq (congrArg Value.ref q)
  obtain ⟨n, o, h1, h2, h3, _, L, rfl, ⟨hv, -, N⟩, hq⟩ := c0 s hw s.heap i0 i1 i2 el ea em top bot lem da hv cs hS hcs da hSda hAda ⟨Nat.le_refl _, fun _ _ q => q⟩ l tables_1 p e ha hc hk s m _ below hf ((Spec.applies_iff_loose hf).mp happ).1 ⟨rfl, State.Warmed39.refl s, rfl⟩ trivial
  cases (show _ = some (Value.int 1) from hv)
  refine ⟨n, _, h1, h2, h3, hpost _ _ _ _ _ _ ⟨Cond.after_iff.mpr rfl, Cond.after_iff.mpr (eq_i res_at (Term.int_eval (1)) rfl), trivial⟩ ⟨hq.1, hq.2.1, (hq.2.2.sift fun y hy => Or.inr (N y hy)).mono (by decide) (by decide)⟩⟩
theorem main_1_1 : Claimed_1_1 := comes_1 fun _ _ _ _ _ _ h hF => ⟨h.1, hF⟩
theorem main_1_2 : Claimed_1_2 := comes_1 fun _ _ _ _ _ _ h hF => ⟨h.2.1, hF⟩
end Jvm.Pilot.@@N@@
namespace Jvm.Pilot.@@N@@
open Jvm Jvm.ClassFile Sem Op Lib Jvm.Free Jvm.Stand Jvm.Pilot.@@N@@.Jvm.D
/-! MADE BY PROGRAM (witnessworld.py) out of the Statement's table words and the real class files: 45 classes; the members and pool entries that the words name. The judged class is class 1, her method 1. -/
namespace start1
open Jvm.ClassFile
def u (s : String) : CpInfo := .utf8 (stringToUtf16 s)
/-- a pool by its gaps: so many unusable entries, then the entry; so many at the end -/
def gap : Nat → List CpInfo → List CpInfo
  | 0, r => r
  | n + 1, r => .unusable :: gap n r
def poolList (es : List (Nat × CpInfo)) (last : Nat) : List CpInfo := es.foldr (fun e r => gap e.1 (e.2 :: r)) (gap last [])
def pool (es : List (Nat × CpInfo)) (last : Nat) : Array CpInfo := ⟨poolList es last⟩
def fileOf (pool : Array CpInfo) (this : Nat) (attrs : Array Attribute := #[]) (ms : Array MethodInfo := #[]) (fl : Nat := 33) (sup : Nat := 0) (ifs : Array Nat := #[]) (fds : Array FieldInfo := #[]) : ClassFile where
  minorVersion := 0
  majorVersion := 65
  constantPool := pool
  accessFlags := fl
  thisClass := this
  superClass := sup
  interfaces := ifs
  fields := fds
  methods := ms
  attributes := attrs
def plain (name : String) (sup : Option ClassId) : Class where
  name := name
  kind := .ordinary
  loader := none
  accessFlags := 33
  super := sup
  interfaces := #[]
  cf := none
  fields := #[]
  methods := #[]
  instanceTypes := #[]
  staticTypes := #[]
  resolved := #[]
  callSites := []
  init := .initialized
  statics := none
  mirror := none

def pool0 : Array CpInfo := pool [(5, u "<init>"), (0, u "()V"), (1, .class_ 10), (1, u "java/lang/Object")] 113

def k0c0 : Code := { maxStack := 0, maxLocals := 1, code := object_method_1_code, exceptionTable := #[], attributes := #[] }
def k0m0 : Method := { name := "<init>", desc := "()V", sig := { parameters := [], returnType := none }, accessFlags := 1, code := some k0c0 }
/-- java/lang/Object -/
def k0 : Class := { plain "java/lang/Object" none with
  accessFlags := 33
  interfaces := #[]
  cf := some (fileOf pool0 8 #[] #[{ accessFlags := 1, nameIndex := 5, descriptorIndex := 6, attributes := #[] }] 33 0 #[] #[])
  fields := #[]
  methods := #[k0m0]
  instanceTypes := #[]
  staticTypes := #[]
  resolved := Array.replicate 124 none
  statics := none }

def pool1 : Array CpInfo := pool [(2, .class_ 4), (0, .nameAndType 5 6), (0, u "java/lang/Object"), (0, u "<init>"), (0, u "()V"), (0, .class_ 8), (0, u "java/lang/String"), (0, .methodref 7 10), (0, .nameAndType 5 11), (0, u "([C)V"), (0, .fieldref 13 14), (0, .class_ 15), (0, .nameAndType 16 17), (0, u "com/example/subsumer/subsumer/core/Label"), (0, u "EMPTY"), (0, u "Lcom/example/subsumer/subsumer/core/Label;"), (0, .methodref 13 19), (0, .nameAndType 5 20), (0, u "([Ljava/lang/String;[Ljava/lang/String;)V"), (0, .class_ 22), (0, u "java/util/ArrayList"), (0, .methodref 21 3), (0, .class_ 25), (0, u "com/example/subsumer/subsumer/core/AtLeast"), (0, .methodref 24 27), (0, .nameAndType 5 28), (0, u "(Ljava/lang/String;I)V"), (0, .methodref 21 30), (0, .nameAndType 31 32), (0, u "add"), (0, u "(Ljava/lang/Object;)Z"), (0, .class_ 34), (0, u "com/example/subsumer/subsumer/core/Description"), (0, .methodref 33 36), (0, .nameAndType 5 37), (0, u "(Lcom/example/subsumer/subsumer/core/Label;Ljava/util/List;Ljava/util/List;Ljava/util/List;Ljava/util/List;)V"), (0, .methodref 33 39), (0, .nameAndType 40 41), (0, u "isBottom"), (0, u "()Z"), (0, .methodref 33 43), (0, .nameAndType 44 45), (0, u "bottom"), (0, u "()Lcom/example/subsumer/subsumer/core/Description;"), (0, .methodref 33 47), (0, .nameAndType 48 45), (0, u "top"), (0, .methodref 33 50), (0, .nameAndType 51 52), (0, u "some"), (0, u "(Ljava/lang/String;Lcom/example/subsumer/subsumer/core/Description;)Lcom/example/subsumer/subsumer/core/Description;"), (0, .class_ 54), (0, u "com/example/subsumer/subsumer/core/DescriptionIsBottomPinLaw"), (2, u "law"), (0, u "(III)Z")] 5

def k1m0 : Method := { name := "<init>", desc := "()V", sig := { parameters := [], returnType := none }, accessFlags := 1, code := none }
def k1c1 : Code := { maxStack := 8, maxLocals := 15, code := code, exceptionTable := #[], attributes := #[] }
def k1m1 : Method := { name := "law", desc := "(III)Z", sig := { parameters := [.int, .int, .int], returnType := some .boolean }, accessFlags := 9, code := some k1c1 }
/-- com/example/subsumer/subsumer/core/DescriptionIsBottomPinLaw -/
def k1 : Class := { plain "com/example/subsumer/subsumer/core/DescriptionIsBottomPinLaw" (some 0) with
  accessFlags := 49
  interfaces := #[]
  cf := some (fileOf pool1 53 #[] #[{ accessFlags := 1, nameIndex := 5, descriptorIndex := 6, attributes := #[] }, { accessFlags := 9, nameIndex := 57, descriptorIndex := 58, attributes := #[] }] 49 2 #[] #[])
  fields := #[]
  methods := #[k1m0, k1m1]
  instanceTypes := #[]
  staticTypes := #[]
  resolved := Array.replicate 64 none
  statics := none }

def pool2 : Array CpInfo := pool [(1, .class_ 2), (0, u "java/io/Serializable"), (0, .class_ 4), (0, u "java/lang/Object")] 2

/-- java/io/Serializable -/
def k2 : Class := { plain "java/io/Serializable" (some 0) with
  accessFlags := 1537
  interfaces := #[]
  cf := some (fileOf pool2 1 #[] #[] 1537 3 #[] #[])
  fields := #[]
  methods := #[]
  instanceTypes := #[]
  staticTypes := #[]
  resolved := Array.replicate 7 none
  statics := none }

def pool3 : Array CpInfo := pool [(1, .class_ 2), (0, u "java/lang/Comparable"), (0, .class_ 4), (0, u "java/lang/Object")] 7

/-- java/lang/Comparable -/
def k3 : Class := { plain "java/lang/Comparable" (some 0) with
  accessFlags := 1537
  interfaces := #[]
  cf := some (fileOf pool3 1 #[] #[] 1537 3 #[] #[])
  fields := #[]
  methods := #[]
  instanceTypes := #[]
  staticTypes := #[]
  resolved := Array.replicate 12 none
  statics := none }

def pool4 : Array CpInfo := pool [(2, .class_ 4), (1, u "java/lang/CharSequence"), (42, .class_ 48), (0, u "java/lang/CharSequence$1CodePointIterator"), (10, .class_ 60), (0, u "java/lang/CharSequence$1CharIterator"), (5, .class_ 67), (0, u "java/lang/Object")] 63

/-- java/lang/CharSequence -/
def k4 : Class := { plain "java/lang/CharSequence" (some 0) with
  accessFlags := 1537
  interfaces := #[]
  cf := some (fileOf pool4 2 #[.nestMembers #[47, 59]] #[] 1537 66 #[] #[])
  fields := #[]
  methods := #[]
  instanceTypes := #[]
  staticTypes := #[]
  resolved := Array.replicate 131 none
  statics := none }

def pool5 : Array CpInfo := pool [(1, .class_ 2), (0, u "java/lang/constant/Constable"), (0, .class_ 4), (0, u "java/lang/Object")] 6

/-- java/lang/constant/Constable -/
def k5 : Class := { plain "java/lang/constant/Constable" (some 0) with
  accessFlags := 1537
  interfaces := #[]
  cf := some (fileOf pool5 1 #[] #[] 1537 3 #[] #[])
  fields := #[]
  methods := #[]
  instanceTypes := #[]
  staticTypes := #[]
  resolved := Array.replicate 11 none
  statics := none }

def pool6 : Array CpInfo := pool [(1, .class_ 2), (0, u "java/lang/constant/ConstantDesc"), (0, .class_ 4), (0, u "java/lang/Object")] 32

/-- java/lang/constant/ConstantDesc -/
def k6 : Class := { plain "java/lang/constant/ConstantDesc" (some 0) with
  accessFlags := 1537
  interfaces := #[]
  cf := some (fileOf pool6 1 #[] #[] 1537 3 #[] #[])
  fields := #[]
  methods := #[]
  instanceTypes := #[]
  staticTypes := #[]
  resolved := Array.replicate 37 none
  statics := none }

def pool7 : Array CpInfo := pool [(1, .methodref 2 3), (0, .class_ 4), (0, .nameAndType 5 6), (0, u "java/lang/Object"), (0, u "<init>"), (0, u "()V"), (2, .fieldref 10 11), (0, .class_ 12), (0, .nameAndType 13 14), (0, u "java/lang/String"), (0, u "value"), (0, u "[B"), (0, .fieldref 10 16), (0, .nameAndType 17 18), (0, u "coder"), (0, u "B"), (2, u "hash"), (0, u "I"), (2, u "hashIsZero"), (0, u "Z"), (0, .methodref 10 28), (0, .nameAndType 5 29), (0, u "([CIILjava/lang/Void;)V"), (8, .fieldref 10 39), (0, .nameAndType 40 26), (0, u "COMPACT_STRINGS"), (1, .class_ 44), (1, u "java/lang/StringUTF16"), (0, u "compress"), (1, .methodref 42 48), (0, .nameAndType 49 50), (0, u "coderFromArrayLen"), (0, u "([BI)B"), (126, .methodref 42 178), (0, .nameAndType 45 179), (0, u "([CII)[B"), (395, .class_ 576), (0, u "java/lang/CharSequence"), (22, u "CASE_INSENSITIVE_ORDER"), (0, u "Ljava/util/Comparator;"), (409, u "([C)V"), (90, u "serialPersistentFields"), (0, u "[Ljava/io/ObjectStreamField;"), (0, .class_ 1104), (0, u "java/lang/String$CaseInsensitiveComparator"), (1, .class_ 1107), (0, u "java/io/Serializable"), (0, .class_ 1109), (0, u "java/lang/Comparable"), (0, .class_ 1111), (0, u "java/lang/constant/Constable"), (0, .class_ 1113), (0, u "java/lang/constant/ConstantDesc"), (2, u "serialVersionUID"), (0, u "J"), (3, u "REPL"), (0, u "C"), (2, u "LATIN1"), (1, u "UTF16")] 323

def k7m0 : Method := { name := "<init>", desc := "()V", sig := { parameters := [], returnType := none }, accessFlags := 1, code := none }
def k7c1 : Code := { maxStack := 5, maxLocals := 2, code := jdk_42_method_3_code, exceptionTable := #[], attributes := #[] }
def k7m1 : Method := { name := "<init>", desc := "([C)V", sig := { parameters := [(.array .char)], returnType := none }, accessFlags := 1, code := some k7c1 }
def k7c2 : Code := { maxStack := 4, maxLocals := 6, code := jdk_42_method_149_code, exceptionTable := #[], attributes := #[] }
def k7m2 : Method := { name := "<init>", desc := "([CIILjava/lang/Void;)V", sig := { parameters := [(.array .char), .int, .int, (.object "java/lang/Void")], returnType := none }, accessFlags := 2, code := some k7c2 }
/-- java/lang/String -/
def k7 : Class := { plain "java/lang/String" (some 0) with
  accessFlags := 49
  interfaces := #[2, 3, 4, 5, 6]
  cf := some (fileOf pool7 10 #[.nestMembers #[1103]] #[{ accessFlags := 1, nameIndex := 5, descriptorIndex := 6, attributes := #[] }, { accessFlags := 1, nameIndex := 5, descriptorIndex := 1010, attributes := #[] }, { accessFlags := 2, nameIndex := 5, descriptorIndex := 29, attributes := #[] }] 49 2 #[1106, 1108, 575, 1110, 1112] #[{ accessFlags := 18, nameIndex := 13, descriptorIndex := 14, attributes := #[] }, { accessFlags := 18, nameIndex := 17, descriptorIndex := 18, attributes := #[] }, { accessFlags := 2, nameIndex := 21, descriptorIndex := 22, attributes := #[] }, { accessFlags := 2, nameIndex := 25, descriptorIndex := 26, attributes := #[] }, { accessFlags := 26, nameIndex := 1116, descriptorIndex := 1117, attributes := #[] }, { accessFlags := 24, nameIndex := 40, descriptorIndex := 26, attributes := #[] }, { accessFlags := 26, nameIndex := 1101, descriptorIndex := 1102, attributes := #[] }, { accessFlags := 26, nameIndex := 1121, descriptorIndex := 1122, attributes := #[] }, { accessFlags := 25, nameIndex := 599, descriptorIndex := 600, attributes := #[] }, { accessFlags := 24, nameIndex := 1125, descriptorIndex := 18, attributes := #[] }, { accessFlags := 24, nameIndex := 1127, descriptorIndex := 18, attributes := #[] }])
  fields := #[{ name := "value", type := (.array .byte), accessFlags := 18, slot := 0, constantValue := 0 }, { name := "coder", type := .byte, accessFlags := 18, slot := 1, constantValue := 0 }, { name := "hash", type := .int, accessFlags := 2, slot := 2, constantValue := 0 }, { name := "hashIsZero", type := .boolean, accessFlags := 2, slot := 3, constantValue := 0 }, { name := "serialVersionUID", type := .long, accessFlags := 26, slot := 0, constantValue := 0 }, { name := "COMPACT_STRINGS", type := .boolean, accessFlags := 24, slot := 1, constantValue := 0 }, { name := "serialPersistentFields", type := (.array (.object "java/io/ObjectStreamField")), accessFlags := 26, slot := 2, constantValue := 0 }, { name := "REPL", type := .char, accessFlags := 26, slot := 3, constantValue := 0 }, { name := "CASE_INSENSITIVE_ORDER", type := (.object "java/util/Comparator"), accessFlags := 25, slot := 4, constantValue := 0 }, { name := "LATIN1", type := .byte, accessFlags := 24, slot := 5, constantValue := 0 }, { name := "UTF16", type := .byte, accessFlags := 24, slot := 6, constantValue := 0 }]
  methods := #[k7m0, k7m1, k7m2]
  instanceTypes := #[(.array .byte), .byte, .int, .boolean]
  staticTypes := #[.long, .boolean, (.array (.object "java/io/ObjectStreamField")), .char, (.object "java/util/Comparator"), .byte, .byte]
  resolved := Array.replicate 1451 none
  statics := some 0 }

def pool8 : Array CpInfo := pool [(6, .class_ 8), (1, u "java/lang/Object"), (0, u "<init>"), (0, u "()V"), (1, .class_ 14), (1, u "java/lang/StringUTF16"), (31, u "$assertionsDisabled"), (0, u "Z"), (13, u "HI_BYTE_SHIFT"), (0, u "I"), (2, u "LO_BYTE_SHIFT"), (49, .methodref 12 116), (0, .nameAndType 117 118), (0, u "compress"), (0, u "([CI[BII)I"), (3, u "([CII)[B"), (138, u "coderFromArrayLen"), (0, u "([BI)B"), (106, .class_ 371), (1, u "java/lang/StringUTF16$LinesSpliterator"), (58, u "MAX_LENGTH"), (196, .class_ 628), (0, u "java/lang/StringUTF16$CodePointsSpliterator"), (0, .class_ 630), (0, u "java/lang/StringUTF16$CharsSpliterator")] 4

def k8m0 : Method := { name := "<init>", desc := "()V", sig := { parameters := [], returnType := none }, accessFlags := 0, code := none }
def k8c1 : Code := { maxStack := 2, maxLocals := 2, code := jdk_52_method_15_code, exceptionTable := #[], attributes := #[] }
def k8m1 : Method := { name := "coderFromArrayLen", desc := "([BI)B", sig := { parameters := [(.array .byte), .int], returnType := some .byte }, accessFlags := 8, code := some k8c1 }
def k8c2 : Code := { maxStack := 5, maxLocals := 6, code := jdk_52_method_16_code, exceptionTable := #[], attributes := #[] }
def k8m2 : Method := { name := "compress", desc := "([CII)[B", sig := { parameters := [(.array .char), .int, .int], returnType := some (.array .byte) }, accessFlags := 9, code := some k8c2 }
def k8c3 : Code := { maxStack := 3, maxLocals := 7, code := jdk_52_method_21_code, exceptionTable := #[], attributes := #[] }
def k8m3 : Method := { name := "compress", desc := "([CI[BII)I", sig := { parameters := [(.array .char), .int, (.array .byte), .int, .int], returnType := some .int }, accessFlags := 9, code := some k8c3 }
/-- java/lang/StringUTF16 -/
def k8 : Class := { plain "java/lang/StringUTF16" (some 0) with
  accessFlags := 48
  interfaces := #[]
  cf := some (fileOf pool8 12 #[.nestMembers #[627, 629, 369]] #[{ accessFlags := 0, nameIndex := 9, descriptorIndex := 10, attributes := #[] }, { accessFlags := 8, nameIndex := 261, descriptorIndex := 262, attributes := #[] }, { accessFlags := 9, nameIndex := 117, descriptorIndex := 122, attributes := #[] }, { accessFlags := 9, nameIndex := 117, descriptorIndex := 118, attributes := #[] }] 48 6 #[] #[{ accessFlags := 26, nameIndex := 61, descriptorIndex := 62, attributes := #[] }, { accessFlags := 26, nameIndex := 65, descriptorIndex := 62, attributes := #[] }, { accessFlags := 24, nameIndex := 430, descriptorIndex := 62, attributes := #[] }, { accessFlags := 4120, nameIndex := 46, descriptorIndex := 47, attributes := #[] }])
  fields := #[{ name := "HI_BYTE_SHIFT", type := .int, accessFlags := 26, slot := 0, constantValue := 0 }, { name := "LO_BYTE_SHIFT", type := .int, accessFlags := 26, slot := 1, constantValue := 0 }, { name := "MAX_LENGTH", type := .int, accessFlags := 24, slot := 2, constantValue := 0 }, { name := "$assertionsDisabled", type := .boolean, accessFlags := 4120, slot := 3, constantValue := 0 }]
  methods := #[k8m0, k8m1, k8m2, k8m3]
  instanceTypes := #[]
  staticTypes := #[.int, .int, .int, .boolean]
  resolved := Array.replicate 635 none
  statics := none }

def pool9 : Array CpInfo := pool [(1, .methodref 2 3), (0, .class_ 4), (0, .nameAndType 5 6), (0, u "java/lang/Object"), (0, u "<init>"), (0, u "()V"), (0, .fieldref 8 9), (0, .class_ 10), (0, .nameAndType 11 12), (0, u "com/example/subsumer/subsumer/core/Label"), (0, u "names"), (0, u "[Ljava/lang/String;"), (0, .fieldref 8 14), (0, .nameAndType 15 12), (0, u "negated"), (8, u "EMPTY"), (0, u "Lcom/example/subsumer/subsumer/core/Label;"), (17, u "([Ljava/lang/String;[Ljava/lang/String;)V"), (34, u "NONE")] 60

def k9c0 : Code := { maxStack := 2, maxLocals := 3, code := prog_14_method_1_code, exceptionTable := #[], attributes := #[] }
def k9m0 : Method := { name := "<init>", desc := "([Ljava/lang/String;[Ljava/lang/String;)V", sig := { parameters := [(.array (.object "java/lang/String")), (.array (.object "java/lang/String"))], returnType := none }, accessFlags := 0, code := some k9c0 }
/-- com/example/subsumer/subsumer/core/Label -/
def k9 : Class := { plain "com/example/subsumer/subsumer/core/Label" (some 0) with
  accessFlags := 49
  interfaces := #[]
  cf := some (fileOf pool9 8 #[] #[{ accessFlags := 0, nameIndex := 5, descriptorIndex := 43, attributes := #[] }] 49 2 #[] #[{ accessFlags := 24, nameIndex := 78, descriptorIndex := 12, attributes := #[] }, { accessFlags := 25, nameIndex := 24, descriptorIndex := 25, attributes := #[] }, { accessFlags := 16, nameIndex := 11, descriptorIndex := 12, attributes := #[] }, { accessFlags := 16, nameIndex := 15, descriptorIndex := 12, attributes := #[] }])
  fields := #[{ name := "NONE", type := (.array (.object "java/lang/String")), accessFlags := 24, slot := 0, constantValue := 0 }, { name := "EMPTY", type := (.object "com/example/subsumer/subsumer/core/Label"), accessFlags := 25, slot := 1, constantValue := 0 }, { name := "names", type := (.array (.object "java/lang/String")), accessFlags := 16, slot := 0, constantValue := 0 }, { name := "negated", type := (.array (.object "java/lang/String")), accessFlags := 16, slot := 1, constantValue := 0 }]
  methods := #[k9m0]
  instanceTypes := #[(.array (.object "java/lang/String")), (.array (.object "java/lang/String"))]
  staticTypes := #[(.array (.object "java/lang/String")), (.object "com/example/subsumer/subsumer/core/Label")]
  resolved := Array.replicate 139 none
  statics := some 1 }

def pool10 : Array CpInfo := pool [(8, .class_ 10), (1, u "java/lang/Iterable"), (24, .class_ 36), (0, u "java/lang/Object")] 25

/-- java/lang/Iterable -/
def k10 : Class := { plain "java/lang/Iterable" (some 0) with
  accessFlags := 1537
  interfaces := #[]
  cf := some (fileOf pool10 8 #[] #[] 1537 35 #[] #[])
  fields := #[]
  methods := #[]
  instanceTypes := #[]
  staticTypes := #[]
  resolved := Array.replicate 62 none
  statics := none }

def pool11 : Array CpInfo := pool [(10, .class_ 12), (1, u "java/util/Collection"), (47, .class_ 61), (0, u "java/lang/Object"), (0, .class_ 63), (0, u "java/lang/Iterable")] 51

/-- java/util/Collection -/
def k11 : Class := { plain "java/util/Collection" (some 0) with
  accessFlags := 1537
  interfaces := #[10]
  cf := some (fileOf pool11 10 #[] #[] 1537 60 #[62] #[])
  fields := #[]
  methods := #[]
  instanceTypes := #[]
  staticTypes := #[]
  resolved := Array.replicate 115 none
  statics := none }

def pool12 : Array CpInfo := pool [(1, .methodref 2 3), (0, .class_ 4), (0, .nameAndType 5 6), (0, u "java/lang/Object"), (0, u "<init>"), (0, u "()V"), (1, .class_ 10), (1, u "java/util/AbstractCollection"), (0, u "size"), (0, u "()I"), (64, .class_ 78), (0, u "java/util/Collection")] 81

def k12c0 : Code := { maxStack := 1, maxLocals := 1, code := jdk_22_method_1_code, exceptionTable := #[], attributes := #[] }
def k12m0 : Method := { name := "<init>", desc := "()V", sig := { parameters := [], returnType := none }, accessFlags := 4, code := some k12c0 }
def k12m1 : Method := { name := "size", desc := "()I", sig := { parameters := [], returnType := some .int }, accessFlags := 1025, code := none }
/-- java/util/AbstractCollection -/
def k12 : Class := { plain "java/util/AbstractCollection" (some 0) with
  accessFlags := 1057
  interfaces := #[11]
  cf := some (fileOf pool12 8 #[] #[{ accessFlags := 4, nameIndex := 5, descriptorIndex := 6, attributes := #[] }, { accessFlags := 1025, nameIndex := 11, descriptorIndex := 12, attributes := #[] }] 1057 2 #[77] #[])
  fields := #[]
  methods := #[k12m0, k12m1]
  instanceTypes := #[]
  staticTypes := #[]
  resolved := Array.replicate 160 none
  statics := none }

def pool13 : Array CpInfo := pool [(8, .class_ 10), (1, u "java/util/SequencedCollection"), (15, .class_ 27), (0, u "java/lang/Object"), (0, .class_ 29), (0, u "java/util/Collection")] 27

/-- java/util/SequencedCollection -/
def k13 : Class := { plain "java/util/SequencedCollection" (some 0) with
  accessFlags := 1537
  interfaces := #[11]
  cf := some (fileOf pool13 8 #[] #[] 1537 26 #[28] #[])
  fields := #[]
  methods := #[]
  instanceTypes := #[]
  staticTypes := #[]
  resolved := Array.replicate 57 none
  statics := none }

def pool14 : Array CpInfo := pool [(8, .class_ 10), (1, u "java/util/List"), (7, u "()Z"), (12, u "(Ljava/lang/Object;)V"), (16, u "<init>"), (18, u "isEmpty"), (7, u "get"), (0, u "(I)Ljava/lang/Object;"), (11, u "of"), (1, .fieldref 91 92), (0, .class_ 93), (0, .nameAndType 94 95), (0, u "java/util/ImmutableCollections"), (0, u "EMPTY_LIST"), (0, u "Ljava/util/ImmutableCollections$ListN;"), (0, .class_ 97), (0, u "java/util/ImmutableCollections$List12"), (0, .methodref 96 99), (0, .nameAndType 48 31), (3, .class_ 104), (0, u "java/lang/Object"), (14, u "()Ljava/util/List;"), (0, .class_ 121), (0, u "java/util/SequencedCollection"), (1, u "iterator"), (0, u "()Ljava/util/Iterator;"), (73, u "(Ljava/lang/Object;)Ljava/util/List;")] 52

def k14m0 : Method := { name := "isEmpty", desc := "()Z", sig := { parameters := [], returnType := some .boolean }, accessFlags := 1025, code := none }
def k14m1 : Method := { name := "iterator", desc := "()Ljava/util/Iterator;", sig := { parameters := [], returnType := some (.object "java/util/Iterator") }, accessFlags := 1025, code := none }
def k14m2 : Method := { name := "get", desc := "(I)Ljava/lang/Object;", sig := { parameters := [.int], returnType := some (.object "java/lang/Object") }, accessFlags := 1025, code := none }
def k14c3 : Code := { maxStack := 1, maxLocals := 0, code := jdk_40_method_36_code, exceptionTable := #[], attributes := #[] }
def k14m3 : Method := { name := "of", desc := "()Ljava/util/List;", sig := { parameters := [], returnType := some (.object "java/util/List") }, accessFlags := 9, code := some k14c3 }
def k14c4 : Code := { maxStack := 3, maxLocals := 1, code := jdk_40_method_37_code, exceptionTable := #[], attributes := #[] }
def k14m4 : Method := { name := "of", desc := "(Ljava/lang/Object;)Ljava/util/List;", sig := { parameters := [(.object "java/lang/Object")], returnType := some (.object "java/util/List") }, accessFlags := 9, code := some k14c4 }
/-- java/util/List -/
def k14 : Class := { plain "java/util/List" (some 0) with
  accessFlags := 1537
  interfaces := #[13]
  cf := some (fileOf pool14 8 #[] #[{ accessFlags := 1025, nameIndex := 67, descriptorIndex := 18, attributes := #[] }, { accessFlags := 1025, nameIndex := 123, descriptorIndex := 124, attributes := #[] }, { accessFlags := 1025, nameIndex := 75, descriptorIndex := 76, attributes := #[] }, { accessFlags := 9, nameIndex := 88, descriptorIndex := 119, attributes := #[] }, { accessFlags := 9, nameIndex := 88, descriptorIndex := 198, attributes := #[] }] 1537 103 #[120] #[])
  fields := #[]
  methods := #[k14m0, k14m1, k14m2, k14m3, k14m4]
  instanceTypes := #[]
  staticTypes := #[]
  resolved := Array.replicate 251 none
  statics := none }

def pool15 : Array CpInfo := pool [(1, .methodref 2 3), (0, .class_ 4), (0, .nameAndType 5 6), (0, u "java/util/AbstractCollection"), (0, u "<init>"), (0, u "()V"), (0, .fieldref 8 9), (0, .class_ 10), (0, .nameAndType 11 12), (0, u "java/util/AbstractList"), (0, u "modCount"), (0, u "I"), (64, .class_ 78), (0, u "java/util/AbstractList$Itr"), (3, .class_ 83), (0, u "java/util/AbstractList$ListItr"), (9, .class_ 94), (0, u "java/util/AbstractList$RandomAccessSubList"), (3, .class_ 99), (0, u "java/util/AbstractList$SubList"), (33, .class_ 134), (0, u "java/util/List"), (73, .class_ 209), (0, u "java/util/AbstractList$SubList$1"), (0, .class_ 211), (0, u "java/util/AbstractList$RandomAccessSpliterator")] 6

def k15c0 : Code := { maxStack := 2, maxLocals := 1, code := jdk_39_method_1_code, exceptionTable := #[], attributes := #[] }
def k15m0 : Method := { name := "<init>", desc := "()V", sig := { parameters := [], returnType := none }, accessFlags := 4, code := some k15c0 }
/-- java/util/AbstractList -/
def k15 : Class := { plain "java/util/AbstractList" (some 12) with
  accessFlags := 1057
  interfaces := #[14]
  cf := some (fileOf pool15 8 #[.nestMembers #[93, 98, 208, 210, 82, 77]] #[{ accessFlags := 4, nameIndex := 5, descriptorIndex := 6, attributes := #[] }] 1057 2 #[133] #[{ accessFlags := 132, nameIndex := 11, descriptorIndex := 12, attributes := #[] }])
  fields := #[{ name := "modCount", type := .int, accessFlags := 132, slot := 0, constantValue := 0 }]
  methods := #[k15m0]
  instanceTypes := #[.int]
  staticTypes := #[]
  resolved := Array.replicate 218 none
  statics := none }

def pool16 : Array CpInfo := pool [(1, .class_ 2), (0, u "java/util/RandomAccess"), (0, .class_ 4), (0, u "java/lang/Object")] 2

/-- java/util/RandomAccess -/
def k16 : Class := { plain "java/util/RandomAccess" (some 0) with
  accessFlags := 1537
  interfaces := #[]
  cf := some (fileOf pool16 1 #[] #[] 1537 3 #[] #[])
  fields := #[]
  methods := #[]
  instanceTypes := #[]
  staticTypes := #[]
  resolved := Array.replicate 7 none
  statics := none }

def pool17 : Array CpInfo := pool [(1, .class_ 2), (0, u "java/lang/Cloneable"), (0, .class_ 4), (0, u "java/lang/Object")] 2

/-- java/lang/Cloneable -/
def k17 : Class := { plain "java/lang/Cloneable" (some 0) with
  accessFlags := 1537
  interfaces := #[]
  cf := some (fileOf pool17 1 #[] #[] 1537 3 #[] #[])
  fields := #[]
  methods := #[]
  instanceTypes := #[]
  staticTypes := #[]
  resolved := Array.replicate 7 none
  statics := none }

def pool18 : Array CpInfo := pool [(1, .methodref 2 3), (0, .class_ 4), (0, .nameAndType 5 6), (0, u "java/util/AbstractList"), (0, u "<init>"), (0, u "()V"), (0, .class_ 8), (0, u "java/lang/Object"), (0, .fieldref 10 11), (0, .class_ 12), (0, .nameAndType 13 14), (0, u "java/util/ArrayList"), (0, u "elementData"), (0, u "[Ljava/lang/Object;"), (2, u "EMPTY_ELEMENTDATA"), (21, .fieldref 10 40), (0, .nameAndType 41 14), (0, u "DEFAULTCAPACITY_EMPTY_ELEMENTDATA"), (5, u "()[Ljava/lang/Object;"), (0, .fieldref 10 49), (0, .nameAndType 50 51), (0, u "size"), (0, u "I"), (11, .fieldref 10 64), (0, .nameAndType 65 51), (0, u "modCount"), (3, .methodref 10 70), (0, .nameAndType 71 72), (0, u "grow"), (0, u "(I)[Ljava/lang/Object;"), (6, .methodref 80 81), (0, .class_ 82), (0, .nameAndType 83 84), (0, u "java/lang/Math"), (0, u "max"), (0, u "(II)I"), (11, u "(Ljava/lang/Object;)Z"), (32, .methodref 10 130), (0, .nameAndType 71 47), (0, .methodref 10 132), (0, .nameAndType 133 134), (0, u "add"), (0, u "(Ljava/lang/Object;[Ljava/lang/Object;I)V"), (13, .class_ 149), (0, u "java/util/List"), (16, u "iterator"), (0, u "()Ljava/util/Iterator;"), (5, u "()Z"), (88, .class_ 263), (0, u "java/util/ArrayList$ListItr"), (3, .class_ 268), (0, u "java/util/ArrayList$Itr"), (0, .methodref 267 270), (0, .nameAndType 5 271), (0, u "(Ljava/util/ArrayList;)V"), (4, .class_ 277), (0, u "java/util/ArrayList$SubList"), (12, .class_ 291), (0, u "java/util/ArrayList$ArrayListSpliterator"), (37, .class_ 330), (0, u "java/util/RandomAccess"), (0, .class_ 332), (0, u "java/lang/Cloneable"), (0, .class_ 334), (0, u "java/io/Serializable"), (0, u "serialVersionUID"), (0, u "J"), (3, u "DEFAULT_CAPACITY"), (22, u "isEmpty"), (136, .class_ 501), (0, u "java/util/ArrayList$SubList$2"), (0, .class_ 503), (0, u "java/util/ArrayList$SubList$1")] 5

def k18c0 : Code := { maxStack := 2, maxLocals := 1, code := jdk_38_method_2_code, exceptionTable := #[], attributes := #[] }
def k18m0 : Method := { name := "<init>", desc := "()V", sig := { parameters := [], returnType := none }, accessFlags := 1, code := some k18c0 }
def k18c1 : Code := { maxStack := 4, maxLocals := 4, code := jdk_38_method_6_code, exceptionTable := #[], attributes := #[] }
def k18m1 : Method := { name := "grow", desc := "(I)[Ljava/lang/Object;", sig := { parameters := [.int], returnType := some (.array (.object "java/lang/Object")) }, accessFlags := 2, code := some k18c1 }
def k18c2 : Code := { maxStack := 3, maxLocals := 1, code := jdk_38_method_7_code, exceptionTable := #[], attributes := #[] }
def k18m2 : Method := { name := "grow", desc := "()[Ljava/lang/Object;", sig := { parameters := [], returnType := some (.array (.object "java/lang/Object")) }, accessFlags := 2, code := some k18c2 }
def k18c3 : Code := { maxStack := 1, maxLocals := 1, code := jdk_38_method_9_code, exceptionTable := #[], attributes := #[] }
def k18m3 : Method := { name := "isEmpty", desc := "()Z", sig := { parameters := [], returnType := some .boolean }, accessFlags := 1, code := some k18c3 }
def k18c4 : Code := { maxStack := 3, maxLocals := 4, code := jdk_38_method_24_code, exceptionTable := #[], attributes := #[] }
def k18m4 : Method := { name := "add", desc := "(Ljava/lang/Object;[Ljava/lang/Object;I)V", sig := { parameters := [(.object "java/lang/Object"), (.array (.object "java/lang/Object")), .int], returnType := none }, accessFlags := 2, code := some k18c4 }
def k18c5 : Code := { maxStack := 4, maxLocals := 2, code := jdk_38_method_25_code, exceptionTable := #[], attributes := #[] }
def k18m5 : Method := { name := "add", desc := "(Ljava/lang/Object;)Z", sig := { parameters := [(.object "java/lang/Object")], returnType := some .boolean }, accessFlags := 1, code := some k18c5 }
def k18c6 : Code := { maxStack := 3, maxLocals := 1, code := jdk_38_method_55_code, exceptionTable := #[], attributes := #[] }
def k18m6 : Method := { name := "iterator", desc := "()Ljava/util/Iterator;", sig := { parameters := [], returnType := some (.object "java/util/Iterator") }, accessFlags := 1, code := some k18c6 }
/-- java/util/ArrayList -/
def k18 : Class := { plain "java/util/ArrayList" (some 15) with
  accessFlags := 33
  interfaces := #[14, 16, 17, 2]
  cf := some (fileOf pool18 10 #[.nestMembers #[290, 276, 500, 502, 262, 267]] #[{ accessFlags := 1, nameIndex := 5, descriptorIndex := 6, attributes := #[] }, { accessFlags := 2, nameIndex := 71, descriptorIndex := 72, attributes := #[] }, { accessFlags := 2, nameIndex := 71, descriptorIndex := 47, attributes := #[] }, { accessFlags := 1, nameIndex := 363, descriptorIndex := 173, attributes := #[] }, { accessFlags := 2, nameIndex := 133, descriptorIndex := 134, attributes := #[] }, { accessFlags := 1, nameIndex := 133, descriptorIndex := 96, attributes := #[] }, { accessFlags := 1, nameIndex := 166, descriptorIndex := 167, attributes := #[] }] 33 2 #[148, 329, 331, 333] #[{ accessFlags := 26, nameIndex := 335, descriptorIndex := 336, attributes := #[] }, { accessFlags := 26, nameIndex := 340, descriptorIndex := 51, attributes := #[] }, { accessFlags := 26, nameIndex := 17, descriptorIndex := 14, attributes := #[] }, { accessFlags := 26, nameIndex := 41, descriptorIndex := 14, attributes := #[] }, { accessFlags := 128, nameIndex := 13, descriptorIndex := 14, attributes := #[] }, { accessFlags := 2, nameIndex := 50, descriptorIndex := 51, attributes := #[] }])
  fields := #[{ name := "serialVersionUID", type := .long, accessFlags := 26, slot := 0, constantValue := 0 }, { name := "DEFAULT_CAPACITY", type := .int, accessFlags := 26, slot := 1, constantValue := 0 }, { name := "EMPTY_ELEMENTDATA", type := (.array (.object "java/lang/Object")), accessFlags := 26, slot := 2, constantValue := 0 }, { name := "DEFAULTCAPACITY_EMPTY_ELEMENTDATA", type := (.array (.object "java/lang/Object")), accessFlags := 26, slot := 3, constantValue := 0 }, { name := "elementData", type := (.array (.object "java/lang/Object")), accessFlags := 128, slot := 1, constantValue := 0 }, { name := "size", type := .int, accessFlags := 2, slot := 2, constantValue := 0 }]
  methods := #[k18m0, k18m1, k18m2, k18m3, k18m4, k18m5, k18m6]
  instanceTypes := #[.int, (.array (.object "java/lang/Object")), .int]
  staticTypes := #[.long, .int, (.array (.object "java/lang/Object")), (.array (.object "java/lang/Object"))]
  resolved := Array.replicate 509 none
  statics := some 2 }

def pool19 : Array CpInfo := pool [(1, .interfaceMethodref 2 3), (0, .class_ 4), (0, .nameAndType 5 6), (0, u "java/util/List"), (0, u "of"), (0, u "()Ljava/util/List;"), (0, .methodref 8 9), (0, .class_ 10), (0, .nameAndType 11 12), (0, u "com/example/subsumer/subsumer/core/Description"), (0, u "<init>"), (0, u "(Lcom/example/subsumer/subsumer/core/Label;Ljava/util/List;Ljava/util/List;Ljava/util/List;Ljava/util/List;)V"), (0, .methodref 14 15), (0, .class_ 16), (0, .nameAndType 11 17), (0, u "java/lang/Object"), (0, u "()V"), (0, .fieldref 8 19), (0, .nameAndType 20 21), (0, u "label"), (0, u "Lcom/example/subsumer/subsumer/core/Label;"), (0, .fieldref 8 23), (0, .nameAndType 24 25), (0, u "existentials"), (0, u "Ljava/util/List;"), (0, .fieldref 8 27), (0, .nameAndType 28 25), (0, u "universals"), (0, .fieldref 8 30), (0, .nameAndType 31 25), (0, u "atLeast"), (0, .fieldref 8 33), (0, .nameAndType 34 25), (0, u "atMost"), (0, .interfaceMethodref 2 36), (0, .nameAndType 37 38), (0, u "isEmpty"), (0, u "()Z"), (0, .interfaceMethodref 2 40), (0, .nameAndType 41 42), (0, u "iterator"), (0, u "()Ljava/util/Iterator;"), (0, .interfaceMethodref 44 45), (0, .class_ 46), (0, .nameAndType 47 38), (0, u "java/util/Iterator"), (0, u "hasNext"), (0, .interfaceMethodref 44 49), (0, .nameAndType 50 51), (0, u "next"), (0, u "()Ljava/lang/Object;"), (0, .class_ 53), (0, u "com/example/subsumer/subsumer/core/Existential"), (0, .methodref 52 55), (0, .nameAndType 56 57), (0, u "filler"), (0, u "()Lcom/example/subsumer/subsumer/core/Description;"), (0, .fieldref 8 59), (0, .nameAndType 60 61), (0, u "numberInside"), (0, u "Z"), (3, .fieldref 8 66), (0, .nameAndType 67 61), (0, u "existentialInside"), (0, .fieldref 8 69), (0, .nameAndType 70 71), (0, u "TOP"), (0, u "Lcom/example/subsumer/subsumer/core/Description;"), (0, .fieldref 8 73), (0, .nameAndType 74 71), (0, u "BOTTOM"), (0, .class_ 76), (0, u "com/example/subsumer/subsumer/core/Label"), (9, .methodref 8 87), (0, .nameAndType 11 88), (0, u "(Lcom/example/subsumer/subsumer/core/Label;Ljava/util/List;Ljava/util/List;)V"), (0, .methodref 8 90), (0, .nameAndType 91 38), (0, u "isBottom"), (0, .fieldref 75 93), (0, .nameAndType 94 21), (0, u "EMPTY"), (0, .methodref 52 96), (0, .nameAndType 11 97), (0, u "(Ljava/lang/String;Lcom/example/subsumer/subsumer/core/Description;)V"), (0, .interfaceMethodref 2 99), (0, .nameAndType 5 100), (0, u "(Ljava/lang/Object;)Ljava/util/List;"), (135, u "top"), (0, u "bottom"), (0, u "some"), (0, u "(Ljava/lang/String;Lcom/example/subsumer/subsumer/core/Description;)Lcom/example/subsumer/subsumer/core/Description;")] 38

def k19c0 : Code := { maxStack := 6, maxLocals := 4, code := prog_3_method_1_code, exceptionTable := #[], attributes := #[] }
def k19m0 : Method := { name := "<init>", desc := "(Lcom/example/subsumer/subsumer/core/Label;Ljava/util/List;Ljava/util/List;)V", sig := { parameters := [(.object "com/example/subsumer/subsumer/core/Label"), (.object "java/util/List"), (.object "java/util/List")], returnType := none }, accessFlags := 0, code := some k19c0 }
def k19c1 : Code := { maxStack := 2, maxLocals := 10, code := prog_3_method_2_code, exceptionTable := #[], attributes := #[] }
def k19m1 : Method := { name := "<init>", desc := "(Lcom/example/subsumer/subsumer/core/Label;Ljava/util/List;Ljava/util/List;Ljava/util/List;Ljava/util/List;)V", sig := { parameters := [(.object "com/example/subsumer/subsumer/core/Label"), (.object "java/util/List"), (.object "java/util/List"), (.object "java/util/List"), (.object "java/util/List")], returnType := none }, accessFlags := 0, code := some k19c1 }
def k19c2 : Code := { maxStack := 1, maxLocals := 0, code := prog_3_method_3_code, exceptionTable := #[], attributes := #[] }
def k19m2 : Method := { name := "top", desc := "()Lcom/example/subsumer/subsumer/core/Description;", sig := { parameters := [], returnType := some (.object "com/example/subsumer/subsumer/core/Description") }, accessFlags := 9, code := some k19c2 }
def k19c3 : Code := { maxStack := 1, maxLocals := 0, code := prog_3_method_4_code, exceptionTable := #[], attributes := #[] }
def k19m3 : Method := { name := "bottom", desc := "()Lcom/example/subsumer/subsumer/core/Description;", sig := { parameters := [], returnType := some (.object "com/example/subsumer/subsumer/core/Description") }, accessFlags := 9, code := some k19c3 }
def k19c4 : Code := { maxStack := 7, maxLocals := 2, code := prog_3_method_7_code, exceptionTable := #[], attributes := #[] }
def k19m4 : Method := { name := "some", desc := "(Ljava/lang/String;Lcom/example/subsumer/subsumer/core/Description;)Lcom/example/subsumer/subsumer/core/Description;", sig := { parameters := [(.object "java/lang/String"), (.object "com/example/subsumer/subsumer/core/Description")], returnType := some (.object "com/example/subsumer/subsumer/core/Description") }, accessFlags := 9, code := some k19c4 }
def k19c5 : Code := { maxStack := 2, maxLocals := 1, code := prog_3_method_21_code, exceptionTable := #[], attributes := #[] }
def k19m5 : Method := { name := "isBottom", desc := "()Z", sig := { parameters := [], returnType := some .boolean }, accessFlags := 1, code := some k19c5 }
/-- com/example/subsumer/subsumer/core/Description -/
def k19 : Class := { plain "com/example/subsumer/subsumer/core/Description" (some 0) with
  accessFlags := 49
  interfaces := #[]
  cf := some (fileOf pool19 8 #[] #[{ accessFlags := 0, nameIndex := 11, descriptorIndex := 88, attributes := #[] }, { accessFlags := 0, nameIndex := 11, descriptorIndex := 12, attributes := #[] }, { accessFlags := 9, nameIndex := 236, descriptorIndex := 57, attributes := #[] }, { accessFlags := 9, nameIndex := 237, descriptorIndex := 57, attributes := #[] }, { accessFlags := 9, nameIndex := 238, descriptorIndex := 239, attributes := #[] }, { accessFlags := 1, nameIndex := 91, descriptorIndex := 38, attributes := #[] }] 49 14 #[] #[{ accessFlags := 26, nameIndex := 70, descriptorIndex := 71, attributes := #[] }, { accessFlags := 26, nameIndex := 74, descriptorIndex := 71, attributes := #[] }, { accessFlags := 16, nameIndex := 20, descriptorIndex := 21, attributes := #[] }, { accessFlags := 18, nameIndex := 24, descriptorIndex := 25, attributes := #[] }, { accessFlags := 18, nameIndex := 28, descriptorIndex := 25, attributes := #[] }, { accessFlags := 18, nameIndex := 31, descriptorIndex := 25, attributes := #[] }, { accessFlags := 18, nameIndex := 34, descriptorIndex := 25, attributes := #[] }, { accessFlags := 18, nameIndex := 67, descriptorIndex := 61, attributes := #[] }, { accessFlags := 18, nameIndex := 60, descriptorIndex := 61, attributes := #[] }])
  fields := #[{ name := "TOP", type := (.object "com/example/subsumer/subsumer/core/Description"), accessFlags := 26, slot := 0, constantValue := 0 }, { name := "BOTTOM", type := (.object "com/example/subsumer/subsumer/core/Description"), accessFlags := 26, slot := 1, constantValue := 0 }, { name := "label", type := (.object "com/example/subsumer/subsumer/core/Label"), accessFlags := 16, slot := 0, constantValue := 0 }, { name := "existentials", type := (.object "java/util/List"), accessFlags := 18, slot := 1, constantValue := 0 }, { name := "universals", type := (.object "java/util/List"), accessFlags := 18, slot := 2, constantValue := 0 }, { name := "atLeast", type := (.object "java/util/List"), accessFlags := 18, slot := 3, constantValue := 0 }, { name := "atMost", type := (.object "java/util/List"), accessFlags := 18, slot := 4, constantValue := 0 }, { name := "existentialInside", type := .boolean, accessFlags := 18, slot := 5, constantValue := 0 }, { name := "numberInside", type := .boolean, accessFlags := 18, slot := 6, constantValue := 0 }]
  methods := #[k19m0, k19m1, k19m2, k19m3, k19m4, k19m5]
  instanceTypes := #[(.object "com/example/subsumer/subsumer/core/Label"), (.object "java/util/List"), (.object "java/util/List"), (.object "java/util/List"), (.object "java/util/List"), .boolean, .boolean]
  staticTypes := #[(.object "com/example/subsumer/subsumer/core/Description"), (.object "com/example/subsumer/subsumer/core/Description")]
  resolved := Array.replicate 278 none
  statics := some 3 }

def pool20 : Array CpInfo := pool [(16, .class_ 18), (1, u "java/util/Iterator"), (0, u "hasNext"), (0, u "()Z"), (2, u "next"), (0, u "()Ljava/lang/Object;"), (6, .class_ 32), (0, u "java/lang/Object")] 20

def k20m0 : Method := { name := "hasNext", desc := "()Z", sig := { parameters := [], returnType := some .boolean }, accessFlags := 1025, code := none }
def k20m1 : Method := { name := "next", desc := "()Ljava/lang/Object;", sig := { parameters := [], returnType := some (.object "java/lang/Object") }, accessFlags := 1025, code := none }
/-- java/util/Iterator -/
def k20 : Class := { plain "java/util/Iterator" (some 0) with
  accessFlags := 1537
  interfaces := #[]
  cf := some (fileOf pool20 16 #[] #[{ accessFlags := 1025, nameIndex := 19, descriptorIndex := 20, attributes := #[] }, { accessFlags := 1025, nameIndex := 23, descriptorIndex := 24, attributes := #[] }] 1537 31 #[] #[])
  fields := #[]
  methods := #[k20m0, k20m1]
  instanceTypes := #[]
  staticTypes := #[]
  resolved := Array.replicate 53 none
  statics := none }

def pool21 : Array CpInfo := pool [(1, .fieldref 2 3), (0, .class_ 4), (0, .nameAndType 5 6), (0, u "java/util/ArrayList$Itr"), (0, u "this$0"), (0, u "Ljava/util/ArrayList;"), (0, .methodref 8 9), (0, .class_ 10), (0, .nameAndType 11 12), (0, u "java/lang/Object"), (0, u "<init>"), (0, u "()V"), (0, .fieldref 2 14), (0, .nameAndType 15 16), (0, u "lastRet"), (0, u "I"), (0, .fieldref 18 19), (0, .class_ 20), (0, .nameAndType 21 16), (0, u "java/util/ArrayList"), (0, u "modCount"), (0, .fieldref 2 23), (0, .nameAndType 24 16), (0, u "expectedModCount"), (0, .fieldref 2 26), (0, .nameAndType 27 16), (0, u "cursor"), (0, .fieldref 18 29), (0, .nameAndType 30 16), (0, u "size"), (38, .class_ 70), (0, u "java/util/Iterator"), (0, u "(Ljava/util/ArrayList;)V"), (8, u "hasNext"), (0, u "()Z")] 22

def k21c0 : Code := { maxStack := 2, maxLocals := 2, code := jdk_49_method_1_code, exceptionTable := #[], attributes := #[] }
def k21m0 : Method := { name := "<init>", desc := "(Ljava/util/ArrayList;)V", sig := { parameters := [(.object "java/util/ArrayList")], returnType := none }, accessFlags := 0, code := some k21c0 }
def k21c1 : Code := { maxStack := 2, maxLocals := 1, code := jdk_49_method_2_code, exceptionTable := #[], attributes := #[] }
def k21m1 : Method := { name := "hasNext", desc := "()Z", sig := { parameters := [], returnType := some .boolean }, accessFlags := 1, code := some k21c1 }
/-- java/util/ArrayList$Itr -/
def k21 : Class := { plain "java/util/ArrayList$Itr" (some 0) with
  accessFlags := 32
  interfaces := #[20]
  cf := some (fileOf pool21 2 #[.nestHost 18] #[{ accessFlags := 0, nameIndex := 11, descriptorIndex := 71, attributes := #[] }, { accessFlags := 1, nameIndex := 80, descriptorIndex := 81, attributes := #[] }] 32 8 #[69] #[{ accessFlags := 0, nameIndex := 27, descriptorIndex := 16, attributes := #[] }, { accessFlags := 0, nameIndex := 15, descriptorIndex := 16, attributes := #[] }, { accessFlags := 0, nameIndex := 24, descriptorIndex := 16, attributes := #[] }, { accessFlags := 4112, nameIndex := 5, descriptorIndex := 6, attributes := #[] }])
  fields := #[{ name := "cursor", type := .int, accessFlags := 0, slot := 0, constantValue := 0 }, { name := "lastRet", type := .int, accessFlags := 0, slot := 1, constantValue := 0 }, { name := "expectedModCount", type := .int, accessFlags := 0, slot := 2, constantValue := 0 }, { name := "this$0", type := (.object "java/util/ArrayList"), accessFlags := 4112, slot := 3, constantValue := 0 }]
  methods := #[k21m0, k21m1]
  instanceTypes := #[.int, .int, .int, (.object "java/util/ArrayList")]
  staticTypes := #[]
  resolved := Array.replicate 104 none
  statics := none }

def pool22 : Array CpInfo := pool [(1, .methodref 2 3), (0, .class_ 4), (0, .nameAndType 5 6), (0, u "java/lang/Object"), (0, u "<init>"), (0, u "()V"), (0, .class_ 8), (0, u "java/lang/Record")] 13

def k22c0 : Code := { maxStack := 1, maxLocals := 1, code := jdk_30_method_1_code, exceptionTable := #[], attributes := #[] }
def k22m0 : Method := { name := "<init>", desc := "()V", sig := { parameters := [], returnType := none }, accessFlags := 4, code := some k22c0 }
/-- java/lang/Record -/
def k22 : Class := { plain "java/lang/Record" (some 0) with
  accessFlags := 1057
  interfaces := #[]
  cf := some (fileOf pool22 7 #[] #[{ accessFlags := 4, nameIndex := 5, descriptorIndex := 6, attributes := #[] }] 1057 2 #[] #[])
  fields := #[]
  methods := #[k22m0]
  instanceTypes := #[]
  staticTypes := #[]
  resolved := Array.replicate 22 none
  statics := none }

def pool23 : Array CpInfo := pool [(1, .methodref 2 3), (0, .class_ 4), (0, .nameAndType 5 6), (0, u "java/lang/Record"), (0, u "<init>"), (0, u "()V"), (0, .fieldref 8 9), (0, .class_ 10), (0, .nameAndType 11 12), (0, u "com/example/subsumer/subsumer/core/Existential"), (0, u "property"), (0, u "Ljava/lang/String;"), (0, .fieldref 8 14), (0, .nameAndType 15 16), (0, u "filler"), (0, u "Lcom/example/subsumer/subsumer/core/Description;"), (12, u "(Ljava/lang/String;Lcom/example/subsumer/subsumer/core/Description;)V"), (6, u "()Lcom/example/subsumer/subsumer/core/Description;")] 21

def k23c0 : Code := { maxStack := 2, maxLocals := 3, code := prog_12_method_1_code, exceptionTable := #[], attributes := #[] }
def k23m0 : Method := { name := "<init>", desc := "(Ljava/lang/String;Lcom/example/subsumer/subsumer/core/Description;)V", sig := { parameters := [(.object "java/lang/String"), (.object "com/example/subsumer/subsumer/core/Description")], returnType := none }, accessFlags := 1, code := some k23c0 }
def k23c1 : Code := { maxStack := 1, maxLocals := 1, code := prog_12_method_6_code, exceptionTable := #[], attributes := #[] }
def k23m1 : Method := { name := "filler", desc := "()Lcom/example/subsumer/subsumer/core/Description;", sig := { parameters := [], returnType := some (.object "com/example/subsumer/subsumer/core/Description") }, accessFlags := 1, code := some k23c1 }
/-- com/example/subsumer/subsumer/core/Existential -/
def k23 : Class := { plain "com/example/subsumer/subsumer/core/Existential" (some 22) with
  accessFlags := 49
  interfaces := #[]
  cf := some (fileOf pool23 8 #[] #[{ accessFlags := 1, nameIndex := 5, descriptorIndex := 29, attributes := #[] }, { accessFlags := 1, nameIndex := 15, descriptorIndex := 36, attributes := #[] }] 49 2 #[] #[{ accessFlags := 18, nameIndex := 11, descriptorIndex := 12, attributes := #[] }, { accessFlags := 18, nameIndex := 15, descriptorIndex := 16, attributes := #[] }])
  fields := #[{ name := "property", type := (.object "java/lang/String"), accessFlags := 18, slot := 0, constantValue := 0 }, { name := "filler", type := (.object "com/example/subsumer/subsumer/core/Description"), accessFlags := 18, slot := 1, constantValue := 0 }]
  methods := #[k23m0, k23m1]
  instanceTypes := #[(.object "java/lang/String"), (.object "com/example/subsumer/subsumer/core/Description")]
  staticTypes := #[]
  resolved := Array.replicate 58 none
  statics := none }

def pool24 : Array CpInfo := pool [(1, .methodref 2 3), (0, .class_ 4), (0, .nameAndType 5 6), (0, u "java/util/AbstractCollection"), (0, u "<init>"), (0, u "()V"), (1, .class_ 10), (1, u "java/util/ImmutableCollections"), (2, .class_ 14), (0, u "java/util/ImmutableCollections$AbstractImmutableCollection")] 41

def k24c0 : Code := { maxStack := 1, maxLocals := 1, code := jdk_47_method_1_code, exceptionTable := #[], attributes := #[] }
def k24m0 : Method := { name := "<init>", desc := "()V", sig := { parameters := [], returnType := none }, accessFlags := 0, code := some k24c0 }
/-- java/util/ImmutableCollections$AbstractImmutableCollection -/
def k24 : Class := { plain "java/util/ImmutableCollections$AbstractImmutableCollection" (some 12) with
  accessFlags := 1056
  interfaces := #[]
  cf := some (fileOf pool24 13 #[.nestHost 8] #[{ accessFlags := 0, nameIndex := 5, descriptorIndex := 6, attributes := #[] }] 1056 2 #[] #[])
  fields := #[]
  methods := #[k24m0]
  instanceTypes := #[]
  staticTypes := #[]
  resolved := Array.replicate 56 none
  statics := none }

def pool25 : Array CpInfo := pool [(1, .methodref 2 3), (0, .class_ 4), (0, .nameAndType 5 6), (0, u "java/util/ImmutableCollections$AbstractImmutableCollection"), (0, u "<init>"), (0, u "()V"), (1, .class_ 10), (1, u "java/util/ImmutableCollections"), (2, .methodref 14 15), (0, .class_ 16), (0, .nameAndType 17 18), (0, u "java/util/ImmutableCollections$AbstractImmutableList"), (0, u "size"), (0, u "()I"), (42, .class_ 62), (0, u "java/util/ImmutableCollections$ListItr"), (0, .methodref 61 64), (0, .nameAndType 5 65), (0, u "(Ljava/util/List;I)V"), (11, .class_ 78), (0, u "java/util/List"), (2, u "iterator"), (0, u "()Ljava/util/Iterator;"), (41, .class_ 125), (0, u "java/util/RandomAccess")] 70

def k25c0 : Code := { maxStack := 1, maxLocals := 1, code := jdk_46_method_1_code, exceptionTable := #[], attributes := #[] }
def k25m0 : Method := { name := "<init>", desc := "()V", sig := { parameters := [], returnType := none }, accessFlags := 0, code := some k25c0 }
def k25c1 : Code := { maxStack := 4, maxLocals := 1, code := jdk_46_method_10_code, exceptionTable := #[], attributes := #[] }
def k25m1 : Method := { name := "iterator", desc := "()Ljava/util/Iterator;", sig := { parameters := [], returnType := some (.object "java/util/Iterator") }, accessFlags := 1, code := some k25c1 }
/-- java/util/ImmutableCollections$AbstractImmutableList -/
def k25 : Class := { plain "java/util/ImmutableCollections$AbstractImmutableList" (some 24) with
  accessFlags := 1056
  interfaces := #[14, 16]
  cf := some (fileOf pool25 14 #[.nestHost 8] #[{ accessFlags := 0, nameIndex := 5, descriptorIndex := 6, attributes := #[] }, { accessFlags := 1, nameIndex := 81, descriptorIndex := 82, attributes := #[] }] 1056 2 #[77, 124] #[])
  fields := #[]
  methods := #[k25m0, k25m1]
  instanceTypes := #[]
  staticTypes := #[]
  resolved := Array.replicate 196 none
  statics := none }

def pool26 : Array CpInfo := pool [(1, .methodref 2 3), (0, .class_ 4), (0, .nameAndType 5 6), (0, u "java/util/ImmutableCollections$AbstractImmutableList"), (0, u "<init>"), (0, u "()V"), (0, .methodref 8 9), (0, .class_ 10), (0, .nameAndType 11 12), (0, u "java/util/Objects"), (0, u "requireNonNull"), (0, u "(Ljava/lang/Object;)Ljava/lang/Object;"), (0, .fieldref 14 15), (0, .class_ 16), (0, .nameAndType 17 18), (0, u "java/util/ImmutableCollections$List12"), (0, u "e0"), (0, u "Ljava/lang/Object;"), (0, .fieldref 20 21), (0, .class_ 22), (0, .nameAndType 23 18), (0, u "java/util/ImmutableCollections"), (0, u "EMPTY"), (0, .fieldref 14 25), (0, .nameAndType 26 18), (0, u "e1"), (24, u "size"), (0, u "()I"), (17, .class_ 71), (0, u "java/io/Serializable"), (4, u "(Ljava/lang/Object;)V"), (11, u "isEmpty"), (0, u "()Z"), (0, u "get"), (0, u "(I)Ljava/lang/Object;")] 33

def k26c0 : Code := { maxStack := 2, maxLocals := 2, code := jdk_44_method_1_code, exceptionTable := #[], attributes := #[] }
def k26m0 : Method := { name := "<init>", desc := "(Ljava/lang/Object;)V", sig := { parameters := [(.object "java/lang/Object")], returnType := none }, accessFlags := 0, code := some k26c0 }
def k26c1 : Code := { maxStack := 2, maxLocals := 1, code := jdk_44_method_3_code, exceptionTable := #[], attributes := #[] }
def k26m1 : Method := { name := "size", desc := "()I", sig := { parameters := [], returnType := some .int }, accessFlags := 1, code := some k26c1 }
def k26c2 : Code := { maxStack := 1, maxLocals := 1, code := jdk_44_method_4_code, exceptionTable := #[], attributes := #[] }
def k26m2 : Method := { name := "isEmpty", desc := "()Z", sig := { parameters := [], returnType := some .boolean }, accessFlags := 1, code := some k26c2 }
def k26c3 : Code := { maxStack := 2, maxLocals := 2, code := jdk_44_method_5_code, exceptionTable := #[], attributes := #[] }
def k26m3 : Method := { name := "get", desc := "(I)Ljava/lang/Object;", sig := { parameters := [.int], returnType := some (.object "java/lang/Object") }, accessFlags := 1, code := some k26c3 }
/-- java/util/ImmutableCollections$List12 -/
def k26 : Class := { plain "java/util/ImmutableCollections$List12" (some 25) with
  accessFlags := 48
  interfaces := #[2]
  cf := some (fileOf pool26 14 #[.nestHost 20] #[{ accessFlags := 0, nameIndex := 5, descriptorIndex := 76, attributes := #[] }, { accessFlags := 1, nameIndex := 51, descriptorIndex := 52, attributes := #[] }, { accessFlags := 1, nameIndex := 88, descriptorIndex := 89, attributes := #[] }, { accessFlags := 1, nameIndex := 90, descriptorIndex := 91, attributes := #[] }] 48 2 #[70] #[{ accessFlags := 18, nameIndex := 17, descriptorIndex := 18, attributes := #[] }, { accessFlags := 18, nameIndex := 26, descriptorIndex := 18, attributes := #[] }])
  fields := #[{ name := "e0", type := (.object "java/lang/Object"), accessFlags := 18, slot := 0, constantValue := 0 }, { name := "e1", type := (.object "java/lang/Object"), accessFlags := 18, slot := 1, constantValue := 0 }]
  methods := #[k26m0, k26m1, k26m2, k26m3]
  instanceTypes := #[(.object "java/lang/Object"), (.object "java/lang/Object")]
  staticTypes := #[]
  resolved := Array.replicate 125 none
  statics := none }

def pool27 : Array CpInfo := pool [(2, .class_ 4), (1, u "java/lang/Object"), (0, u "<init>"), (0, u "()V"), (35, .class_ 44), (1, u "java/util/Objects"), (0, u "requireNonNull"), (0, u "(Ljava/lang/Object;)Ljava/lang/Object;")] 137

def k27m0 : Method := { name := "<init>", desc := "()V", sig := { parameters := [], returnType := none }, accessFlags := 2, code := none }
def k27c1 : Code := { maxStack := 2, maxLocals := 1, code := jdk_31_method_10_code, exceptionTable := #[], attributes := #[] }
def k27m1 : Method := { name := "requireNonNull", desc := "(Ljava/lang/Object;)Ljava/lang/Object;", sig := { parameters := [(.object "java/lang/Object")], returnType := some (.object "java/lang/Object") }, accessFlags := 9, code := some k27c1 }
/-- java/util/Objects -/
def k27 : Class := { plain "java/util/Objects" (some 0) with
  accessFlags := 49
  interfaces := #[]
  cf := some (fileOf pool27 42 #[] #[{ accessFlags := 2, nameIndex := 5, descriptorIndex := 6, attributes := #[] }, { accessFlags := 9, nameIndex := 45, descriptorIndex := 46, attributes := #[] }] 49 2 #[] #[])
  fields := #[]
  methods := #[k27m0, k27m1]
  instanceTypes := #[]
  staticTypes := #[]
  resolved := Array.replicate 184 none
  statics := none }

def pool28 : Array CpInfo := pool [(2, .class_ 4), (1, u "java/lang/Object"), (0, u "<init>"), (0, u "()V"), (3, .class_ 11), (0, u "java/util/ImmutableCollections$List12"), (0, .class_ 13), (0, u "java/util/ImmutableCollections$ListN"), (3, u "Z"), (29, .class_ 49), (1, u "java/util/ImmutableCollections"), (0, u "$assertionsDisabled"), (5, u "[Ljava/lang/Object;"), (5, u "EMPTY_LIST"), (0, u "Ljava/util/ImmutableCollections$ListN;"), (8, u "EMPTY_LIST_NULLS"), (22, u "SALT32L"), (0, u "J"), (2, u "REVERSE"), (6, u "archivedObjects"), (2, u "EMPTY"), (0, u "Ljava/lang/Object;"), (0, .class_ 112), (0, u "java/util/ImmutableCollections$SetN"), (5, u "EMPTY_SET"), (0, u "Ljava/util/ImmutableCollections$SetN;"), (0, .class_ 121), (0, u "java/util/ImmutableCollections$MapN"), (3, u "EMPTY_MAP"), (0, u "Ljava/util/ImmutableCollections$MapN;"), (4, u "EXPAND_FACTOR"), (0, u "I"), (36, .class_ 170), (0, u "java/util/ImmutableCollections$MapN$MapNIterator"), (0, .class_ 172), (0, u "java/util/ImmutableCollections$MapN$1"), (0, .class_ 174), (0, u "java/util/ImmutableCollections$Map1"), (0, .class_ 176), (0, u "java/util/ImmutableCollections$AbstractImmutableMap"), (0, .class_ 178), (0, u "java/util/ImmutableCollections$SetN$SetNIterator"), (0, .class_ 180), (0, u "java/util/ImmutableCollections$Set12"), (0, .class_ 182), (0, u "java/util/ImmutableCollections$Set12$1"), (0, .class_ 184), (0, u "java/util/ImmutableCollections$AbstractImmutableSet"), (0, .class_ 186), (0, u "java/util/ImmutableCollections$SubList"), (0, .class_ 188), (0, u "java/util/ImmutableCollections$ListItr"), (0, .class_ 190), (0, u "java/util/ImmutableCollections$AbstractImmutableList"), (0, .class_ 192), (0, u "java/util/ImmutableCollections$AbstractImmutableCollection"), (0, .class_ 194), (0, u "java/util/ImmutableCollections$Access"), (0, .class_ 196), (0, u "java/util/ImmutableCollections$Access$1")] 16

def k28m0 : Method := { name := "<init>", desc := "()V", sig := { parameters := [], returnType := none }, accessFlags := 2, code := none }
/-- java/util/ImmutableCollections -/
def k28 : Class := { plain "java/util/ImmutableCollections" (some 0) with
  accessFlags := 32
  interfaces := #[]
  cf := some (fileOf pool28 47 #[.nestMembers #[120, 169, 171, 173, 175, 111, 177, 179, 181, 183, 12, 10, 185, 187, 189, 191, 193, 195]] #[{ accessFlags := 2, nameIndex := 5, descriptorIndex := 6, attributes := #[] }] 32 2 #[] #[{ accessFlags := 26, nameIndex := 95, descriptorIndex := 96, attributes := #[] }, { accessFlags := 26, nameIndex := 99, descriptorIndex := 17, attributes := #[] }, { accessFlags := 10, nameIndex := 106, descriptorIndex := 56, attributes := #[] }, { accessFlags := 26, nameIndex := 109, descriptorIndex := 110, attributes := #[] }, { accessFlags := 24, nameIndex := 62, descriptorIndex := 63, attributes := #[] }, { accessFlags := 24, nameIndex := 72, descriptorIndex := 63, attributes := #[] }, { accessFlags := 24, nameIndex := 118, descriptorIndex := 119, attributes := #[] }, { accessFlags := 24, nameIndex := 125, descriptorIndex := 126, attributes := #[] }, { accessFlags := 24, nameIndex := 131, descriptorIndex := 132, attributes := #[] }, { accessFlags := 4120, nameIndex := 50, descriptorIndex := 17, attributes := #[] }])
  fields := #[{ name := "SALT32L", type := .long, accessFlags := 26, slot := 0, constantValue := 0 }, { name := "REVERSE", type := .boolean, accessFlags := 26, slot := 1, constantValue := 0 }, { name := "archivedObjects", type := (.array (.object "java/lang/Object")), accessFlags := 10, slot := 2, constantValue := 0 }, { name := "EMPTY", type := (.object "java/lang/Object"), accessFlags := 26, slot := 3, constantValue := 0 }, { name := "EMPTY_LIST", type := (.object "java/util/ImmutableCollections$ListN"), accessFlags := 24, slot := 4, constantValue := 0 }, { name := "EMPTY_LIST_NULLS", type := (.object "java/util/ImmutableCollections$ListN"), accessFlags := 24, slot := 5, constantValue := 0 }, { name := "EMPTY_SET", type := (.object "java/util/ImmutableCollections$SetN"), accessFlags := 24, slot := 6, constantValue := 0 }, { name := "EMPTY_MAP", type := (.object "java/util/ImmutableCollections$MapN"), accessFlags := 24, slot := 7, constantValue := 0 }, { name := "EXPAND_FACTOR", type := .int, accessFlags := 24, slot := 8, constantValue := 0 }, { name := "$assertionsDisabled", type := .boolean, accessFlags := 4120, slot := 9, constantValue := 0 }]
  methods := #[k28m0]
  instanceTypes := #[]
  staticTypes := #[.long, .boolean, (.array (.object "java/lang/Object")), (.object "java/lang/Object"), (.object "java/util/ImmutableCollections$ListN"), (.object "java/util/ImmutableCollections$ListN"), (.object "java/util/ImmutableCollections$SetN"), (.object "java/util/ImmutableCollections$MapN"), .int, .boolean]
  resolved := Array.replicate 213 none
  statics := some 4 }

def pool29 : Array CpInfo := pool [(2, .class_ 4), (1, u "java/util/ImmutableCollections$AbstractImmutableList"), (2, .fieldref 8 9), (0, .class_ 10), (0, .nameAndType 11 12), (0, u "java/util/ImmutableCollections$ListN"), (0, u "elements"), (0, u "[Ljava/lang/Object;"), (2, u "allowNulls"), (0, u "Z"), (42, .class_ 60), (0, u "java/io/Serializable"), (13, u "isEmpty"), (0, u "()Z"), (1, u "size"), (0, u "()I"), (35, .class_ 115), (0, u "java/util/ImmutableCollections")] 3

def k29c0 : Code := { maxStack := 1, maxLocals := 1, code := jdk_45_method_2_code, exceptionTable := #[], attributes := #[] }
def k29m0 : Method := { name := "isEmpty", desc := "()Z", sig := { parameters := [], returnType := some .boolean }, accessFlags := 1, code := some k29c0 }
def k29c1 : Code := { maxStack := 1, maxLocals := 1, code := jdk_45_method_3_code, exceptionTable := #[], attributes := #[] }
def k29m1 : Method := { name := "size", desc := "()I", sig := { parameters := [], returnType := some .int }, accessFlags := 1, code := some k29c1 }
/-- java/util/ImmutableCollections$ListN -/
def k29 : Class := { plain "java/util/ImmutableCollections$ListN" (some 25) with
  accessFlags := 48
  interfaces := #[2]
  cf := some (fileOf pool29 8 #[.nestHost 114] #[{ accessFlags := 1, nameIndex := 74, descriptorIndex := 75, attributes := #[] }, { accessFlags := 1, nameIndex := 77, descriptorIndex := 78, attributes := #[] }] 48 2 #[59] #[{ accessFlags := 18, nameIndex := 11, descriptorIndex := 12, attributes := #[] }, { accessFlags := 18, nameIndex := 15, descriptorIndex := 16, attributes := #[] }])
  fields := #[{ name := "elements", type := (.array (.object "java/lang/Object")), accessFlags := 18, slot := 0, constantValue := 0 }, { name := "allowNulls", type := .boolean, accessFlags := 18, slot := 1, constantValue := 0 }]
  methods := #[k29m0, k29m1]
  instanceTypes := #[(.array (.object "java/lang/Object")), .boolean]
  staticTypes := #[]
  resolved := Array.replicate 119 none
  statics := none }

def pool30 : Array CpInfo := pool [(1, .class_ 2), (0, u "java/util/ListIterator"), (0, .class_ 4), (0, u "java/lang/Object"), (0, .class_ 6), (0, u "java/util/Iterator")] 20

/-- java/util/ListIterator -/
def k30 : Class := { plain "java/util/ListIterator" (some 0) with
  accessFlags := 1537
  interfaces := #[20]
  cf := some (fileOf pool30 1 #[] #[] 1537 3 #[5] #[])
  fields := #[]
  methods := #[]
  instanceTypes := #[]
  staticTypes := #[]
  resolved := Array.replicate 27 none
  statics := none }

def pool31 : Array CpInfo := pool [(1, .methodref 2 3), (0, .class_ 4), (0, .nameAndType 5 6), (0, u "java/lang/Object"), (0, u "<init>"), (0, u "()V"), (0, .fieldref 8 9), (0, .class_ 10), (0, .nameAndType 11 12), (0, u "java/util/ImmutableCollections$ListItr"), (0, u "list"), (0, u "Ljava/util/List;"), (0, .fieldref 8 14), (0, .nameAndType 15 16), (0, u "size"), (0, u "I"), (0, .fieldref 8 18), (0, .nameAndType 19 16), (0, u "cursor"), (0, .fieldref 8 21), (0, .nameAndType 22 23), (0, u "isListIterator"), (0, u "Z"), (0, .interfaceMethodref 25 26), (0, .class_ 27), (0, .nameAndType 28 29), (0, u "java/util/List"), (0, u "get"), (0, u "(I)Ljava/lang/Object;"), (6, .class_ 38), (1, u "java/util/ImmutableCollections"), (2, .class_ 42), (0, u "java/util/ListIterator"), (4, u "(Ljava/util/List;I)V"), (11, u "hasNext"), (0, u "()Z"), (1, u "next"), (0, u "()Ljava/lang/Object;")] 22

def k31c0 : Code := { maxStack := 2, maxLocals := 3, code := jdk_53_method_1_code, exceptionTable := #[], attributes := #[] }
def k31m0 : Method := { name := "<init>", desc := "(Ljava/util/List;I)V", sig := { parameters := [(.object "java/util/List"), .int], returnType := none }, accessFlags := 0, code := some k31c0 }
def k31c1 : Code := { maxStack := 2, maxLocals := 1, code := jdk_53_method_3_code, exceptionTable := #[], attributes := #[] }
def k31m1 : Method := { name := "hasNext", desc := "()Z", sig := { parameters := [], returnType := some .boolean }, accessFlags := 1, code := some k31c1 }
def k31c2 : Code := { maxStack := 3, maxLocals := 3, code := jdk_53_method_4_code, exceptionTable := #[{ startPc := 0, endPc := 24, handlerPc := 25, catchType := 30 }], attributes := #[] }
def k31m2 : Method := { name := "next", desc := "()Ljava/lang/Object;", sig := { parameters := [], returnType := some (.object "java/lang/Object") }, accessFlags := 1, code := some k31c2 }
/-- java/util/ImmutableCollections$ListItr -/
def k31 : Class := { plain "java/util/ImmutableCollections$ListItr" (some 0) with
  accessFlags := 48
  interfaces := #[30]
  cf := some (fileOf pool31 8 #[.nestHost 36] #[{ accessFlags := 0, nameIndex := 5, descriptorIndex := 47, attributes := #[] }, { accessFlags := 1, nameIndex := 59, descriptorIndex := 60, attributes := #[] }, { accessFlags := 1, nameIndex := 62, descriptorIndex := 63, attributes := #[] }] 48 2 #[41] #[{ accessFlags := 18, nameIndex := 11, descriptorIndex := 12, attributes := #[] }, { accessFlags := 18, nameIndex := 15, descriptorIndex := 16, attributes := #[] }, { accessFlags := 18, nameIndex := 22, descriptorIndex := 23, attributes := #[] }, { accessFlags := 2, nameIndex := 19, descriptorIndex := 16, attributes := #[] }])
  fields := #[{ name := "list", type := (.object "java/util/List"), accessFlags := 18, slot := 0, constantValue := 0 }, { name := "size", type := .int, accessFlags := 18, slot := 1, constantValue := 0 }, { name := "isListIterator", type := .boolean, accessFlags := 18, slot := 2, constantValue := 0 }, { name := "cursor", type := .int, accessFlags := 2, slot := 3, constantValue := 0 }]
  methods := #[k31m0, k31m1, k31m2]
  instanceTypes := #[(.object "java/util/List"), .int, .boolean, .int]
  staticTypes := #[]
  resolved := Array.replicate 86 none
  statics := none }

def pool32 : Array CpInfo := pool [(1, .methodref 2 3), (0, .class_ 4), (0, .nameAndType 5 6), (0, u "java/lang/Record"), (0, u "<init>"), (0, u "()V"), (0, .fieldref 8 9), (0, .class_ 10), (0, .nameAndType 11 12), (0, u "com/example/subsumer/subsumer/core/AtLeast"), (0, u "property"), (0, u "Ljava/lang/String;"), (0, .fieldref 8 14), (0, .nameAndType 15 16), (0, u "number"), (0, u "I"), (12, u "(Ljava/lang/String;I)V")] 27

def k32c0 : Code := { maxStack := 2, maxLocals := 3, code := prog_1_method_1_code, exceptionTable := #[], attributes := #[] }
def k32m0 : Method := { name := "<init>", desc := "(Ljava/lang/String;I)V", sig := { parameters := [(.object "java/lang/String"), .int], returnType := none }, accessFlags := 1, code := some k32c0 }
/-- com/example/subsumer/subsumer/core/AtLeast -/
def k32 : Class := { plain "com/example/subsumer/subsumer/core/AtLeast" (some 22) with
  accessFlags := 49
  interfaces := #[]
  cf := some (fileOf pool32 8 #[] #[{ accessFlags := 1, nameIndex := 5, descriptorIndex := 29, attributes := #[] }] 49 2 #[] #[{ accessFlags := 18, nameIndex := 11, descriptorIndex := 12, attributes := #[] }, { accessFlags := 18, nameIndex := 15, descriptorIndex := 16, attributes := #[] }])
  fields := #[{ name := "property", type := (.object "java/lang/String"), accessFlags := 18, slot := 0, constantValue := 0 }, { name := "number", type := .int, accessFlags := 18, slot := 1, constantValue := 0 }]
  methods := #[k32m0]
  instanceTypes := #[(.object "java/lang/String"), .int]
  staticTypes := #[]
  resolved := Array.replicate 57 none
  statics := none }

def pool33 : Array CpInfo := pool [(1, .class_ 2), (0, u "java/lang/Math"), (1, .class_ 6), (1, u "java/lang/Object"), (0, u "<init>"), (0, u "()V"), (89, .class_ 100), (1, u "java/lang/Math$RandomNumberGeneratorHolder"), (71, u "negativeZeroFloatBits"), (0, u "J"), (2, u "negativeZeroDoubleBits"), (21, u "max"), (46, u "$assertionsDisabled"), (0, u "Z"), (88, u "(II)I"), (2, u "twoToTheDoubleScaleDown"), (0, u "D"), (4, u "twoToTheDoubleScaleUp"), (9, u "E"), (3, u "PI"), (2, u "TAU"), (2, u "DEGREES_TO_RADIANS"), (0, u "RADIANS_TO_DEGREES")] 94

def k33m0 : Method := { name := "<init>", desc := "()V", sig := { parameters := [], returnType := none }, accessFlags := 2, code := none }
def k33c1 : Code := { maxStack := 2, maxLocals := 2, code := jdk_29_method_65_code, exceptionTable := #[], attributes := #[] }
def k33m1 : Method := { name := "max", desc := "(II)I", sig := { parameters := [.int, .int], returnType := some .int }, accessFlags := 9, code := some k33c1 }
/-- java/lang/Math -/
def k33 : Class := { plain "java/lang/Math" (some 0) with
  accessFlags := 49
  interfaces := #[]
  cf := some (fileOf pool33 1 #[.nestMembers #[98]] #[{ accessFlags := 2, nameIndex := 7, descriptorIndex := 8, attributes := #[] }, { accessFlags := 9, nameIndex := 198, descriptorIndex := 335, attributes := #[] }] 49 4 #[] #[{ accessFlags := 25, nameIndex := 354, descriptorIndex := 339, attributes := #[] }, { accessFlags := 25, nameIndex := 358, descriptorIndex := 339, attributes := #[] }, { accessFlags := 25, nameIndex := 361, descriptorIndex := 339, attributes := #[] }, { accessFlags := 26, nameIndex := 364, descriptorIndex := 339, attributes := #[] }, { accessFlags := 26, nameIndex := 365, descriptorIndex := 339, attributes := #[] }, { accessFlags := 26, nameIndex := 172, descriptorIndex := 173, attributes := #[] }, { accessFlags := 26, nameIndex := 176, descriptorIndex := 173, attributes := #[] }, { accessFlags := 8, nameIndex := 344, descriptorIndex := 339, attributes := #[] }, { accessFlags := 8, nameIndex := 338, descriptorIndex := 339, attributes := #[] }, { accessFlags := 4120, nameIndex := 245, descriptorIndex := 246, attributes := #[] }])
  fields := #[{ name := "E", type := .double, accessFlags := 25, slot := 0, constantValue := 0 }, { name := "PI", type := .double, accessFlags := 25, slot := 1, constantValue := 0 }, { name := "TAU", type := .double, accessFlags := 25, slot := 2, constantValue := 0 }, { name := "DEGREES_TO_RADIANS", type := .double, accessFlags := 26, slot := 3, constantValue := 0 }, { name := "RADIANS_TO_DEGREES", type := .double, accessFlags := 26, slot := 4, constantValue := 0 }, { name := "negativeZeroFloatBits", type := .long, accessFlags := 26, slot := 5, constantValue := 0 }, { name := "negativeZeroDoubleBits", type := .long, accessFlags := 26, slot := 6, constantValue := 0 }, { name := "twoToTheDoubleScaleUp", type := .double, accessFlags := 8, slot := 7, constantValue := 0 }, { name := "twoToTheDoubleScaleDown", type := .double, accessFlags := 8, slot := 8, constantValue := 0 }, { name := "$assertionsDisabled", type := .boolean, accessFlags := 4120, slot := 9, constantValue := 0 }]
  methods := #[k33m0, k33m1]
  instanceTypes := #[]
  staticTypes := #[.double, .double, .double, .double, .double, .long, .long, .double, .double, .boolean]
  resolved := Array.replicate 460 none
  statics := none }

def pool34 : Array CpInfo := pool [(4, .class_ 6), (1, u "java/lang/Object"), (0, u "<init>"), (0, u "()V"), (5, .class_ 16), (1, u "java/lang/StringLatin1"), (104, u "$assertionsDisabled"), (0, u "Z"), (98, .class_ 223), (1, u "java/lang/StringLatin1$LinesSpliterator"), (166, .class_ 391), (0, u "java/lang/StringLatin1$CharsSpliterator")] 3

def k34m0 : Method := { name := "<init>", desc := "()V", sig := { parameters := [], returnType := none }, accessFlags := 0, code := none }
/-- java/lang/StringLatin1 -/
def k34 : Class := { plain "java/lang/StringLatin1" (some 0) with
  accessFlags := 48
  interfaces := #[]
  cf := some (fileOf pool34 14 #[.nestMembers #[390, 221]] #[{ accessFlags := 0, nameIndex := 7, descriptorIndex := 8, attributes := #[] }] 48 4 #[] #[{ accessFlags := 4120, nameIndex := 121, descriptorIndex := 122, attributes := #[] }])
  fields := #[{ name := "$assertionsDisabled", type := .boolean, accessFlags := 4120, slot := 0, constantValue := 0 }]
  methods := #[k34m0]
  instanceTypes := #[]
  staticTypes := #[.boolean]
  resolved := Array.replicate 395 none
  statics := none }

def pool35 : Array CpInfo := pool [(2, .class_ 4), (1, u "java/lang/Object"), (0, u "<init>"), (0, u "()V"), (17, .class_ 26), (1, u "jdk/internal/util/Preconditions"), (28, .class_ 56), (0, u "jdk/internal/util/Preconditions$4"), (57, .class_ 115), (0, u "jdk/internal/util/Preconditions$1"), (7, u "SIOOBE_FORMATTER"), (0, u "Ljava/util/function/BiFunction;"), (0, .class_ 126), (0, u "jdk/internal/util/Preconditions$2"), (3, u "AIOOBE_FORMATTER"), (0, .class_ 132), (0, u "jdk/internal/util/Preconditions$3"), (3, u "IOOBE_FORMATTER")] 57

def k35m0 : Method := { name := "<init>", desc := "()V", sig := { parameters := [], returnType := none }, accessFlags := 1, code := none }
/-- jdk/internal/util/Preconditions -/
def k35 : Class := { plain "jdk/internal/util/Preconditions" (some 0) with
  accessFlags := 33
  interfaces := #[]
  cf := some (fileOf pool35 24 #[.nestMembers #[55, 131, 125, 114]] #[{ accessFlags := 1, nameIndex := 5, descriptorIndex := 6, attributes := #[] }] 33 2 #[] #[{ accessFlags := 25, nameIndex := 123, descriptorIndex := 124, attributes := #[] }, { accessFlags := 25, nameIndex := 130, descriptorIndex := 124, attributes := #[] }, { accessFlags := 25, nameIndex := 136, descriptorIndex := 124, attributes := #[] }])
  fields := #[{ name := "SIOOBE_FORMATTER", type := (.object "java/util/function/BiFunction"), accessFlags := 25, slot := 0, constantValue := 0 }, { name := "AIOOBE_FORMATTER", type := (.object "java/util/function/BiFunction"), accessFlags := 25, slot := 1, constantValue := 0 }, { name := "IOOBE_FORMATTER", type := (.object "java/util/function/BiFunction"), accessFlags := 25, slot := 2, constantValue := 0 }]
  methods := #[k35m0]
  instanceTypes := #[]
  staticTypes := #[(.object "java/util/function/BiFunction"), (.object "java/util/function/BiFunction"), (.object "java/util/function/BiFunction")]
  resolved := Array.replicate 194 none
  statics := some 5 }

def pool36 : Array CpInfo := pool [(9, u "<init>"), (6, .class_ 18), (1, u "java/lang/Object"), (0, u "()V"), (1, .class_ 23), (1, u "jdk/internal/util/ArraysSupport"), (0, u "LOG2_ARRAY_LONG_INDEX_SCALE"), (0, u "I"), (2, u "U"), (0, u "Ljdk/internal/misc/Unsafe;"), (8, u "BIG_ENDIAN"), (0, u "Z"), (8, u "LOG2_BYTE_BIT_SIZE"), (4, u "LOG2_ARRAY_INT_INDEX_SCALE"), (54, u "JLA"), (0, u "Ljdk/internal/access/JavaLangAccess;"), (11, u "LOG2_ARRAY_BOOLEAN_INDEX_SCALE"), (9, u "LOG2_ARRAY_BYTE_INDEX_SCALE"), (5, u "LOG2_ARRAY_CHAR_INDEX_SCALE"), (5, u "LOG2_ARRAY_SHORT_INDEX_SCALE"), (18, u "LOG2_ARRAY_FLOAT_INDEX_SCALE"), (24, u "LOG2_ARRAY_DOUBLE_INDEX_SCALE"), (89, u "T_BOOLEAN"), (2, u "T_CHAR"), (1, u "T_FLOAT"), (1, u "T_DOUBLE"), (1, u "T_BYTE"), (1, u "T_SHORT"), (1, u "T_INT"), (1, u "T_LONG"), (1, u "SOFT_MAX_ARRAY_LENGTH")] 83

def k36m0 : Method := { name := "<init>", desc := "()V", sig := { parameters := [], returnType := none }, accessFlags := 2, code := none }
/-- jdk/internal/util/ArraysSupport -/
def k36 : Class := { plain "jdk/internal/util/ArraysSupport" (some 0) with
  accessFlags := 33
  interfaces := #[]
  cf := some (fileOf pool36 21 #[] #[{ accessFlags := 2, nameIndex := 9, descriptorIndex := 19, attributes := #[] }] 33 16 #[] #[{ accessFlags := 24, nameIndex := 28, descriptorIndex := 29, attributes := #[] }, { accessFlags := 26, nameIndex := 38, descriptorIndex := 39, attributes := #[] }, { accessFlags := 25, nameIndex := 121, descriptorIndex := 25, attributes := #[] }, { accessFlags := 25, nameIndex := 131, descriptorIndex := 25, attributes := #[] }, { accessFlags := 25, nameIndex := 137, descriptorIndex := 25, attributes := #[] }, { accessFlags := 25, nameIndex := 143, descriptorIndex := 25, attributes := #[] }, { accessFlags := 25, nameIndex := 53, descriptorIndex := 25, attributes := #[] }, { accessFlags := 25, nameIndex := 24, descriptorIndex := 25, attributes := #[] }, { accessFlags := 25, nameIndex := 162, descriptorIndex := 25, attributes := #[] }, { accessFlags := 25, nameIndex := 187, descriptorIndex := 25, attributes := #[] }, { accessFlags := 26, nameIndex := 48, descriptorIndex := 25, attributes := #[] }, { accessFlags := 25, nameIndex := 277, descriptorIndex := 25, attributes := #[] }, { accessFlags := 25, nameIndex := 280, descriptorIndex := 25, attributes := #[] }, { accessFlags := 25, nameIndex := 282, descriptorIndex := 25, attributes := #[] }, { accessFlags := 25, nameIndex := 284, descriptorIndex := 25, attributes := #[] }, { accessFlags := 25, nameIndex := 286, descriptorIndex := 25, attributes := #[] }, { accessFlags := 25, nameIndex := 288, descriptorIndex := 25, attributes := #[] }, { accessFlags := 25, nameIndex := 290, descriptorIndex := 25, attributes := #[] }, { accessFlags := 25, nameIndex := 292, descriptorIndex := 25, attributes := #[] }, { accessFlags := 26, nameIndex := 108, descriptorIndex := 109, attributes := #[] }, { accessFlags := 25, nameIndex := 294, descriptorIndex := 25, attributes := #[] }])
  fields := #[{ name := "U", type := (.object "jdk/internal/misc/Unsafe"), accessFlags := 24, slot := 0, constantValue := 0 }, { name := "BIG_ENDIAN", type := .boolean, accessFlags := 26, slot := 1, constantValue := 0 }, { name := "LOG2_ARRAY_BOOLEAN_INDEX_SCALE", type := .int, accessFlags := 25, slot := 2, constantValue := 0 }, { name := "LOG2_ARRAY_BYTE_INDEX_SCALE", type := .int, accessFlags := 25, slot := 3, constantValue := 0 }, { name := "LOG2_ARRAY_CHAR_INDEX_SCALE", type := .int, accessFlags := 25, slot := 4, constantValue := 0 }, { name := "LOG2_ARRAY_SHORT_INDEX_SCALE", type := .int, accessFlags := 25, slot := 5, constantValue := 0 }, { name := "LOG2_ARRAY_INT_INDEX_SCALE", type := .int, accessFlags := 25, slot := 6, constantValue := 0 }, { name := "LOG2_ARRAY_LONG_INDEX_SCALE", type := .int, accessFlags := 25, slot := 7, constantValue := 0 }, { name := "LOG2_ARRAY_FLOAT_INDEX_SCALE", type := .int, accessFlags := 25, slot := 8, constantValue := 0 }, { name := "LOG2_ARRAY_DOUBLE_INDEX_SCALE", type := .int, accessFlags := 25, slot := 9, constantValue := 0 }, { name := "LOG2_BYTE_BIT_SIZE", type := .int, accessFlags := 26, slot := 10, constantValue := 0 }, { name := "T_BOOLEAN", type := .int, accessFlags := 25, slot := 11, constantValue := 0 }, { name := "T_CHAR", type := .int, accessFlags := 25, slot := 12, constantValue := 0 }, { name := "T_FLOAT", type := .int, accessFlags := 25, slot := 13, constantValue := 0 }, { name := "T_DOUBLE", type := .int, accessFlags := 25, slot := 14, constantValue := 0 }, { name := "T_BYTE", type := .int, accessFlags := 25, slot := 15, constantValue := 0 }, { name := "T_SHORT", type := .int, accessFlags := 25, slot := 16, constantValue := 0 }, { name := "T_INT", type := .int, accessFlags := 25, slot := 17, constantValue := 0 }, { name := "T_LONG", type := .int, accessFlags := 25, slot := 18, constantValue := 0 }, { name := "JLA", type := (.object "jdk/internal/access/JavaLangAccess"), accessFlags := 26, slot := 19, constantValue := 0 }, { name := "SOFT_MAX_ARRAY_LENGTH", type := .int, accessFlags := 25, slot := 20, constantValue := 0 }]
  methods := #[k36m0]
  instanceTypes := #[]
  staticTypes := #[(.object "jdk/internal/misc/Unsafe"), .boolean, .int, .int, .int, .int, .int, .int, .int, .int, .int, .int, .int, .int, .int, .int, .int, .int, .int, (.object "jdk/internal/access/JavaLangAccess"), .int]
  resolved := Array.replicate 378 none
  statics := none }

/-- the primitive byte -/
def k37 : Class := { plain "byte" none with kind := .primitive 'B', accessFlags := 0x411 }
/-- [B -/
def k38 : Class := { plain "[B" (some 0) with kind := .array 37 .byte, interfaces := #[17, 2], accessFlags := 1041 }

/-- the primitive char -/
def k39 : Class := { plain "char" none with kind := .primitive 'C', accessFlags := 0x411 }
/-- [C -/
def k40 : Class := { plain "[C" (some 0) with kind := .array 39 .char, interfaces := #[17, 2], accessFlags := 1041 }

/-- the primitive int -/
def k41 : Class := { plain "int" none with kind := .primitive 'I', accessFlags := 0x411 }
/-- [I -/
def k42 : Class := { plain "[I" (some 0) with kind := .array 41 .int, interfaces := #[17, 2], accessFlags := 1041 }

/-- [Ljava/lang/Object; -/
def k43 : Class := { plain "[Ljava/lang/Object;" (some 0) with kind := .array 0 (.object "java/lang/Object"), interfaces := #[17, 2], accessFlags := 1041 }

/-- [Ljava/lang/String; -/
def k44 : Class := { plain "[Ljava/lang/String;" (some 0) with kind := .array 7 (.object "java/lang/String"), interfaces := #[17, 2], accessFlags := 1041 }

def heap : Heap := #[{ cls := 7, slots := #[.long 0, .int 1, .null, .int 0, .null, .int 0, .int 0], vm := .statics 7 },
  { cls := 9, slots := #[.null, .ref 8], vm := .statics 9 },
  { cls := 18, slots := #[.long 0, .int 0, .ref 12, .ref 13], vm := .statics 18 },
  { cls := 19, slots := #[.ref 10, .ref 11], vm := .statics 19 },
  { cls := 28, slots := #[.long 0, .int 0, .null, .ref 14, .ref 9, .null, .null, .null, .int 0, .int 1], vm := .statics 28 },
  { cls := 35, slots := #[.null, .null, .null], vm := .statics 35 },
  { cls := 44, slots := #[], vm := .none },
  { cls := 43, slots := #[], vm := .none },
  { cls := 9, slots := #[.ref 6, .ref 6], vm := .none },
  { cls := 29, slots := #[.ref 7, .int 0], vm := .none },
  { cls := 19, slots := #[.ref 8, .ref 9, .ref 9, .ref 9, .ref 9, .int 0, .int 0], vm := .none },
  { cls := 19, slots := #[.ref 8, .ref 9, .ref 9, .ref 9, .ref 9, .int 0, .int 0], vm := .none },
  { cls := 43, slots := #[], vm := .none },
  { cls := 43, slots := #[], vm := .none },
  { cls := 0, slots := #[], vm := .none }]
def classes : Array Class := #[k0, k1, k2, k3, k4, k5, k6, k7, k8, k9, k10, k11, k12, k13, k14, k15, k16, k17, k18, k19, k20, k21, k22, k23, k24, k25, k26, k27, k28, k29, k30, k31, k32, k33, k34, k35, k36, k37, k38, k39, k40, k41, k42, k43, k44]
def interned : List (Array UInt16 × Addr) := []
def slotsUsed : Nat := 46
def theMethod : MethodId := ⟨1, 1⟩
def args0 : Array Value := #[.int 5, .int 63, .int 65]
def aboutOver (below : List Frame) : State where
  vm := { classes := classes, interned := interned.toArray }
  heap := heap
  slotsUsed := slotsUsed
  threads := #[{ frames := .invoking theMethod args0 :: below }]
def below0 : List Frame := [.native { method := ⟨0, 0⟩, args := #[] }]
def about1 : State := aboutOver below0
def p0 : Program := .bare "" "" ""
def e0 : Env := launch0.env 0 0 0
theorem w_frames : about1.frames = Frame.invoking theMethod args0 :: below0 := rfl
set_option maxRecDepth 65536 in
theorem w_args : argsFit about1.vm theMethod args0 = true := by decide +kernel
set_option maxRecDepth 65536 in
theorem w_heap : heapFits about1 = true := by decide +kernel
set_option maxRecDepth 65536 in
theorem w_runnable : about1.curStatus? = some .runnable := by decide +kernel
set_option maxRecDepth 65536 in
theorem w_alone : about1.alone = true := by decide +kernel
set_option maxRecDepth 65536 in
theorem w_named : about1.methodNamed? x = some theMethod := by decide +kernel
set_option maxRecDepth 65536 in
theorem w_hears : about1.hears theMethod below0 = true := by decide +kernel
set_option maxRecDepth 65536 in
theorem w_ripe : about1.ripe theMethod args0 below0 = true := by decide +kernel
theorem w_running : about1.status = .running := rfl
set_option maxRecDepth 65536 in
theorem w_room : about1.hasRoom e0.platform room_1 = true :=
  launch0.hasRoom_least _ room_1 (by decide +kernel) (by decide +kernel) (by decide +kernel) (by decide +kernel) (by decide +kernel) (by decide +kernel)
theorem allAtoms_all (ts : List Jvm.Cond) (a : Array Jvm.Value) (st : Jvm.State) : (allAtoms ts).before a st = ts.all (fun c => c.before a st) := by
  induction ts with
  | nil => rfl
  | cons c t ih =>
    show (Jvm.Cond.and c (allAtoms t)).before a st = _
    rw [Jvm.Cond.before_and, ih, List.all_cons]
def words1 : List Jvm.Cond := Jvm.Cond.code x code maxLocals ret :: tables_1
/-- a 'code' word, met by the world's own term for the bytes: nothing is compared byte by byte -/
theorem code_word {y : MethodName} {bytes : ByteArray} {mx : Nat} {rt : Option FieldType} {a : Array Value} {s : State} {m : MethodId} {meth : Method} {c : Code} (h1 : s.methodNamed? y = some m) (h2 : s.vm.method? m = some meth) (h3 : meth.code = some c) (h4 : c.code = bytes)
    (h5 : (c.maxLocals == mx && c.exceptionTable.isEmpty && decide (c.maxStack ≤ mostOperands) && decide (meth.sig.returnType = rt) && !meth.locks && decide (parseMethodDescriptor y.desc = some meth.sig)) = true) : (Jvm.Cond.code y bytes mx rt).before a s = true := by
  simp only [Bool.and_eq_true, beq_iff_eq, Bool.not_eq_true', decide_eq_true_eq] at h5
  obtain ⟨⟨⟨⟨⟨g1, g2⟩, g3⟩, g4⟩, g5⟩, g6⟩ := h5
  simp [Cond.before, Cond.holds, Cond.value, h1, h2, h3, h4, g1, g2, g3, g4, g5, g6]
def isCode : Jvm.Cond → Bool
  | .code _ _ _ _ => true
  | _ => false
theorem all_split {L : List Jvm.Cond} {P : Jvm.Cond → Bool} (h1 : L.all (fun c => isCode c || P c) = true) (h2 : ∀ c ∈ L.filter isCode, P c = true) : L.all P = true := by
  refine List.all_eq_true.mpr fun c hc => ?_
  have h := List.all_eq_true.mp h1 c hc
  rcases Bool.eq_false_or_eq_true (isCode c) with hi | hi
  · exact h2 c (List.mem_filter.mpr ⟨hc, hi⟩)
  · simpa [hi] using h
set_option maxRecDepth 65536 in
theorem w_c0 : (Jvm.Cond.code x code maxLocals ret).before args0 about1 = true := code_word (m := ⟨1, 1⟩) (meth := k1m1) (c := k1c1) (by decide +kernel) rfl rfl rfl (by decide +kernel)
set_option maxRecDepth 65536 in
theorem w_c1 : (Jvm.Cond.code ({ cls := "java/lang/String", name := "<init>", desc := "([C)V" } : Jvm.MethodName) jdk_42_method_3_code (2 : Nat) (Option.none : Option Jvm.ClassFile.FieldType)).before args0 about1 = true := code_word (m := ⟨7, 1⟩) (meth := k7m1) (c := k7c1) (by decide +kernel) rfl rfl rfl (by decide +kernel)
set_option maxRecDepth 65536 in
theorem w_c2 : (Jvm.Cond.code ({ cls := "java/lang/String", name := "<init>", desc := "([CIILjava/lang/Void;)V" } : Jvm.MethodName) jdk_42_method_149_code (6 : Nat) (Option.none : Option Jvm.ClassFile.FieldType)).before args0 about1 = true := code_word (m := ⟨7, 2⟩) (meth := k7m2) (c := k7c2) (by decide +kernel) rfl rfl rfl (by decide +kernel)
set_option maxRecDepth 65536 in
theorem w_c3 : (Jvm.Cond.code ({ cls := "java/lang/Object", name := "<init>", desc := "()V" } : Jvm.MethodName) object_method_1_code (1 : Nat) (Option.none : Option Jvm.ClassFile.FieldType)).before args0 about1 = true := code_word (m := ⟨0, 0⟩) (meth := k0m0) (c := k0c0) (by decide +kernel) rfl rfl rfl (by decide +kernel)
set_option maxRecDepth 65536 in
theorem w_c4 : (Jvm.Cond.code ({ cls := "java/lang/StringUTF16", name := "compress", desc := "([CII)[B" } : Jvm.MethodName) jdk_52_method_16_code (6 : Nat) (Option.some (Jvm.ClassFile.FieldType.array Jvm.ClassFile.FieldType.byte))).before args0 about1 = true := code_word (m := ⟨8, 2⟩) (meth := k8m2) (c := k8c2) (by decide +kernel) rfl rfl rfl (by decide +kernel)
set_option maxRecDepth 65536 in
theorem w_c5 : (Jvm.Cond.code ({ cls := "java/lang/StringUTF16", name := "compress", desc := "([CI[BII)I" } : Jvm.MethodName) jdk_52_method_21_code (7 : Nat) (Option.some Jvm.ClassFile.FieldType.int)).before args0 about1 = true := code_word (m := ⟨8, 3⟩) (meth := k8m3) (c := k8c3) (by decide +kernel) rfl rfl rfl (by decide +kernel)
set_option maxRecDepth 65536 in
theorem w_c6 : (Jvm.Cond.code ({ cls := "java/lang/StringUTF16", name := "coderFromArrayLen", desc := "([BI)B" } : Jvm.MethodName) jdk_52_method_15_code (2 : Nat) (Option.some Jvm.ClassFile.FieldType.byte)).before args0 about1 = true := code_word (m := ⟨8, 1⟩) (meth := k8m1) (c := k8c1) (by decide +kernel) rfl rfl rfl (by decide +kernel)
set_option maxRecDepth 65536 in
theorem w_c7 : (Jvm.Cond.code ({ cls := "java/util/ArrayList", name := "<init>", desc := "()V" } : Jvm.MethodName) jdk_38_method_2_code (1 : Nat) (Option.none : Option Jvm.ClassFile.FieldType)).before args0 about1 = true := code_word (m := ⟨18, 0⟩) (meth := k18m0) (c := k18c0) (by decide +kernel) rfl rfl rfl (by decide +kernel)
set_option maxRecDepth 65536 in
theorem w_c8 : (Jvm.Cond.code ({ cls := "java/util/AbstractList", name := "<init>", desc := "()V" } : Jvm.MethodName) jdk_39_method_1_code (1 : Nat) (Option.none : Option Jvm.ClassFile.FieldType)).before args0 about1 = true := code_word (m := ⟨15, 0⟩) (meth := k15m0) (c := k15c0) (by decide +kernel) rfl rfl rfl (by decide +kernel)
set_option maxRecDepth 65536 in
theorem w_c9 : (Jvm.Cond.code ({ cls := "java/util/AbstractCollection", name := "<init>", desc := "()V" } : Jvm.MethodName) jdk_22_method_1_code (1 : Nat) (Option.none : Option Jvm.ClassFile.FieldType)).before args0 about1 = true := code_word (m := ⟨12, 0⟩) (meth := k12m0) (c := k12c0) (by decide +kernel) rfl rfl rfl (by decide +kernel)
set_option maxRecDepth 65536 in
theorem w_c10 : (Jvm.Cond.code ({ cls := "com/example/subsumer/subsumer/core/Description", name := "<init>", desc := "(Lcom/example/subsumer/subsumer/core/Label;Ljava/util/List;Ljava/util/List;Ljava/util/List;Ljava/util/List;)V" } : Jvm.MethodName) prog_3_method_2_code (10 : Nat) (Option.none : Option Jvm.ClassFile.FieldType)).before args0 about1 = true := code_word (m := ⟨19, 1⟩) (meth := k19m1) (c := k19c1) (by decide +kernel) rfl rfl rfl (by decide +kernel)
set_option maxRecDepth 65536 in
theorem w_c11 : (Jvm.Cond.code ({ cls := "java/util/ArrayList", name := "isEmpty", desc := "()Z" } : Jvm.MethodName) jdk_38_method_9_code (1 : Nat) (Option.some Jvm.ClassFile.FieldType.boolean)).before args0 about1 = true := code_word (m := ⟨18, 3⟩) (meth := k18m3) (c := k18c3) (by decide +kernel) rfl rfl rfl (by decide +kernel)
set_option maxRecDepth 65536 in
theorem w_c12 : (Jvm.Cond.code ({ cls := "java/util/ArrayList", name := "iterator", desc := "()Ljava/util/Iterator;" } : Jvm.MethodName) jdk_38_method_55_code (1 : Nat) (Option.some (Jvm.ClassFile.FieldType.object "java/util/Iterator"))).before args0 about1 = true := code_word (m := ⟨18, 6⟩) (meth := k18m6) (c := k18c6) (by decide +kernel) rfl rfl rfl (by decide +kernel)
set_option maxRecDepth 65536 in
theorem w_c13 : (Jvm.Cond.code ({ cls := "java/util/ArrayList$Itr", name := "<init>", desc := "(Ljava/util/ArrayList;)V" } : Jvm.MethodName) jdk_49_method_1_code (2 : Nat) (Option.none : Option Jvm.ClassFile.FieldType)).before args0 about1 = true := code_word (m := ⟨21, 0⟩) (meth := k21m0) (c := k21c0) (by decide +kernel) rfl rfl rfl (by decide +kernel)
set_option maxRecDepth 65536 in
theorem w_c14 : (Jvm.Cond.code ({ cls := "java/util/ArrayList$Itr", name := "hasNext", desc := "()Z" } : Jvm.MethodName) jdk_49_method_2_code (1 : Nat) (Option.some Jvm.ClassFile.FieldType.boolean)).before args0 about1 = true := code_word (m := ⟨21, 1⟩) (meth := k21m1) (c := k21c1) (by decide +kernel) rfl rfl rfl (by decide +kernel)
set_option maxRecDepth 65536 in
theorem w_c15 : (Jvm.Cond.code ({ cls := "com/example/subsumer/subsumer/core/Description", name := "isBottom", desc := "()Z" } : Jvm.MethodName) prog_3_method_21_code (1 : Nat) (Option.some Jvm.ClassFile.FieldType.boolean)).before args0 about1 = true := code_word (m := ⟨19, 5⟩) (meth := k19m5) (c := k19c5) (by decide +kernel) rfl rfl rfl (by decide +kernel)
set_option maxRecDepth 65536 in
theorem w_c16 : (Jvm.Cond.code ({ cls := "com/example/subsumer/subsumer/core/Description", name := "bottom", desc := "()Lcom/example/subsumer/subsumer/core/Description;" } : Jvm.MethodName) prog_3_method_4_code (0 : Nat) (Option.some (Jvm.ClassFile.FieldType.object "com/example/subsumer/subsumer/core/Description"))).before args0 about1 = true := code_word (m := ⟨19, 3⟩) (meth := k19m3) (c := k19c3) (by decide +kernel) rfl rfl rfl (by decide +kernel)
set_option maxRecDepth 65536 in
theorem w_c17 : (Jvm.Cond.code ({ cls := "com/example/subsumer/subsumer/core/Description", name := "top", desc := "()Lcom/example/subsumer/subsumer/core/Description;" } : Jvm.MethodName) prog_3_method_3_code (0 : Nat) (Option.some (Jvm.ClassFile.FieldType.object "com/example/subsumer/subsumer/core/Description"))).before args0 about1 = true := code_word (m := ⟨19, 2⟩) (meth := k19m2) (c := k19c2) (by decide +kernel) rfl rfl rfl (by decide +kernel)
set_option maxRecDepth 65536 in
theorem w_c18 : (Jvm.Cond.code ({ cls := "com/example/subsumer/subsumer/core/Description", name := "some", desc := "(Ljava/lang/String;Lcom/example/subsumer/subsumer/core/Description;)Lcom/example/subsumer/subsumer/core/Description;" } : Jvm.MethodName) prog_3_method_7_code (2 : Nat) (Option.some (Jvm.ClassFile.FieldType.object "com/example/subsumer/subsumer/core/Description"))).before args0 about1 = true := code_word (m := ⟨19, 4⟩) (meth := k19m4) (c := k19c4) (by decide +kernel) rfl rfl rfl (by decide +kernel)
set_option maxRecDepth 65536 in
theorem w_c19 : (Jvm.Cond.code ({ cls := "com/example/subsumer/subsumer/core/Existential", name := "<init>", desc := "(Ljava/lang/String;Lcom/example/subsumer/subsumer/core/Description;)V" } : Jvm.MethodName) prog_12_method_1_code (3 : Nat) (Option.none : Option Jvm.ClassFile.FieldType)).before args0 about1 = true := code_word (m := ⟨23, 0⟩) (meth := k23m0) (c := k23c0) (by decide +kernel) rfl rfl rfl (by decide +kernel)
set_option maxRecDepth 65536 in
theorem w_c20 : (Jvm.Cond.code ({ cls := "java/lang/Record", name := "<init>", desc := "()V" } : Jvm.MethodName) jdk_30_method_1_code (1 : Nat) (Option.none : Option Jvm.ClassFile.FieldType)).before args0 about1 = true := code_word (m := ⟨22, 0⟩) (meth := k22m0) (c := k22c0) (by decide +kernel) rfl rfl rfl (by decide +kernel)
set_option maxRecDepth 65536 in
theorem w_c21 : (Jvm.Cond.code ({ cls := "java/util/List", name := "of", desc := "(Ljava/lang/Object;)Ljava/util/List;" } : Jvm.MethodName) jdk_40_method_37_code (1 : Nat) (Option.some (Jvm.ClassFile.FieldType.object "java/util/List"))).before args0 about1 = true := code_word (m := ⟨14, 4⟩) (meth := k14m4) (c := k14c4) (by decide +kernel) rfl rfl rfl (by decide +kernel)
set_option maxRecDepth 65536 in
theorem w_c22 : (Jvm.Cond.code ({ cls := "java/util/ImmutableCollections$List12", name := "<init>", desc := "(Ljava/lang/Object;)V" } : Jvm.MethodName) jdk_44_method_1_code (2 : Nat) (Option.none : Option Jvm.ClassFile.FieldType)).before args0 about1 = true := code_word (m := ⟨26, 0⟩) (meth := k26m0) (c := k26c0) (by decide +kernel) rfl rfl rfl (by decide +kernel)
set_option maxRecDepth 65536 in
theorem w_c23 : (Jvm.Cond.code ({ cls := "java/util/ImmutableCollections$AbstractImmutableList", name := "<init>", desc := "()V" } : Jvm.MethodName) jdk_46_method_1_code (1 : Nat) (Option.none : Option Jvm.ClassFile.FieldType)).before args0 about1 = true := code_word (m := ⟨25, 0⟩) (meth := k25m0) (c := k25c0) (by decide +kernel) rfl rfl rfl (by decide +kernel)
set_option maxRecDepth 65536 in
theorem w_c24 : (Jvm.Cond.code ({ cls := "java/util/ImmutableCollections$AbstractImmutableCollection", name := "<init>", desc := "()V" } : Jvm.MethodName) jdk_47_method_1_code (1 : Nat) (Option.none : Option Jvm.ClassFile.FieldType)).before args0 about1 = true := code_word (m := ⟨24, 0⟩) (meth := k24m0) (c := k24c0) (by decide +kernel) rfl rfl rfl (by decide +kernel)
set_option maxRecDepth 65536 in
theorem w_c25 : (Jvm.Cond.code ({ cls := "java/util/Objects", name := "requireNonNull", desc := "(Ljava/lang/Object;)Ljava/lang/Object;" } : Jvm.MethodName) jdk_31_method_10_code (1 : Nat) (Option.some (Jvm.ClassFile.FieldType.object "java/lang/Object"))).before args0 about1 = true := code_word (m := ⟨27, 1⟩) (meth := k27m1) (c := k27c1) (by decide +kernel) rfl rfl rfl (by decide +kernel)
set_option maxRecDepth 65536 in
theorem w_c26 : (Jvm.Cond.code ({ cls := "java/util/List", name := "of", desc := "()Ljava/util/List;" } : Jvm.MethodName) jdk_40_method_36_code (0 : Nat) (Option.some (Jvm.ClassFile.FieldType.object "java/util/List"))).before args0 about1 = true := code_word (m := ⟨14, 3⟩) (meth := k14m3) (c := k14c3) (by decide +kernel) rfl rfl rfl (by decide +kernel)
set_option maxRecDepth 65536 in
theorem w_c27 : (Jvm.Cond.code ({ cls := "com/example/subsumer/subsumer/core/Description", name := "<init>", desc := "(Lcom/example/subsumer/subsumer/core/Label;Ljava/util/List;Ljava/util/List;)V" } : Jvm.MethodName) prog_3_method_1_code (4 : Nat) (Option.none : Option Jvm.ClassFile.FieldType)).before args0 about1 = true := code_word (m := ⟨19, 0⟩) (meth := k19m0) (c := k19c0) (by decide +kernel) rfl rfl rfl (by decide +kernel)
set_option maxRecDepth 65536 in
theorem w_c28 : (Jvm.Cond.code ({ cls := "java/util/ImmutableCollections$List12", name := "isEmpty", desc := "()Z" } : Jvm.MethodName) jdk_44_method_4_code (1 : Nat) (Option.some Jvm.ClassFile.FieldType.boolean)).before args0 about1 = true := code_word (m := ⟨26, 2⟩) (meth := k26m2) (c := k26c2) (by decide +kernel) rfl rfl rfl (by decide +kernel)
set_option maxRecDepth 65536 in
theorem w_c29 : (Jvm.Cond.code ({ cls := "java/util/ImmutableCollections$ListN", name := "isEmpty", desc := "()Z" } : Jvm.MethodName) jdk_45_method_2_code (1 : Nat) (Option.some Jvm.ClassFile.FieldType.boolean)).before args0 about1 = true := code_word (m := ⟨29, 0⟩) (meth := k29m0) (c := k29c0) (by decide +kernel) rfl rfl rfl (by decide +kernel)
set_option maxRecDepth 65536 in
theorem w_c30 : (Jvm.Cond.code ({ cls := "java/util/ImmutableCollections$AbstractImmutableList", name := "iterator", desc := "()Ljava/util/Iterator;" } : Jvm.MethodName) jdk_46_method_10_code (1 : Nat) (Option.some (Jvm.ClassFile.FieldType.object "java/util/Iterator"))).before args0 about1 = true := code_word (m := ⟨25, 1⟩) (meth := k25m1) (c := k25c1) (by decide +kernel) rfl rfl rfl (by decide +kernel)
set_option maxRecDepth 65536 in
theorem w_c31 : (Jvm.Cond.code ({ cls := "java/util/ImmutableCollections$List12", name := "size", desc := "()I" } : Jvm.MethodName) jdk_44_method_3_code (1 : Nat) (Option.some Jvm.ClassFile.FieldType.int)).before args0 about1 = true := code_word (m := ⟨26, 1⟩) (meth := k26m1) (c := k26c1) (by decide +kernel) rfl rfl rfl (by decide +kernel)
set_option maxRecDepth 65536 in
theorem w_c32 : (Jvm.Cond.code ({ cls := "java/util/ImmutableCollections$ListItr", name := "<init>", desc := "(Ljava/util/List;I)V" } : Jvm.MethodName) jdk_53_method_1_code (3 : Nat) (Option.none : Option Jvm.ClassFile.FieldType)).before args0 about1 = true := code_word (m := ⟨31, 0⟩) (meth := k31m0) (c := k31c0) (by decide +kernel) rfl rfl rfl (by decide +kernel)
set_option maxRecDepth 65536 in
theorem w_c33 : (Jvm.Cond.code ({ cls := "java/util/ImmutableCollections$ListItr", name := "hasNext", desc := "()Z" } : Jvm.MethodName) jdk_53_method_3_code (1 : Nat) (Option.some Jvm.ClassFile.FieldType.boolean)).before args0 about1 = true := code_word (m := ⟨31, 1⟩) (meth := k31m1) (c := k31c1) (by decide +kernel) rfl rfl rfl (by decide +kernel)
set_option maxRecDepth 65536 in
theorem w_c34 : (Jvm.Cond.code ({ cls := "java/util/ImmutableCollections$List12", name := "get", desc := "(I)Ljava/lang/Object;" } : Jvm.MethodName) jdk_44_method_5_code (2 : Nat) (Option.some (Jvm.ClassFile.FieldType.object "java/lang/Object"))).before args0 about1 = true := code_word (m := ⟨26, 3⟩) (meth := k26m3) (c := k26c3) (by decide +kernel) rfl rfl rfl (by decide +kernel)
set_option maxRecDepth 65536 in
theorem w_c35 : (Jvm.Cond.code ({ cls := "com/example/subsumer/subsumer/core/Existential", name := "filler", desc := "()Lcom/example/subsumer/subsumer/core/Description;" } : Jvm.MethodName) prog_12_method_6_code (1 : Nat) (Option.some (Jvm.ClassFile.FieldType.object "com/example/subsumer/subsumer/core/Description"))).before args0 about1 = true := code_word (m := ⟨23, 1⟩) (meth := k23m1) (c := k23c1) (by decide +kernel) rfl rfl rfl (by decide +kernel)
set_option maxRecDepth 65536 in
theorem w_c36 : (Jvm.Cond.code ({ cls := "java/util/ImmutableCollections$ListN", name := "size", desc := "()I" } : Jvm.MethodName) jdk_45_method_3_code (1 : Nat) (Option.some Jvm.ClassFile.FieldType.int)).before args0 about1 = true := code_word (m := ⟨29, 1⟩) (meth := k29m1) (c := k29c1) (by decide +kernel) rfl rfl rfl (by decide +kernel)
set_option maxRecDepth 65536 in
theorem w_c37 : (Jvm.Cond.code ({ cls := "com/example/subsumer/subsumer/core/Label", name := "<init>", desc := "([Ljava/lang/String;[Ljava/lang/String;)V" } : Jvm.MethodName) prog_14_method_1_code (3 : Nat) (Option.none : Option Jvm.ClassFile.FieldType)).before args0 about1 = true := code_word (m := ⟨9, 0⟩) (meth := k9m0) (c := k9c0) (by decide +kernel) rfl rfl rfl (by decide +kernel)
set_option maxRecDepth 65536 in
theorem w_c38 : (Jvm.Cond.code ({ cls := "com/example/subsumer/subsumer/core/AtLeast", name := "<init>", desc := "(Ljava/lang/String;I)V" } : Jvm.MethodName) prog_1_method_1_code (3 : Nat) (Option.none : Option Jvm.ClassFile.FieldType)).before args0 about1 = true := code_word (m := ⟨32, 0⟩) (meth := k32m0) (c := k32c0) (by decide +kernel) rfl rfl rfl (by decide +kernel)
set_option maxRecDepth 65536 in
theorem w_c39 : (Jvm.Cond.code ({ cls := "java/util/ArrayList", name := "add", desc := "(Ljava/lang/Object;)Z" } : Jvm.MethodName) jdk_38_method_25_code (2 : Nat) (Option.some Jvm.ClassFile.FieldType.boolean)).before args0 about1 = true := code_word (m := ⟨18, 5⟩) (meth := k18m5) (c := k18c5) (by decide +kernel) rfl rfl rfl (by decide +kernel)
set_option maxRecDepth 65536 in
theorem w_c40 : (Jvm.Cond.code ({ cls := "java/util/ArrayList", name := "add", desc := "(Ljava/lang/Object;[Ljava/lang/Object;I)V" } : Jvm.MethodName) jdk_38_method_24_code (4 : Nat) (Option.none : Option Jvm.ClassFile.FieldType)).before args0 about1 = true := code_word (m := ⟨18, 4⟩) (meth := k18m4) (c := k18c4) (by decide +kernel) rfl rfl rfl (by decide +kernel)
set_option maxRecDepth 65536 in
theorem w_c41 : (Jvm.Cond.code ({ cls := "java/util/ArrayList", name := "grow", desc := "()[Ljava/lang/Object;" } : Jvm.MethodName) jdk_38_method_7_code (1 : Nat) (Option.some (Jvm.ClassFile.FieldType.array (Jvm.ClassFile.FieldType.object "java/lang/Object")))).before args0 about1 = true := code_word (m := ⟨18, 2⟩) (meth := k18m2) (c := k18c2) (by decide +kernel) rfl rfl rfl (by decide +kernel)
set_option maxRecDepth 65536 in
theorem w_c42 : (Jvm.Cond.code ({ cls := "java/util/ArrayList", name := "grow", desc := "(I)[Ljava/lang/Object;" } : Jvm.MethodName) jdk_38_method_6_code (4 : Nat) (Option.some (Jvm.ClassFile.FieldType.array (Jvm.ClassFile.FieldType.object "java/lang/Object")))).before args0 about1 = true := code_word (m := ⟨18, 1⟩) (meth := k18m1) (c := k18c1) (by decide +kernel) rfl rfl rfl (by decide +kernel)
set_option maxRecDepth 65536 in
theorem w_c43 : (Jvm.Cond.code ({ cls := "java/lang/Math", name := "max", desc := "(II)I" } : Jvm.MethodName) jdk_29_method_65_code (2 : Nat) (Option.some Jvm.ClassFile.FieldType.int)).before args0 about1 = true := code_word (m := ⟨33, 1⟩) (meth := k33m1) (c := k33c1) (by decide +kernel) rfl rfl rfl (by decide +kernel)
def codes1 : List Jvm.Cond := [Jvm.Cond.code x code maxLocals ret, Jvm.Cond.code ({ cls := "java/lang/String", name := "<init>", desc := "([C)V" } : Jvm.MethodName) jdk_42_method_3_code (2 : Nat) (Option.none : Option Jvm.ClassFile.FieldType), Jvm.Cond.code ({ cls := "java/lang/String", name := "<init>", desc := "([CIILjava/lang/Void;)V" } : Jvm.MethodName) jdk_42_method_149_code (6 : Nat) (Option.none : Option Jvm.ClassFile.FieldType), Jvm.Cond.code ({ cls := "java/lang/Object", name := "<init>", desc := "()V" } : Jvm.MethodName) object_method_1_code (1 : Nat) (Option.none : Option Jvm.ClassFile.FieldType), Jvm.Cond.code ({ cls := "java/lang/StringUTF16", name := "compress", desc := "([CII)[B" } : Jvm.MethodName) jdk_52_method_16_code (6 : Nat) (Option.some (Jvm.ClassFile.FieldType.array Jvm.ClassFile.FieldType.byte)), Jvm.Cond.code ({ cls := "java/lang/StringUTF16", name := "compress", desc := "([CI[BII)I" } : Jvm.MethodName) jdk_52_method_21_code (7 : Nat) (Option.some Jvm.ClassFile.FieldType.int), Jvm.Cond.code ({ cls := "java/lang/StringUTF16", name := "coderFromArrayLen", desc := "([BI)B" } : Jvm.MethodName) jdk_52_method_15_code (2 : Nat) (Option.some Jvm.ClassFile.FieldType.byte), Jvm.Cond.code ({ cls := "java/util/ArrayList", name := "<init>", desc := "()V" } : Jvm.MethodName) jdk_38_method_2_code (1 : Nat) (Option.none : Option Jvm.ClassFile.FieldType), Jvm.Cond.code ({ cls := "java/util/AbstractList", name := "<init>", desc := "()V" } : Jvm.MethodName) jdk_39_method_1_code (1 : Nat) (Option.none : Option Jvm.ClassFile.FieldType), Jvm.Cond.code ({ cls := "java/util/AbstractCollection", name := "<init>", desc := "()V" } : Jvm.MethodName) jdk_22_method_1_code (1 : Nat) (Option.none : Option Jvm.ClassFile.FieldType), Jvm.Cond.code ({ cls := "com/example/subsumer/subsumer/core/Description", name := "<init>", desc := "(Lcom/example/subsumer/subsumer/core/Label;Ljava/util/List;Ljava/util/List;Ljava/util/List;Ljava/util/List;)V" } : Jvm.MethodName) prog_3_method_2_code (10 : Nat) (Option.none : Option Jvm.ClassFile.FieldType), Jvm.Cond.code ({ cls := "java/util/ArrayList", name := "isEmpty", desc := "()Z" } : Jvm.MethodName) jdk_38_method_9_code (1 : Nat) (Option.some Jvm.ClassFile.FieldType.boolean), Jvm.Cond.code ({ cls := "java/util/ArrayList", name := "iterator", desc := "()Ljava/util/Iterator;" } : Jvm.MethodName) jdk_38_method_55_code (1 : Nat) (Option.some (Jvm.ClassFile.FieldType.object "java/util/Iterator")), Jvm.Cond.code ({ cls := "java/util/ArrayList$Itr", name := "<init>", desc := "(Ljava/util/ArrayList;)V" } : Jvm.MethodName) jdk_49_method_1_code (2 : Nat) (Option.none : Option Jvm.ClassFile.FieldType), Jvm.Cond.code ({ cls := "java/util/ArrayList$Itr", name := "hasNext", desc := "()Z" } : Jvm.MethodName) jdk_49_method_2_code (1 : Nat) (Option.some Jvm.ClassFile.FieldType.boolean), Jvm.Cond.code ({ cls := "com/example/subsumer/subsumer/core/Description", name := "isBottom", desc := "()Z" } : Jvm.MethodName) prog_3_method_21_code (1 : Nat) (Option.some Jvm.ClassFile.FieldType.boolean), Jvm.Cond.code ({ cls := "com/example/subsumer/subsumer/core/Description", name := "bottom", desc := "()Lcom/example/subsumer/subsumer/core/Description;" } : Jvm.MethodName) prog_3_method_4_code (0 : Nat) (Option.some (Jvm.ClassFile.FieldType.object "com/example/subsumer/subsumer/core/Description")), Jvm.Cond.code ({ cls := "com/example/subsumer/subsumer/core/Description", name := "top", desc := "()Lcom/example/subsumer/subsumer/core/Description;" } : Jvm.MethodName) prog_3_method_3_code (0 : Nat) (Option.some (Jvm.ClassFile.FieldType.object "com/example/subsumer/subsumer/core/Description")), Jvm.Cond.code ({ cls := "com/example/subsumer/subsumer/core/Description", name := "some", desc := "(Ljava/lang/String;Lcom/example/subsumer/subsumer/core/Description;)Lcom/example/subsumer/subsumer/core/Description;" } : Jvm.MethodName) prog_3_method_7_code (2 : Nat) (Option.some (Jvm.ClassFile.FieldType.object "com/example/subsumer/subsumer/core/Description")), Jvm.Cond.code ({ cls := "com/example/subsumer/subsumer/core/Existential", name := "<init>", desc := "(Ljava/lang/String;Lcom/example/subsumer/subsumer/core/Description;)V" } : Jvm.MethodName) prog_12_method_1_code (3 : Nat) (Option.none : Option Jvm.ClassFile.FieldType), Jvm.Cond.code ({ cls := "java/lang/Record", name := "<init>", desc := "()V" } : Jvm.MethodName) jdk_30_method_1_code (1 : Nat) (Option.none : Option Jvm.ClassFile.FieldType), Jvm.Cond.code ({ cls := "java/util/List", name := "of", desc := "(Ljava/lang/Object;)Ljava/util/List;" } : Jvm.MethodName) jdk_40_method_37_code (1 : Nat) (Option.some (Jvm.ClassFile.FieldType.object "java/util/List")), Jvm.Cond.code ({ cls := "java/util/ImmutableCollections$List12", name := "<init>", desc := "(Ljava/lang/Object;)V" } : Jvm.MethodName) jdk_44_method_1_code (2 : Nat) (Option.none : Option Jvm.ClassFile.FieldType), Jvm.Cond.code ({ cls := "java/util/ImmutableCollections$AbstractImmutableList", name := "<init>", desc := "()V" } : Jvm.MethodName) jdk_46_method_1_code (1 : Nat) (Option.none : Option Jvm.ClassFile.FieldType), Jvm.Cond.code ({ cls := "java/util/ImmutableCollections$AbstractImmutableCollection", name := "<init>", desc := "()V" } : Jvm.MethodName) jdk_47_method_1_code (1 : Nat) (Option.none : Option Jvm.ClassFile.FieldType), Jvm.Cond.code ({ cls := "java/util/Objects", name := "requireNonNull", desc := "(Ljava/lang/Object;)Ljava/lang/Object;" } : Jvm.MethodName) jdk_31_method_10_code (1 : Nat) (Option.some (Jvm.ClassFile.FieldType.object "java/lang/Object")), Jvm.Cond.code ({ cls := "java/util/List", name := "of", desc := "()Ljava/util/List;" } : Jvm.MethodName) jdk_40_method_36_code (0 : Nat) (Option.some (Jvm.ClassFile.FieldType.object "java/util/List")), Jvm.Cond.code ({ cls := "com/example/subsumer/subsumer/core/Description", name := "<init>", desc := "(Lcom/example/subsumer/subsumer/core/Label;Ljava/util/List;Ljava/util/List;)V" } : Jvm.MethodName) prog_3_method_1_code (4 : Nat) (Option.none : Option Jvm.ClassFile.FieldType), Jvm.Cond.code ({ cls := "java/util/ImmutableCollections$List12", name := "isEmpty", desc := "()Z" } : Jvm.MethodName) jdk_44_method_4_code (1 : Nat) (Option.some Jvm.ClassFile.FieldType.boolean), Jvm.Cond.code ({ cls := "java/util/ImmutableCollections$ListN", name := "isEmpty", desc := "()Z" } : Jvm.MethodName) jdk_45_method_2_code (1 : Nat) (Option.some Jvm.ClassFile.FieldType.boolean), Jvm.Cond.code ({ cls := "java/util/ImmutableCollections$AbstractImmutableList", name := "iterator", desc := "()Ljava/util/Iterator;" } : Jvm.MethodName) jdk_46_method_10_code (1 : Nat) (Option.some (Jvm.ClassFile.FieldType.object "java/util/Iterator")), Jvm.Cond.code ({ cls := "java/util/ImmutableCollections$List12", name := "size", desc := "()I" } : Jvm.MethodName) jdk_44_method_3_code (1 : Nat) (Option.some Jvm.ClassFile.FieldType.int), Jvm.Cond.code ({ cls := "java/util/ImmutableCollections$ListItr", name := "<init>", desc := "(Ljava/util/List;I)V" } : Jvm.MethodName) jdk_53_method_1_code (3 : Nat) (Option.none : Option Jvm.ClassFile.FieldType), Jvm.Cond.code ({ cls := "java/util/ImmutableCollections$ListItr", name := "hasNext", desc := "()Z" } : Jvm.MethodName) jdk_53_method_3_code (1 : Nat) (Option.some Jvm.ClassFile.FieldType.boolean), Jvm.Cond.code ({ cls := "java/util/ImmutableCollections$List12", name := "get", desc := "(I)Ljava/lang/Object;" } : Jvm.MethodName) jdk_44_method_5_code (2 : Nat) (Option.some (Jvm.ClassFile.FieldType.object "java/lang/Object")), Jvm.Cond.code ({ cls := "com/example/subsumer/subsumer/core/Existential", name := "filler", desc := "()Lcom/example/subsumer/subsumer/core/Description;" } : Jvm.MethodName) prog_12_method_6_code (1 : Nat) (Option.some (Jvm.ClassFile.FieldType.object "com/example/subsumer/subsumer/core/Description")), Jvm.Cond.code ({ cls := "java/util/ImmutableCollections$ListN", name := "size", desc := "()I" } : Jvm.MethodName) jdk_45_method_3_code (1 : Nat) (Option.some Jvm.ClassFile.FieldType.int), Jvm.Cond.code ({ cls := "com/example/subsumer/subsumer/core/Label", name := "<init>", desc := "([Ljava/lang/String;[Ljava/lang/String;)V" } : Jvm.MethodName) prog_14_method_1_code (3 : Nat) (Option.none : Option Jvm.ClassFile.FieldType), Jvm.Cond.code ({ cls := "com/example/subsumer/subsumer/core/AtLeast", name := "<init>", desc := "(Ljava/lang/String;I)V" } : Jvm.MethodName) prog_1_method_1_code (3 : Nat) (Option.none : Option Jvm.ClassFile.FieldType), Jvm.Cond.code ({ cls := "java/util/ArrayList", name := "add", desc := "(Ljava/lang/Object;)Z" } : Jvm.MethodName) jdk_38_method_25_code (2 : Nat) (Option.some Jvm.ClassFile.FieldType.boolean), Jvm.Cond.code ({ cls := "java/util/ArrayList", name := "add", desc := "(Ljava/lang/Object;[Ljava/lang/Object;I)V" } : Jvm.MethodName) jdk_38_method_24_code (4 : Nat) (Option.none : Option Jvm.ClassFile.FieldType), Jvm.Cond.code ({ cls := "java/util/ArrayList", name := "grow", desc := "()[Ljava/lang/Object;" } : Jvm.MethodName) jdk_38_method_7_code (1 : Nat) (Option.some (Jvm.ClassFile.FieldType.array (Jvm.ClassFile.FieldType.object "java/lang/Object"))), Jvm.Cond.code ({ cls := "java/util/ArrayList", name := "grow", desc := "(I)[Ljava/lang/Object;" } : Jvm.MethodName) jdk_38_method_6_code (4 : Nat) (Option.some (Jvm.ClassFile.FieldType.array (Jvm.ClassFile.FieldType.object "java/lang/Object"))), Jvm.Cond.code ({ cls := "java/lang/Math", name := "max", desc := "(II)I" } : Jvm.MethodName) jdk_29_method_65_code (2 : Nat) (Option.some Jvm.ClassFile.FieldType.int)]
set_option maxRecDepth 65536 in
theorem codes_eq : words1.filter isCode = codes1 := rfl
theorem w_codes : ∀ c ∈ words1.filter isCode, c.before args0 about1 = true := by
  rw [codes_eq]
  intro c hc
  simp only [codes1, List.mem_cons, List.not_mem_nil, or_false] at hc
  rcases hc with rfl | rfl | rfl | rfl | rfl | rfl | rfl | rfl | rfl | rfl | rfl | rfl | rfl | rfl | rfl | rfl | rfl | rfl | rfl | rfl | rfl | rfl | rfl | rfl | rfl | rfl | rfl | rfl | rfl | rfl | rfl | rfl | rfl | rfl | rfl | rfl | rfl | rfl | rfl | rfl | rfl | rfl | rfl | rfl
  · exact w_c0
  · exact w_c1
  · exact w_c2
  · exact w_c3
  · exact w_c4
  · exact w_c5
  · exact w_c6
  · exact w_c7
  · exact w_c8
  · exact w_c9
  · exact w_c10
  · exact w_c11
  · exact w_c12
  · exact w_c13
  · exact w_c14
  · exact w_c15
  · exact w_c16
  · exact w_c17
  · exact w_c18
  · exact w_c19
  · exact w_c20
  · exact w_c21
  · exact w_c22
  · exact w_c23
  · exact w_c24
  · exact w_c25
  · exact w_c26
  · exact w_c27
  · exact w_c28
  · exact w_c29
  · exact w_c30
  · exact w_c31
  · exact w_c32
  · exact w_c33
  · exact w_c34
  · exact w_c35
  · exact w_c36
  · exact w_c37
  · exact w_c38
  · exact w_c39
  · exact w_c40
  · exact w_c41
  · exact w_c42
  · exact w_c43
set_option maxRecDepth 65536 in
theorem w_t1 : (words1.take 24).all (fun c => isCode c || c.before args0 about1) = true := by decide +kernel
set_option maxRecDepth 65536 in
theorem w_t2 : ((words1.drop 24).take 24).all (fun c => isCode c || c.before args0 about1) = true := by decide +kernel
set_option maxRecDepth 65536 in
theorem w_t3 : (((words1.drop 24).drop 24).take 24).all (fun c => isCode c || c.before args0 about1) = true := by decide +kernel
set_option maxRecDepth 65536 in
theorem w_t4 : ((((words1.drop 24).drop 24).drop 24).take 24).all (fun c => isCode c || c.before args0 about1) = true := by decide +kernel
set_option maxRecDepth 65536 in
theorem w_t5 : (((((words1.drop 24).drop 24).drop 24).drop 24).take 24).all (fun c => isCode c || c.before args0 about1) = true := by decide +kernel
set_option maxRecDepth 65536 in
theorem w_t6 : ((((((words1.drop 24).drop 24).drop 24).drop 24).drop 24).take 24).all (fun c => isCode c || c.before args0 about1) = true := by decide +kernel
set_option maxRecDepth 65536 in
theorem w_t7 : (((((((words1.drop 24).drop 24).drop 24).drop 24).drop 24).drop 24).take 24).all (fun c => isCode c || c.before args0 about1) = true := by decide +kernel
set_option maxRecDepth 65536 in
theorem w_t8 : ((((((((words1.drop 24).drop 24).drop 24).drop 24).drop 24).drop 24).drop 24).take 24).all (fun c => isCode c || c.before args0 about1) = true := by decide +kernel
set_option maxRecDepth 65536 in
theorem w_t9 : (((((((((words1.drop 24).drop 24).drop 24).drop 24).drop 24).drop 24).drop 24).drop 24).take 24).all (fun c => isCode c || c.before args0 about1) = true := by decide +kernel
set_option maxRecDepth 65536 in
theorem w_t10 : ((((((((((words1.drop 24).drop 24).drop 24).drop 24).drop 24).drop 24).drop 24).drop 24).drop 24).take 24).all (fun c => isCode c || c.before args0 about1) = true := by decide +kernel
set_option maxRecDepth 65536 in
theorem w_t11 : (((((((((((words1.drop 24).drop 24).drop 24).drop 24).drop 24).drop 24).drop 24).drop 24).drop 24).drop 24).take 24).all (fun c => isCode c || c.before args0 about1) = true := by decide +kernel
set_option maxRecDepth 65536 in
theorem w_t12 : ((((((((((((words1.drop 24).drop 24).drop 24).drop 24).drop 24).drop 24).drop 24).drop 24).drop 24).drop 24).drop 24).take 24).all (fun c => isCode c || c.before args0 about1) = true := by decide +kernel
set_option maxRecDepth 65536 in
theorem w_t13 : (((((((((((((words1.drop 24).drop 24).drop 24).drop 24).drop 24).drop 24).drop 24).drop 24).drop 24).drop 24).drop 24).drop 24).take 24).all (fun c => isCode c || c.before args0 about1) = true := by decide +kernel
set_option maxRecDepth 65536 in
theorem w_t14 : (((((((((((((words1.drop 24).drop 24).drop 24).drop 24).drop 24).drop 24).drop 24).drop 24).drop 24).drop 24).drop 24).drop 24).drop 24).all (fun c => isCode c || c.before args0 about1) = true := by decide +kernel
theorem w_tables : (allAtoms (Jvm.Cond.code x code maxLocals ret :: tables_1)).before args0 about1 = true := by
  rw [allAtoms_all]
  show words1.all (fun c => c.before args0 about1) = true
  refine all_split ?_ w_codes
  rw [← List.take_append_drop 24 words1, List.all_append, w_t1, ← List.take_append_drop 24 (words1.drop 24), List.all_append, w_t2, ← List.take_append_drop 24 ((words1.drop 24).drop 24), List.all_append, w_t3, ← List.take_append_drop 24 (((words1.drop 24).drop 24).drop 24), List.all_append, w_t4, ← List.take_append_drop 24 ((((words1.drop 24).drop 24).drop 24).drop 24), List.all_append, w_t5, ← List.take_append_drop 24 (((((words1.drop 24).drop 24).drop 24).drop 24).drop 24), List.all_append, w_t6, ← List.take_append_drop 24 ((((((words1.drop 24).drop 24).drop 24).drop 24).drop 24).drop 24), List.all_append, w_t7, ← List.take_append_drop 24 (((((((words1.drop 24).drop 24).drop 24).drop 24).drop 24).drop 24).drop 24), List.all_append, w_t8, ← List.take_append_drop 24 ((((((((words1.drop 24).drop 24).drop 24).drop 24).drop 24).drop 24).drop 24).drop 24), List.all_append, w_t9, ← List.take_append_drop 24 (((((((((words1.drop 24).drop 24).drop 24).drop 24).drop 24).drop 24).drop 24).drop 24).drop 24), List.all_append, w_t10, ← List.take_append_drop 24 ((((((((((words1.drop 24).drop 24).drop 24).drop 24).drop 24).drop 24).drop 24).drop 24).drop 24).drop 24), List.all_append, w_t11, ← List.take_append_drop 24 (((((((((((words1.drop 24).drop 24).drop 24).drop 24).drop 24).drop 24).drop 24).drop 24).drop 24).drop 24).drop 24), List.all_append, w_t12, ← List.take_append_drop 24 ((((((((((((words1.drop 24).drop 24).drop 24).drop 24).drop 24).drop 24).drop 24).drop 24).drop 24).drop 24).drop 24).drop 24), List.all_append, w_t13, w_t14]
  rfl
set_option maxRecDepth 65536 in
theorem w_rest : rest_1_c.before args0 about1 = true := by decide +kernel
set_option maxRecDepth 65536 in
theorem w_case : (Jvm.Cond.and given_1 narrow_1).before args0 about1 = true := by decide +kernel
theorem w_applies : (headSpec (Jvm.Cond.code x code maxLocals ret :: tables_1) room_1).applies x e0.platform about1 = true :=
  (Spec.applies_iff w_frames).mpr ⟨w_running, w_runnable, w_alone, w_named, w_hears, w_ripe, w_room, w_tables⟩
theorem atStart : AtStart classFile x code maxLocals ret World_1 tables_1 room_1 Calls_1 rest_1 Pre_1 launch0 p0 e0 about1 theMethod args0 below0 :=
  ⟨lists_1, trivial, launch0.admits_env _ _ _, launch0.least_env, fairChoices_fair.cas, fairChoices_fair.clock, w_frames, w_args, w_heap, w_applies, trivial, w_rest, w_case⟩
end start1
theorem witness_1 : WitnessClaimed_1 := ⟨start1.p0, start1.e0, start1.about1, start1.theMethod, start1.args0, start1.below0, start1.atStart⟩
end Jvm.Pilot.@@N@@
