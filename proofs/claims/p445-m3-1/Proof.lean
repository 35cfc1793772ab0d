import JvmDerived
import JvmDerived.Pilot.@@N@@Statement
import JvmDerived.Pilot.@@N@@Code
set_option linter.unusedVariables false
set_option linter.unusedSimpArgs false
namespace Jvm.Ow
open Sem ClassFile Op Lib Jvm.Stand Jvm.Free Jvm.LawKit Jvm.RoadKit
/-- what one invocation runs over -/
abbrev Cx : Type := Program × Launch × Env × State × MethodId × Array Value × List Frame × Method × Code
def Cx.p (x : Cx) : Program := x.1
def Cx.l (x : Cx) : Launch := x.2.1
def Cx.e (x : Cx) : Env := x.2.2.1
def Cx.s (x : Cx) : State := x.2.2.2.1
def Cx.m (x : Cx) : MethodId := x.2.2.2.2.1
def Cx.args (x : Cx) : Array Value := x.2.2.2.2.2.1
def Cx.below (x : Cx) : List Frame := x.2.2.2.2.2.2.1
def Cx.meth (x : Cx) : Method := x.2.2.2.2.2.2.2.1
def Cx.c (x : Cx) : Code := x.2.2.2.2.2.2.2.2
/-- a body: its name, bytes, max_locals, return type, room, and the table words of the case -/
abbrev Bd : Type := MethodName × ByteArray × Nat × Option FieldType × Room × List Cond
abbrev Bd.y (b : Bd) : MethodName := b.1
abbrev Bd.by (b : Bd) : ByteArray := b.2.1
abbrev Bd.ml (b : Bd) : Nat := b.2.2.1
abbrev Bd.rt (b : Bd) : Option FieldType := b.2.2.2.1
abbrev Bd.R (b : Bd) : Room := b.2.2.2.2.1
abbrev Bd.tb (b : Bd) : List Cond := b.2.2.2.2.2
def Wd (Z : State) (tb : List Cond) : Prop := ∃ a0 : Array Value, ∀ d ∈ tb, d.before a0 Z = true
def En (Z : State) (x : Cx) (B : Bd) : Prop := x.p.tables.exec = Jvm.exec ∧ x.c.code = B.by ∧ x.c.maxLocals = B.ml ∧ x.s.vm.findClass B.y.cls = some x.m.cls ∧ x.meth.name = B.y.name ∧ x.meth.sig.returnType = B.rt ∧ Z.Warmed39 x.s.vm ∧ x.meth.locks = false ∧ Wd Z B.tb
/-- the invocation stands at T, whose heap is h; k cells and n slots were made; nothing of the start's heap was written -/
def Sp (Z : State) (x : Cx) (B : Bd) (T : State) (k n : Nat) (h : Heap) : Prop := En Z x B ∧ Ext Z.heap h ∧ ∃ locs, Stand x.p x.l x.e B.R x.s x.m x.args x.below x.meth x.c T locs k n ∧ T.heap = h ∧ Fr Z.heap.size locs
/-- from T with this frame the invocation ends as Q says -/
def Rn (Q : Option Value → Heap → Prop) (Z : State) (x : Cx) (B : Bd) (T : State) (pc : Nat) (Ls : Array Slot) (st : List Value) : Prop :=
  ∃ t o, Steps x.p.tables x.e x.below (T.setTop (mkF x.m pc Ls st)) t ∧ t.status = .running ∧ Ended t x.below o ∧ ∃ v L, o = .returned v ∧ (Q v t.heap ∧ Ext Z.heap t.heap ∧ Fr Z.heap.size L) ∧ FrameEnd x.s o t L B.R.cells B.R.slots
/-- from every point with this heap and this frame the invocation ends as Q says -/
def Go (Q : Option Value → Heap → Prop) (Z : State) (B : Bd) (k n : Nat) (h : Heap) (pc : Nat) (Ls : Array Slot) (st : List Value) : Prop := ∀ (x : Cx) (T : State), Sp Z x B T k n h → Rn Q Z x B T pc Ls st
/-- a body's contract: from the heap h0, with the arguments as, it returns v at a heap h with Q v h -/
def Con (Z : State) (B : Bd) (as : Array Value) (h0 : Heap) (Q : Option Value → Heap → Prop) : Prop :=
  Ext Z.heap h0 → ∀ (l : Launch) (ws : List Cond), MetFree l B.y (head1 (Cond.code B.y B.by B.ml B.rt :: ws) B.R) (fun a U => a = as ∧ Z.Warmed39 U.vm ∧ U.heap = h0) (fun _ _ _ _ _ => True)
    (fun _ U o U' => ∃ v L, o = .returned v ∧ (Q v U'.heap ∧ Ext Z.heap U'.heap ∧ Fr Z.heap.size L) ∧ FrameEnd U o U' L B.R.cells B.R.slots)
/-- an array: its values -/
def Ary (Z : State) (h : Heap) (a : Addr) (ty : FieldType) (vs : List Value) : Prop := ∃ c : Cell, Arr Z h a c ty ∧ c.slots.toList = vs ∧ vs.length < 2 ^ 31 ∧ ∀ v ∈ vs, fits ty v = true
/-- an array over objects of class C -/
def Aov (Z : State) (h : Heap) (a : Addr) (C : String) : Prop := ∃ c : Cell, h[a]? = some c ∧ Ovr Z c.cls C
section St
variable {Q : Option Value → Heap → Prop} {Z : State} {x : Cx} {B : Bd} {T : State} {k n : Nat} {h h' : Heap} {pc : Nat} {Ls Ls' : Array Slot} {st rest : List Value}
theorem Wd.w {tb : List Cond} (W : Wd Z tb) : ∃ a0 : Array Value, ∀ {i : Nat} {d : Cond}, tb[i]? = some d → d.before a0 Z = true := by
  obtain ⟨a0, hw⟩ := W; exact ⟨a0, fun hi => hw _ (List.mem_of_getElem? hi)⟩
theorem Con.mk {as : Array Value} {h0 : Heap} (hw : Wd Z B.tb) (hpn : plainFor B.y = true) (hef : ∀ m, entryFrame m as B.ml = mkF m 0 Ls [])
    (body : Go Q Z B 0 0 h0 0 Ls []) : Con Z B as h0 Q := by
  intro hE l ws
  refine MetFree.of_bodySF hpn hisR ?_
  intro p e s m args below meth c s₁ Bd hml0 hP hK
  obtain ⟨rfl, hZ, hh⟩ := hP
  have X0 : Stand p l e B.R s m args below meth c s₁ [] 0 0 := Stand.of_body Bd
  have e0 : s₁.heap = h0 := by rw [← hh, Bd.state]; rfl
  obtain ⟨t, o, h1, h2, h3, h4⟩ := body (p, l, e, s, m, args, below, meth, c) s₁ ⟨⟨Bd.exec, Bd.bytes, hml0, findClass_of_methodNamed Bd.named, (name_of_methodNamed Bd.named Bd.method).1, Bd.returns, hZ, Bd.notSynchronized, hw⟩, hE, [], X0, e0, Fr.nil _⟩
  exact ⟨t, o, castTop (hef m) h1, h2, h3, h4⟩
theorem Con.post {as : Array Value} {h0 : Heap} {Q' : Option Value → Heap → Prop} (C : Con Z B as h0 Q) (q : ∀ v h, Q v h → Q' v h) : Con Z B as h0 Q' := fun hE l ws =>
  (C hE l ws).mono (fun _ _ h => h) (fun _ _ _ _ _ h => h) fun _ _ _ _ _ ⟨v, L, h1, h2, h3⟩ => ⟨v, L, h1, ⟨q _ _ h2.1, h2.2⟩, h3⟩
theorem Sp.here (P : Sp Z x B T k n h) : At T x.m x.c x.below := by obtain ⟨_, _, _, X, _⟩ := P; exact X.here
theorem Sp.ex (P : Sp Z x B T k n h) : x.p.tables.exec = Jvm.exec := P.1.1
theorem Sp.d (P : Sp Z x B T k n h) {r : Except DecodeError (Instr × Nat)} (hd : decode B.by pc = r) : decode x.c.code pc = r := by rw [P.1.2.1]; exact hd
theorem Sp.old (P : Sp Z x B T k n h) : Ext Z.heap h := P.2.1
theorem Sp.wd (P : Sp Z x B T k n h) : Wd Z B.tb := P.1.2.2.2.2.2.2.2.2
theorem Sp.le (P : Sp Z x B T k n h) : Z.heap.size ≤ h.size := P.2.1.1
theorem lift {T' : State} {pc' : Nat} {st' : List Value} (f : ∀ t, Steps x.p.tables x.e x.below (T'.setTop (mkF x.m pc' Ls' st')) t → Steps x.p.tables x.e x.below (T.setTop (mkF x.m pc Ls st)) t) (r : Rn Q Z x B T' pc' Ls' st') : Rn Q Z x B T pc Ls st := by
  obtain ⟨t, o, h1, h2⟩ := r; exact ⟨t, o, f t h1, h2⟩
theorem liftS {T' : State} {pc' : Nat} {st' : List Value} (f : Steps x.p.tables x.e x.below (T.setTop (mkF x.m pc Ls st)) (T'.setTop (mkF x.m pc' Ls' st'))) (r : Rn Q Z x B T' pc' Ls' st') : Rn Q Z x B T pc Ls st := by
  obtain ⟨t, o, h1, h2⟩ := r; exact ⟨t, o, f.trans h1, h2⟩
theorem Go.nameI {z : Int32} (r : ∀ v, z = v → Go Q Z B k n h pc Ls (.int v :: st)) : Go Q Z B k n h pc Ls (.int z :: st) := r z rfl
theorem Go.nameJ {z : Int64} (r : ∀ v, z = v → Go Q Z B k n h pc Ls (.long v :: st)) : Go Q Z B k n h pc Ls (.long z :: st) := r z rfl
theorem Go.nameD {z : UInt64} (r : ∀ v, z = v → Go Q Z B k n h pc Ls (.double v :: st)) : Go Q Z B k n h pc Ls (.double z :: st) := r z rfl
theorem Go.eqI {z w : Int32} (e : z = w) (r : Go Q Z B k n h pc Ls (.int w :: st)) : Go Q Z B k n h pc Ls (.int z :: st) := e ▸ r
theorem Go.eqJ {z w : Int64} (e : z = w) (r : Go Q Z B k n h pc Ls (.long w :: st)) : Go Q Z B k n h pc Ls (.long z :: st) := e ▸ r
theorem Go.eqD {z w : UInt64} (e : z = w) (r : Go Q Z B k n h pc Ls (.double w :: st)) : Go Q Z B k n h pc Ls (.double z :: st) := e ▸ r
theorem Go.joinI {pcJ : Nat} {LsJ : Array Slot} {stJ : List Value} (G : Int32 → Prop) (s : (∀ v, G v → Go Q Z B k n h pcJ LsJ (.int v :: stJ)) → Go Q Z B k n h pc Ls st) (r : ∀ v, G v → Go Q Z B k n h pcJ LsJ (.int v :: stJ)) : Go Q Z B k n h pc Ls st := s r
theorem cut {G : Prop} (X : Prop) (s : X → G) (r : X) : G := s r
theorem Go.old (r : Ext Z.heap h → Go Q Z B k n h pc Ls st) : Go Q Z B k n h pc Ls st := fun x T P => r P.old x T P
theorem Go.more {k' n' : Nat} (hk : k ≤ k') (hn : n ≤ n') (r : Go Q Z B k' n' h pc Ls st) : Go Q Z B k n h pc Ls st := fun x T P => r x T (by
  obtain ⟨E, O, locs, X, e, N⟩ := P
  exact ⟨E, O, locs, { X with same := X.same.mono hk hn }, e, N⟩)
theorem Go.iload (pc' : Nat) (hp : pc + 2 = pc') {i : Nat} {v : Int32} (hd : decode B.by pc = .ok (.iload i, 2)) (hl : Ls[i]? = some (.val (.int v))) (r : Go Q Z B k n h pc' Ls (.int v :: st)) : Go Q Z B k n h pc Ls (st) := fun x T P => by
  subst hp; exact lift (fun t q => XS.iload P.here P.ex rfl (P.d hd) hl q) (r x T P)
theorem Go.iloadN (pc' : Nat) (hp : pc + 1 = pc') {i : Fin 4} {v : Int32} (hd : decode B.by pc = .ok (.iload_n i, 1)) (hl : Ls[i.val]? = some (.val (.int v))) (r : Go Q Z B k n h pc' Ls (.int v :: st)) : Go Q Z B k n h pc Ls (st) := fun x T P => by
  subst hp; exact lift (fun t q => XS.iloadN P.here P.ex rfl (P.d hd) hl q) (r x T P)
theorem Go.istore (pc' : Nat) (hp : pc + 2 = pc') {i : Nat} {v : Int32} (hd : decode B.by pc = .ok (.istore i, 2))  (hl : storeLocals Ls i (.int v) = some Ls') (r : Go Q Z B k n h pc' Ls' (st)) : Go Q Z B k n h pc Ls (.int v :: st) := fun x T P => by
  subst hp; exact lift (fun t q => XS.istore P.here P.ex rfl (P.d hd) rfl hl q) (r x T P)
theorem Go.istoreN (pc' : Nat) (hp : pc + 1 = pc') {i : Fin 4} {v : Int32} (hd : decode B.by pc = .ok (.istore_n i, 1))  (hl : storeLocals Ls i.val (.int v) = some Ls') (r : Go Q Z B k n h pc' Ls' (st)) : Go Q Z B k n h pc Ls (.int v :: st) := fun x T P => by
  subst hp; exact lift (fun t q => XS.istoreN P.here P.ex rfl (P.d hd) rfl hl q) (r x T P)
theorem Go.lload (pc' : Nat) (hp : pc + 2 = pc') {i : Nat} {v : Int64} (hd : decode B.by pc = .ok (.lload i, 2)) (hl : Ls[i]? = some (.val (.long v))) (r : Go Q Z B k n h pc' Ls (.long v :: st)) : Go Q Z B k n h pc Ls (st) := fun x T P => by
  subst hp; exact lift (fun t q => XT.lload P.here P.ex rfl (P.d hd) hl q) (r x T P)
theorem Go.lloadN (pc' : Nat) (hp : pc + 1 = pc') {i : Fin 4} {v : Int64} (hd : decode B.by pc = .ok (.lload_n i, 1)) (hl : Ls[i.val]? = some (.val (.long v))) (r : Go Q Z B k n h pc' Ls (.long v :: st)) : Go Q Z B k n h pc Ls (st) := fun x T P => by
  subst hp; exact lift (fun t q => XT.lloadN P.here P.ex rfl (P.d hd) hl q) (r x T P)
theorem Go.lstore (pc' : Nat) (hp : pc + 2 = pc') {i : Nat} {v : Int64} (hd : decode B.by pc = .ok (.lstore i, 2))  (hl : storeLocals Ls i (.long v) = some Ls') (r : Go Q Z B k n h pc' Ls' (st)) : Go Q Z B k n h pc Ls (.long v :: st) := fun x T P => by
  subst hp; exact lift (fun t q => XT.lstore P.here P.ex rfl (P.d hd) rfl hl q) (r x T P)
theorem Go.lstoreN (pc' : Nat) (hp : pc + 1 = pc') {i : Fin 4} {v : Int64} (hd : decode B.by pc = .ok (.lstore_n i, 1))  (hl : storeLocals Ls i.val (.long v) = some Ls') (r : Go Q Z B k n h pc' Ls' (st)) : Go Q Z B k n h pc Ls (.long v :: st) := fun x T P => by
  subst hp; exact lift (fun t q => XT.lstoreN P.here P.ex rfl (P.d hd) rfl hl q) (r x T P)
theorem Go.aload (pc' : Nat) (hp : pc + 2 = pc') {i : Nat} {v : Value} (hd : decode B.by pc = .ok (.aload i, 2)) (hl : Ls[i]? = some (.val (v))) (hv : v.isRef = true) (r : Go Q Z B k n h pc' Ls (v :: st)) : Go Q Z B k n h pc Ls (st) := fun x T P => by
  subst hp; exact lift (fun t q => XS.aload P.here P.ex rfl (P.d hd) hl hv q) (r x T P)
theorem Go.aloadN (pc' : Nat) (hp : pc + 1 = pc') {i : Fin 4} {v : Value} (hd : decode B.by pc = .ok (.aload_n i, 1)) (hl : Ls[i.val]? = some (.val (v))) (hv : v.isRef = true) (r : Go Q Z B k n h pc' Ls (v :: st)) : Go Q Z B k n h pc Ls (st) := fun x T P => by
  subst hp; exact lift (fun t q => XS.aloadN P.here P.ex rfl (P.d hd) hl hv q) (r x T P)
theorem Go.astore (pc' : Nat) (hp : pc + 2 = pc') {i : Nat} {v : Value} (hd : decode B.by pc = .ok (.astore i, 2))  (hv : v.isRef = true) (hl : storeLocals Ls i (v) = some Ls') (r : Go Q Z B k n h pc' Ls' (st)) : Go Q Z B k n h pc Ls (v :: st) := fun x T P => by
  subst hp; exact lift (fun t q => XS.astore P.here P.ex rfl (P.d hd) rfl hv hl q) (r x T P)
theorem Go.astoreN (pc' : Nat) (hp : pc + 1 = pc') {i : Fin 4} {v : Value} (hd : decode B.by pc = .ok (.astore_n i, 1))  (hv : v.isRef = true) (hl : storeLocals Ls i.val (v) = some Ls') (r : Go Q Z B k n h pc' Ls' (st)) : Go Q Z B k n h pc Ls (v :: st) := fun x T P => by
  subst hp; exact lift (fun t q => XS.astoreN P.here P.ex rfl (P.d hd) rfl hv hl q) (r x T P)
theorem Go.dload (pc' : Nat) (hp : pc + 2 = pc') {i : Nat} {v : UInt64} (hd : decode B.by pc = .ok (.dload i, 2)) (hl : Ls[i]? = some (.val (.double v))) (r : Go Q Z B k n h pc' Ls (.double v :: st)) : Go Q Z B k n h pc Ls (st) := fun x T P => by
  subst hp; exact lift (fun t q => XS.dload P.here P.ex rfl (P.d hd) hl q) (r x T P)
theorem Go.dloadN (pc' : Nat) (hp : pc + 1 = pc') {i : Fin 4} {v : UInt64} (hd : decode B.by pc = .ok (.dload_n i, 1)) (hl : Ls[i.val]? = some (.val (.double v))) (r : Go Q Z B k n h pc' Ls (.double v :: st)) : Go Q Z B k n h pc Ls (st) := fun x T P => by
  subst hp; exact lift (fun t q => XS.dloadN P.here P.ex rfl (P.d hd) hl q) (r x T P)
theorem Go.dstore (pc' : Nat) (hp : pc + 2 = pc') {i : Nat} {v : UInt64} (hd : decode B.by pc = .ok (.dstore i, 2))  (hl : storeLocals Ls i (.double v) = some Ls') (r : Go Q Z B k n h pc' Ls' (st)) : Go Q Z B k n h pc Ls (.double v :: st) := fun x T P => by
  subst hp; exact lift (fun t q => XS.dstore P.here P.ex rfl (P.d hd) rfl hl q) (r x T P)
theorem Go.dstoreN (pc' : Nat) (hp : pc + 1 = pc') {i : Fin 4} {v : UInt64} (hd : decode B.by pc = .ok (.dstore_n i, 1))  (hl : storeLocals Ls i.val (.double v) = some Ls') (r : Go Q Z B k n h pc' Ls' (st)) : Go Q Z B k n h pc Ls (.double v :: st) := fun x T P => by
  subst hp; exact lift (fun t q => XS.dstoreN P.here P.ex rfl (P.d hd) rfl hl q) (r x T P)
theorem Go.iconst (pc' : Nat) (hp : pc + 1 = pc') {i : Int} (v : Int32) (hd : decode B.by pc = .ok (.iconst i, 1)) (hv : Int32.ofInt i = v) (r : Go Q Z B k n h pc' Ls (.int v :: st)) : Go Q Z B k n h pc Ls (st) := fun x T P => by
  subst hp; exact lift (fun t q => XT.iconstV P.here P.ex rfl v (P.d hd) hv q) (r x T P)
theorem Go.bipush (pc' : Nat) (hp : pc + 2 = pc') {i : Int} (v : Int32) (hd : decode B.by pc = .ok (.bipush i, 2)) (hv : (Int8.ofInt i).toInt32 = v) (r : Go Q Z B k n h pc' Ls (.int v :: st)) : Go Q Z B k n h pc Ls (st) := fun x T P => by
  subst hp; exact lift (fun t q => XT.bipushV P.here P.ex rfl v (P.d hd) hv q) (r x T P)
theorem Go.sipush (pc' : Nat) (hp : pc + 3 = pc') {i : Int} (v : Int32) (hd : decode B.by pc = .ok (.sipush i, 3)) (hv : (Int16.ofInt i).toInt32 = v) (r : Go Q Z B k n h pc' Ls (.int v :: st)) : Go Q Z B k n h pc Ls (st) := fun x T P => by
  subst hp; exact lift (fun t q => XT.sipushV P.here P.ex rfl v (P.d hd) hv q) (r x T P)
theorem Go.lconst (pc' : Nat) (hp : pc + 1 = pc') {i : Fin 2} (v : Int64) (hd : decode B.by pc = .ok (.lconst i, 1)) (hv : Int64.ofNat i = v) (r : Go Q Z B k n h pc' Ls (.long v :: st)) : Go Q Z B k n h pc Ls (st) := fun x T P => by
  subst hp; exact lift (fun t q => XT.lconstV P.here P.ex rfl v (P.d hd) hv q) (r x T P)
theorem Go.aconstNull (pc' : Nat) (hp : pc + 1 = pc')  (hd : decode B.by pc = .ok (.aconst_null, 1))  (r : Go Q Z B k n h pc' Ls (.null :: st)) : Go Q Z B k n h pc Ls (st) := fun x T P => by
  subst hp; exact lift (fun t q => XS.aconstNull P.here P.ex rfl (P.d hd) q) (r x T P)
theorem Go.iadd (pc' : Nat) (hp : pc + 1 = pc') {x1 y1 : Int32} (hd : decode B.by pc = .ok (.iadd, 1))  (r : Go Q Z B k n h pc' Ls (.int (x1 + y1) :: st)) : Go Q Z B k n h pc Ls (.int y1 :: .int x1 :: st) := fun x T P => by
  subst hp; exact lift (fun t q => XS.iadd P.here P.ex rfl (P.d hd) rfl q) (r x T P)
theorem Go.isub (pc' : Nat) (hp : pc + 1 = pc') {x1 y1 : Int32} (hd : decode B.by pc = .ok (.isub, 1))  (r : Go Q Z B k n h pc' Ls (.int (x1 - y1) :: st)) : Go Q Z B k n h pc Ls (.int y1 :: .int x1 :: st) := fun x T P => by
  subst hp; exact lift (fun t q => XS.isub P.here P.ex rfl (P.d hd) rfl q) (r x T P)
theorem Go.iand (pc' : Nat) (hp : pc + 1 = pc') {x1 y1 : Int32} (hd : decode B.by pc = .ok (.iand, 1))  (r : Go Q Z B k n h pc' Ls (.int (x1 &&& y1) :: st)) : Go Q Z B k n h pc Ls (.int y1 :: .int x1 :: st) := fun x T P => by
  subst hp; exact lift (fun t q => XS.iand P.here P.ex rfl (P.d hd) rfl q) (r x T P)
theorem Go.imul (pc' : Nat) (hp : pc + 1 = pc') {x1 y1 : Int32} (hd : decode B.by pc = .ok (.imul, 1))  (r : Go Q Z B k n h pc' Ls (.int (x1 * y1) :: st)) : Go Q Z B k n h pc Ls (.int y1 :: .int x1 :: st) := fun x T P => by
  subst hp; exact lift (fun t q => XS.imul P.here P.ex rfl (P.d hd) rfl q) (r x T P)
theorem Go.ixor (pc' : Nat) (hp : pc + 1 = pc') {x1 y1 : Int32} (hd : decode B.by pc = .ok (.ixor, 1))  (r : Go Q Z B k n h pc' Ls (.int (x1 ^^^ y1) :: st)) : Go Q Z B k n h pc Ls (.int y1 :: .int x1 :: st) := fun x T P => by
  subst hp; exact lift (fun t q => XT.ixor P.here P.ex rfl (P.d hd) rfl q) (r x T P)
theorem Go.ior (pc' : Nat) (hp : pc + 1 = pc') {x1 y1 : Int32} (hd : decode B.by pc = .ok (.ior, 1))  (r : Go Q Z B k n h pc' Ls (.int (x1 ||| y1) :: st)) : Go Q Z B k n h pc Ls (.int y1 :: .int x1 :: st) := fun x T P => by
  subst hp; exact lift (fun t q => XT.ior P.here P.ex rfl (P.d hd) rfl q) (r x T P)
theorem Go.ishl (pc' : Nat) (hp : pc + 1 = pc') {x1 y1 : Int32} (hd : decode B.by pc = .ok (.ishl, 1))  (r : Go Q Z B k n h pc' Ls (.int (x1 <<< (y1 &&& 31)) :: st)) : Go Q Z B k n h pc Ls (.int y1 :: .int x1 :: st) := fun x T P => by
  subst hp; exact lift (fun t q => XT.ishl P.here P.ex rfl (P.d hd) rfl q) (r x T P)
theorem Go.ishr (pc' : Nat) (hp : pc + 1 = pc') {x1 y1 : Int32} (hd : decode B.by pc = .ok (.ishr, 1))  (r : Go Q Z B k n h pc' Ls (.int (x1 >>> (y1 &&& 31)) :: st)) : Go Q Z B k n h pc Ls (.int y1 :: .int x1 :: st) := fun x T P => by
  subst hp; exact lift (fun t q => XT.ishr P.here P.ex rfl (P.d hd) rfl q) (r x T P)
theorem Go.iushr (pc' : Nat) (hp : pc + 1 = pc') {x1 y1 : Int32} (hd : decode B.by pc = .ok (.iushr, 1))  (r : Go Q Z B k n h pc' Ls (.int (XT.ushr x1 y1) :: st)) : Go Q Z B k n h pc Ls (.int y1 :: .int x1 :: st) := fun x T P => by
  subst hp; exact lift (fun t q => XT.iushr P.here P.ex rfl (P.d hd) rfl q) (r x T P)
theorem Go.idiv (pc' : Nat) (hp : pc + 1 = pc') {x1 y1 : Int32} (hd : decode B.by pc = .ok (.idiv, 1)) (hy : y1 ≠ 0) (r : Go Q Z B k n h pc' Ls (.int (x1 / y1) :: st)) : Go Q Z B k n h pc Ls (.int y1 :: .int x1 :: st) := fun x T P => by
  subst hp; exact lift (fun t q => XS.idiv P.here P.ex rfl (P.d hd) rfl hy q) (r x T P)
theorem Go.ladd (pc' : Nat) (hp : pc + 1 = pc') {x1 y1 : Int64} (hd : decode B.by pc = .ok (.ladd, 1))  (r : Go Q Z B k n h pc' Ls (.long (x1 + y1) :: st)) : Go Q Z B k n h pc Ls (.long y1 :: .long x1 :: st) := fun x T P => by
  subst hp; exact lift (fun t q => XT.ladd P.here P.ex rfl (P.d hd) rfl q) (r x T P)
theorem Go.lsub (pc' : Nat) (hp : pc + 1 = pc') {x1 y1 : Int64} (hd : decode B.by pc = .ok (.lsub, 1))  (r : Go Q Z B k n h pc' Ls (.long (x1 - y1) :: st)) : Go Q Z B k n h pc Ls (.long y1 :: .long x1 :: st) := fun x T P => by
  subst hp; exact lift (fun t q => XT.lsub P.here P.ex rfl (P.d hd) rfl q) (r x T P)
theorem Go.land (pc' : Nat) (hp : pc + 1 = pc') {x1 y1 : Int64} (hd : decode B.by pc = .ok (.land, 1))  (r : Go Q Z B k n h pc' Ls (.long (x1 &&& y1) :: st)) : Go Q Z B k n h pc Ls (.long y1 :: .long x1 :: st) := fun x T P => by
  subst hp; exact lift (fun t q => XT.land P.here P.ex rfl (P.d hd) rfl q) (r x T P)
theorem Go.lmul (pc' : Nat) (hp : pc + 1 = pc') {x1 y1 : Int64} (hd : decode B.by pc = .ok (.lmul, 1))  (r : Go Q Z B k n h pc' Ls (.long (x1 * y1) :: st)) : Go Q Z B k n h pc Ls (.long y1 :: .long x1 :: st) := fun x T P => by
  subst hp; exact lift (fun t q => XT.lmul P.here P.ex rfl (P.d hd) rfl q) (r x T P)
theorem Go.lxor (pc' : Nat) (hp : pc + 1 = pc') {x1 y1 : Int64} (hd : decode B.by pc = .ok (.lxor, 1))  (r : Go Q Z B k n h pc' Ls (.long (x1 ^^^ y1) :: st)) : Go Q Z B k n h pc Ls (.long y1 :: .long x1 :: st) := fun x T P => by
  subst hp; exact lift (fun t q => XT.lxor P.here P.ex rfl (P.d hd) rfl q) (r x T P)
theorem Go.lor (pc' : Nat) (hp : pc + 1 = pc') {x1 y1 : Int64} (hd : decode B.by pc = .ok (.lor, 1))  (r : Go Q Z B k n h pc' Ls (.long (x1 ||| y1) :: st)) : Go Q Z B k n h pc Ls (.long y1 :: .long x1 :: st) := fun x T P => by
  subst hp; exact lift (fun t q => XT.lor P.here P.ex rfl (P.d hd) rfl q) (r x T P)
theorem Go.lshl (pc' : Nat) (hp : pc + 1 = pc') {x1 : Int64} {y1 : Int32} (hd : decode B.by pc = .ok (.lshl, 1))  (r : Go Q Z B k n h pc' Ls (.long (x1 <<< (y1.toInt64 &&& 63)) :: st)) : Go Q Z B k n h pc Ls (.int y1 :: .long x1 :: st) := fun x T P => by
  subst hp; exact lift (fun t q => XT.lshl P.here P.ex rfl (P.d hd) rfl q) (r x T P)
theorem Go.lshr (pc' : Nat) (hp : pc + 1 = pc') {x1 : Int64} {y1 : Int32} (hd : decode B.by pc = .ok (.lshr, 1))  (r : Go Q Z B k n h pc' Ls (.long (x1 >>> (y1.toInt64 &&& 63)) :: st)) : Go Q Z B k n h pc Ls (.int y1 :: .long x1 :: st) := fun x T P => by
  subst hp; exact lift (fun t q => XT.lshr P.here P.ex rfl (P.d hd) rfl q) (r x T P)
theorem Go.lushr (pc' : Nat) (hp : pc + 1 = pc') {x1 : Int64} {y1 : Int32} (hd : decode B.by pc = .ok (.lushr, 1))  (r : Go Q Z B k n h pc' Ls (.long (XT.ushrL x1 y1) :: st)) : Go Q Z B k n h pc Ls (.int y1 :: .long x1 :: st) := fun x T P => by
  subst hp; exact lift (fun t q => XT.lushr P.here P.ex rfl (P.d hd) rfl q) (r x T P)
theorem Go.ldiv (pc' : Nat) (hp : pc + 1 = pc') {x1 y1 : Int64} (hd : decode B.by pc = .ok (.ldiv, 1)) (hy : y1 ≠ 0) (r : Go Q Z B k n h pc' Ls (.long (x1 / y1) :: st)) : Go Q Z B k n h pc Ls (.long y1 :: .long x1 :: st) := fun x T P => by
  subst hp; exact lift (fun t q => XT.ldiv P.here P.ex rfl (P.d hd) rfl hy q) (r x T P)
theorem Go.lrem (pc' : Nat) (hp : pc + 1 = pc') {x1 y1 : Int64} (hd : decode B.by pc = .ok (.lrem, 1)) (hy : y1 ≠ 0) (r : Go Q Z B k n h pc' Ls (.long (x1 % y1) :: st)) : Go Q Z B k n h pc Ls (.long y1 :: .long x1 :: st) := fun x T P => by
  subst hp; exact lift (fun t q => XT.lrem P.here P.ex rfl (P.d hd) rfl hy (by rw [lrem_mod]; exact q)) (r x T P)
theorem Go.lneg (pc' : Nat) (hp : pc + 1 = pc') {x1 : Int64} (hd : decode B.by pc = .ok (.lneg, 1))  (r : Go Q Z B k n h pc' Ls (.long (-x1) :: st)) : Go Q Z B k n h pc Ls (.long x1 :: st) := fun x T P => by
  subst hp; exact lift (fun t q => XT.lneg P.here P.ex rfl (P.d hd) rfl q) (r x T P)
theorem Go.ineg (pc' : Nat) (hp : pc + 1 = pc') {x1 : Int32} (hd : decode B.by pc = .ok (.ineg, 1))  (r : Go Q Z B k n h pc' Ls (.int (-x1) :: st)) : Go Q Z B k n h pc Ls (.int x1 :: st) := fun x T P => by
  subst hp; exact lift (fun t q => XS.ineg P.here P.ex rfl (P.d hd) rfl q) (r x T P)
theorem Go.i2l (pc' : Nat) (hp : pc + 1 = pc') {x1 : Int32} (hd : decode B.by pc = .ok (.i2l, 1))  (r : Go Q Z B k n h pc' Ls (.long x1.toInt64 :: st)) : Go Q Z B k n h pc Ls (.int x1 :: st) := fun x T P => by
  subst hp; exact lift (fun t q => XT.i2l P.here P.ex rfl (P.d hd) rfl q) (r x T P)
theorem Go.l2i (pc' : Nat) (hp : pc + 1 = pc') {x1 : Int64} (hd : decode B.by pc = .ok (.l2i, 1))  (r : Go Q Z B k n h pc' Ls (.int x1.toInt32 :: st)) : Go Q Z B k n h pc Ls (.long x1 :: st) := fun x T P => by
  subst hp; exact lift (fun t q => XT.l2i P.here P.ex rfl (P.d hd) rfl q) (r x T P)
theorem Go.i2b (pc' : Nat) (hp : pc + 1 = pc') {x1 : Int32} (hd : decode B.by pc = .ok (.i2b, 1))  (r : Go Q Z B k n h pc' Ls (.int x1.toInt8.toInt32 :: st)) : Go Q Z B k n h pc Ls (.int x1 :: st) := fun x T P => by
  subst hp; exact lift (fun t q => XT.i2b P.here P.ex rfl (P.d hd) rfl q) (r x T P)
theorem Go.i2c (pc' : Nat) (hp : pc + 1 = pc') {x1 : Int32} (hd : decode B.by pc = .ok (.i2c, 1))  (r : Go Q Z B k n h pc' Ls (.int x1.toUInt32.toUInt16.toUInt32.toInt32 :: st)) : Go Q Z B k n h pc Ls (.int x1 :: st) := fun x T P => by
  subst hp; exact lift (fun t q => XT.i2c P.here P.ex rfl (P.d hd) rfl q) (r x T P)
theorem Go.i2s (pc' : Nat) (hp : pc + 1 = pc') {x1 : Int32} (hd : decode B.by pc = .ok (.i2s, 1))  (r : Go Q Z B k n h pc' Ls (.int x1.toInt16.toInt32 :: st)) : Go Q Z B k n h pc Ls (.int x1 :: st) := fun x T P => by
  subst hp; exact lift (fun t q => XT.i2s P.here P.ex rfl (P.d hd) rfl q) (r x T P)
theorem Go.lcmp (pc' : Nat) (hp : pc + 1 = pc') {x1 y1 : Int64} (hd : decode B.by pc = .ok (.lcmp, 1))  (r : Go Q Z B k n h pc' Ls (.int (XT.cmpL x1 y1) :: st)) : Go Q Z B k n h pc Ls (.long y1 :: .long x1 :: st) := fun x T P => by
  subst hp; exact lift (fun t q => XT.lcmp P.here P.ex rfl (P.d hd) rfl q) (r x T P)
theorem Go.i2d (pc' : Nat) (hp : pc + 1 = pc') {x1 : Int32} (hd : decode B.by pc = .ok (.i2d, 1))  (r : Go Q Z B k n h pc' Ls (.double (FP.i2d x1) :: st)) : Go Q Z B k n h pc Ls (.int x1 :: st) := fun x T P => by
  subst hp; exact lift (fun t q => XS.i2dS P.here P.ex rfl (P.d hd) rfl rfl q) (r x T P)
theorem Go.l2d (pc' : Nat) (hp : pc + 1 = pc') {x1 : Int64} (hd : decode B.by pc = .ok (.l2d, 1))  (r : Go Q Z B k n h pc' Ls (.double (FP.l2d x1) :: st)) : Go Q Z B k n h pc Ls (.long x1 :: st) := fun x T P => by
  subst hp; exact lift (fun t q => XS.l2dS P.here P.ex rfl (P.d hd) rfl rfl q) (r x T P)
theorem Go.dcmp (pc' : Nat) (hp : pc + 1 = pc') {o : CmpOp} {x1 y1 : UInt64} (v : Int32) (hd : decode B.by pc = .ok (.dcmp o, 1)) (hv : cmpValue (FP.dcmp x1 y1) o = v) (r : Go Q Z B k n h pc' Ls (.int v :: st)) : Go Q Z B k n h pc Ls (.double y1 :: .double x1 :: st) := fun x T P => by
  subst hp; exact lift (fun t q => XS.dcmpS P.here P.ex rfl (P.d hd) rfl hv q) (r x T P)
theorem Go.ddiv (pc' : Nat) (hp : pc + 1 = pc') {x1 y1 : UInt64} (hd : decode B.by pc = .ok (.ddiv, 1)) (hn : Jvm.Free.Fl.NoNaN64 (FP.ddiv x1 y1)) (r : Go Q Z B k n h pc' Ls (.double (FP.ddiv x1 y1) :: st)) : Go Q Z B k n h pc Ls (.double y1 :: .double x1 :: st) := fun x T P => by
  subst hp; exact lift (fun t q => XS.ddivS P.here P.ex rfl (P.d hd) rfl hn rfl q) (r x T P)
theorem Go.dup (pc' : Nat) (hp : pc + 1 = pc') {v : Value} (hd : decode B.by pc = .ok (.dup, 1)) (hc : v.category = 1) (r : Go Q Z B k n h pc' Ls (v :: v :: st)) : Go Q Z B k n h pc Ls (v :: st) := fun x T P => by
  subst hp; exact lift (fun t q => XS.dup P.here P.ex rfl (P.d hd) rfl hc q) (r x T P)
theorem Go.pop (pc' : Nat) (hp : pc + 1 = pc') {v : Value} (hd : decode B.by pc = .ok (.pop, 1)) (hc : v.category = 1) (r : Go Q Z B k n h pc' Ls (st)) : Go Q Z B k n h pc Ls (v :: st) := fun x T P => by
  subst hp; exact lift (fun t q => XT.pop P.here P.ex rfl (P.d hd) rfl hc q) (r x T P)
theorem Go.dupX1 (pc' : Nat) (hp : pc + 1 = pc') {v w : Value} (hd : decode B.by pc = .ok (.dup_x1, 1)) (hc : v.category = 1) (hc' : w.category = 1) (r : Go Q Z B k n h pc' Ls (v :: w :: v :: st)) : Go Q Z B k n h pc Ls (v :: w :: st) := fun x T P => by
  subst hp; exact lift (fun t q => XT.dupX1 P.here P.ex rfl (P.d hd) rfl hc hc' q) (r x T P)
theorem Go.dup2 (pc' : Nat) (hp : pc + 1 = pc') {v w : Value} (hd : decode B.by pc = .ok (.dup2, 1)) (hc : v.category = 1) (hc' : w.category = 1) (r : Go Q Z B k n h pc' Ls (v :: w :: v :: w :: st)) : Go Q Z B k n h pc Ls (v :: w :: st) := fun x T P => by
  subst hp; exact lift (fun t q => XT.dup2 P.here P.ex rfl (P.d hd) rfl hc hc' q) (r x T P)
theorem Go.dup2L (pc' : Nat) (hp : pc + 1 = pc') {v : Int64} (hd : decode B.by pc = .ok (.dup2, 1))  (r : Go Q Z B k n h pc' Ls (.long v :: .long v :: st)) : Go Q Z B k n h pc Ls (.long v :: st) := fun x T P => by
  subst hp; exact lift (fun t q => XT.dup2L P.here P.ex rfl (P.d hd) rfl q) (r x T P)
theorem Go.iinc (pc' : Nat) (hp : pc + 3 = pc') {i : Nat} {cst : Int} {x1 : Int32} (v : Int32) (hd : decode B.by pc = .ok (.iinc i cst, 3)) (hv : Int32.ofInt cst = v) (hl : Ls[i]? = some (.val (.int x1))) (hl' : storeLocals Ls i (.int (x1 + v)) = some Ls') (r : Go Q Z B k n h pc' Ls' (st)) : Go Q Z B k n h pc Ls (st) := fun x T P => by
  subst hp; exact lift (fun t q => XT.iincV P.here P.ex rfl v (P.d hd) hv hl hl' q) (r x T P)
theorem Go.irem (pc' : Nat) (hp : pc + 1 = pc') {x1 y1 : Int32} (hd : decode B.by pc = .ok (.irem, 1)) (hy : y1 ≠ 0) (r : Go Q Z B k n h pc' Ls (.int (x1 % y1) :: st)) : Go Q Z B k n h pc Ls (.int y1 :: .int x1 :: st) := fun x T P => by
  subst hp; obtain ⟨_, _, _, X, _⟩ := id P; exact lift (fun t q => iremM X P.ex rfl (P.d hd) rfl hy q) (r x T P)
theorem Go.goto (pc' : Nat) {o : Int} (hd : decode B.by pc = .ok (.goto o, 3)) (h0 : 0 ≤ (pc : Int) + o) (hp : ((pc : Int) + o).toNat = pc') (r : Go Q Z B k n h pc' Ls st) : Go Q Z B k n h pc Ls st := fun x T P =>
  lift (fun t q => XS.goto P.here P.ex rfl (pc0 := pc) rfl (P.d hd) h0 hp q) (r x T P)
theorem Go.icmp_lt (pT pF : Nat) {x1 y1 : Int32} {o : Int} (hd : decode B.by pc = .ok (.if_icmp .lt o, 3)) (h0 : 0 ≤ (pc : Int) + o) (hT : ((pc : Int) + o).toNat = pT) (hF : pc + 3 = pF) (rT : x1 < y1 → Go Q Z B k n h pT Ls st) (rF : ¬ x1 < y1 → Go Q Z B k n h pF Ls st) : Go Q Z B k n h pc Ls (.int y1 :: .int x1 :: st) := fun x T P => by
  subst hF
  by_cases c : x1 < y1
  · exact lift (fun t q => XS.icmpYes P.here P.ex rfl (pc0 := pc) rfl (P.d hd) rfl (tlt c).1 h0 hT q) (rT c x T P)
  · exact lift (fun t q => XS.icmpNo P.here P.ex rfl (P.d hd) rfl (flt c).1 q) (rF c x T P)
theorem Go.if_lt (pT pF : Nat) {x1 : Int32} {o : Int} (hd : decode B.by pc = .ok (.ifCond .lt o, 3)) (h0 : 0 ≤ (pc : Int) + o) (hT : ((pc : Int) + o).toNat = pT) (hF : pc + 3 = pF) (rT : x1 < 0 → Go Q Z B k n h pT Ls st) (rF : ¬ x1 < 0 → Go Q Z B k n h pF Ls st) : Go Q Z B k n h pc Ls (.int x1 :: st) := fun x T P => by
  subst hF
  by_cases c : x1 < 0
  · exact lift (fun t q => XS.ifYes P.here P.ex rfl (pc0 := pc) rfl (P.d hd) rfl ((if0 _ _).trans (tlt c).1) h0 hT q) (rT c x T P)
  · exact lift (fun t q => XS.ifNo P.here P.ex rfl (P.d hd) rfl ((if0 _ _).trans (flt c).1) q) (rF c x T P)
theorem Go.icmp_ge (pT pF : Nat) {x1 y1 : Int32} {o : Int} (hd : decode B.by pc = .ok (.if_icmp .ge o, 3)) (h0 : 0 ≤ (pc : Int) + o) (hT : ((pc : Int) + o).toNat = pT) (hF : pc + 3 = pF) (rT : ¬ x1 < y1 → Go Q Z B k n h pT Ls st) (rF : x1 < y1 → Go Q Z B k n h pF Ls st) : Go Q Z B k n h pc Ls (.int y1 :: .int x1 :: st) := fun x T P => by
  subst hF
  by_cases c : ¬ x1 < y1
  · exact lift (fun t q => XS.icmpYes P.here P.ex rfl (pc0 := pc) rfl (P.d hd) rfl (flt c).2.1 h0 hT q) (rT c x T P)
  · replace c := Decidable.not_not.mp c
    exact lift (fun t q => XS.icmpNo P.here P.ex rfl (P.d hd) rfl (tlt c).2.1 q) (rF c x T P)
theorem Go.if_ge (pT pF : Nat) {x1 : Int32} {o : Int} (hd : decode B.by pc = .ok (.ifCond .ge o, 3)) (h0 : 0 ≤ (pc : Int) + o) (hT : ((pc : Int) + o).toNat = pT) (hF : pc + 3 = pF) (rT : ¬ x1 < 0 → Go Q Z B k n h pT Ls st) (rF : x1 < 0 → Go Q Z B k n h pF Ls st) : Go Q Z B k n h pc Ls (.int x1 :: st) := fun x T P => by
  subst hF
  by_cases c : ¬ x1 < 0
  · exact lift (fun t q => XS.ifYes P.here P.ex rfl (pc0 := pc) rfl (P.d hd) rfl ((if0 _ _).trans (flt c).2.1) h0 hT q) (rT c x T P)
  · replace c := Decidable.not_not.mp c
    exact lift (fun t q => XS.ifNo P.here P.ex rfl (P.d hd) rfl ((if0 _ _).trans (tlt c).2.1) q) (rF c x T P)
theorem Go.icmp_gt (pT pF : Nat) {x1 y1 : Int32} {o : Int} (hd : decode B.by pc = .ok (.if_icmp .gt o, 3)) (h0 : 0 ≤ (pc : Int) + o) (hT : ((pc : Int) + o).toNat = pT) (hF : pc + 3 = pF) (rT : y1 < x1 → Go Q Z B k n h pT Ls st) (rF : ¬ y1 < x1 → Go Q Z B k n h pF Ls st) : Go Q Z B k n h pc Ls (.int y1 :: .int x1 :: st) := fun x T P => by
  subst hF
  by_cases c : y1 < x1
  · exact lift (fun t q => XS.icmpYes P.here P.ex rfl (pc0 := pc) rfl (P.d hd) rfl (tlt c).2.2.1 h0 hT q) (rT c x T P)
  · exact lift (fun t q => XS.icmpNo P.here P.ex rfl (P.d hd) rfl (flt c).2.2.1 q) (rF c x T P)
theorem Go.if_gt (pT pF : Nat) {x1 : Int32} {o : Int} (hd : decode B.by pc = .ok (.ifCond .gt o, 3)) (h0 : 0 ≤ (pc : Int) + o) (hT : ((pc : Int) + o).toNat = pT) (hF : pc + 3 = pF) (rT : 0 < x1 → Go Q Z B k n h pT Ls st) (rF : ¬ 0 < x1 → Go Q Z B k n h pF Ls st) : Go Q Z B k n h pc Ls (.int x1 :: st) := fun x T P => by
  subst hF
  by_cases c : 0 < x1
  · exact lift (fun t q => XS.ifYes P.here P.ex rfl (pc0 := pc) rfl (P.d hd) rfl ((if0 _ _).trans (tlt c).2.2.1) h0 hT q) (rT c x T P)
  · exact lift (fun t q => XS.ifNo P.here P.ex rfl (P.d hd) rfl ((if0 _ _).trans (flt c).2.2.1) q) (rF c x T P)
theorem Go.icmp_le (pT pF : Nat) {x1 y1 : Int32} {o : Int} (hd : decode B.by pc = .ok (.if_icmp .le o, 3)) (h0 : 0 ≤ (pc : Int) + o) (hT : ((pc : Int) + o).toNat = pT) (hF : pc + 3 = pF) (rT : ¬ y1 < x1 → Go Q Z B k n h pT Ls st) (rF : y1 < x1 → Go Q Z B k n h pF Ls st) : Go Q Z B k n h pc Ls (.int y1 :: .int x1 :: st) := fun x T P => by
  subst hF
  by_cases c : ¬ y1 < x1
  · exact lift (fun t q => XS.icmpYes P.here P.ex rfl (pc0 := pc) rfl (P.d hd) rfl (flt c).2.2.2 h0 hT q) (rT c x T P)
  · replace c := Decidable.not_not.mp c
    exact lift (fun t q => XS.icmpNo P.here P.ex rfl (P.d hd) rfl (tlt c).2.2.2 q) (rF c x T P)
theorem Go.if_le (pT pF : Nat) {x1 : Int32} {o : Int} (hd : decode B.by pc = .ok (.ifCond .le o, 3)) (h0 : 0 ≤ (pc : Int) + o) (hT : ((pc : Int) + o).toNat = pT) (hF : pc + 3 = pF) (rT : ¬ 0 < x1 → Go Q Z B k n h pT Ls st) (rF : 0 < x1 → Go Q Z B k n h pF Ls st) : Go Q Z B k n h pc Ls (.int x1 :: st) := fun x T P => by
  subst hF
  by_cases c : ¬ 0 < x1
  · exact lift (fun t q => XS.ifYes P.here P.ex rfl (pc0 := pc) rfl (P.d hd) rfl ((if0 _ _).trans (flt c).2.2.2) h0 hT q) (rT c x T P)
  · replace c := Decidable.not_not.mp c
    exact lift (fun t q => XS.ifNo P.here P.ex rfl (P.d hd) rfl ((if0 _ _).trans (tlt c).2.2.2) q) (rF c x T P)
theorem Go.icmp_eq (pT pF : Nat) {x1 y1 : Int32} {o : Int} (hd : decode B.by pc = .ok (.if_icmp .eq o, 3)) (h0 : 0 ≤ (pc : Int) + o) (hT : ((pc : Int) + o).toNat = pT) (hF : pc + 3 = pF) (rT : x1 = y1 → Go Q Z B k n h pT Ls st) (rF : ¬ x1 = y1 → Go Q Z B k n h pF Ls st) : Go Q Z B k n h pc Ls (.int y1 :: .int x1 :: st) := fun x T P => by
  subst hF
  by_cases c : x1 = y1
  · exact lift (fun t q => XS.icmpYes P.here P.ex rfl (pc0 := pc) rfl (P.d hd) rfl (teq c).1 h0 hT q) (rT c x T P)
  · exact lift (fun t q => XS.icmpNo P.here P.ex rfl (P.d hd) rfl (feq c).1 q) (rF c x T P)
theorem Go.if_eq (pT pF : Nat) {x1 : Int32} {o : Int} (hd : decode B.by pc = .ok (.ifCond .eq o, 3)) (h0 : 0 ≤ (pc : Int) + o) (hT : ((pc : Int) + o).toNat = pT) (hF : pc + 3 = pF) (rT : x1 = 0 → Go Q Z B k n h pT Ls st) (rF : ¬ x1 = 0 → Go Q Z B k n h pF Ls st) : Go Q Z B k n h pc Ls (.int x1 :: st) := fun x T P => by
  subst hF
  by_cases c : x1 = 0
  · exact lift (fun t q => XS.ifYes P.here P.ex rfl (pc0 := pc) rfl (P.d hd) rfl ((if0 _ _).trans (teq c).1) h0 hT q) (rT c x T P)
  · exact lift (fun t q => XS.ifNo P.here P.ex rfl (P.d hd) rfl ((if0 _ _).trans (feq c).1) q) (rF c x T P)
theorem Go.icmp_ne (pT pF : Nat) {x1 y1 : Int32} {o : Int} (hd : decode B.by pc = .ok (.if_icmp .ne o, 3)) (h0 : 0 ≤ (pc : Int) + o) (hT : ((pc : Int) + o).toNat = pT) (hF : pc + 3 = pF) (rT : ¬ x1 = y1 → Go Q Z B k n h pT Ls st) (rF : x1 = y1 → Go Q Z B k n h pF Ls st) : Go Q Z B k n h pc Ls (.int y1 :: .int x1 :: st) := fun x T P => by
  subst hF
  by_cases c : ¬ x1 = y1
  · exact lift (fun t q => XS.icmpYes P.here P.ex rfl (pc0 := pc) rfl (P.d hd) rfl (feq c).2 h0 hT q) (rT c x T P)
  · replace c := Decidable.not_not.mp c
    exact lift (fun t q => XS.icmpNo P.here P.ex rfl (P.d hd) rfl (teq c).2 q) (rF c x T P)
theorem Go.if_ne (pT pF : Nat) {x1 : Int32} {o : Int} (hd : decode B.by pc = .ok (.ifCond .ne o, 3)) (h0 : 0 ≤ (pc : Int) + o) (hT : ((pc : Int) + o).toNat = pT) (hF : pc + 3 = pF) (rT : ¬ x1 = 0 → Go Q Z B k n h pT Ls st) (rF : x1 = 0 → Go Q Z B k n h pF Ls st) : Go Q Z B k n h pc Ls (.int x1 :: st) := fun x T P => by
  subst hF
  by_cases c : ¬ x1 = 0
  · exact lift (fun t q => XS.ifYes P.here P.ex rfl (pc0 := pc) rfl (P.d hd) rfl ((if0 _ _).trans (feq c).2) h0 hT q) (rT c x T P)
  · replace c := Decidable.not_not.mp c
    exact lift (fun t q => XS.ifNo P.here P.ex rfl (P.d hd) rfl ((if0 _ _).trans (teq c).2) q) (rF c x T P)
theorem Go.ifnull_r (pF : Nat) {o : Int} {b : Addr} (hd : decode B.by pc = .ok (.ifnull o, 3)) (hF : pc + 3 = pF) (r : Go Q Z B k n h pF Ls st) : Go Q Z B k n h pc Ls (.ref b :: st) := fun x T P => by
  subst hF; exact lift (fun t q => XS.ifnullNo P.here P.ex rfl (P.d hd) rfl q) (r x T P)
theorem Go.ifnull_n (pT : Nat) {o : Int} (hd : decode B.by pc = .ok (.ifnull o, 3)) (h0 : 0 ≤ (pc : Int) + o) (hT : ((pc : Int) + o).toNat = pT) (r : Go Q Z B k n h pT Ls st) : Go Q Z B k n h pc Ls (.null :: st) := fun x T P =>
  lift (fun t q => XS.ifnullYes P.here P.ex rfl (pc0 := pc) rfl (P.d hd) rfl h0 hT q) (r x T P)
theorem Go.ifnonnull_r (pT : Nat) {o : Int} {b : Addr} (hd : decode B.by pc = .ok (.ifnonnull o, 3)) (h0 : 0 ≤ (pc : Int) + o) (hT : ((pc : Int) + o).toNat = pT) (r : Go Q Z B k n h pT Ls st) : Go Q Z B k n h pc Ls (.ref b :: st) := fun x T P =>
  lift (fun t q => XT.ifnonnullYes P.here P.ex rfl (pc0 := pc) rfl (P.d hd) rfl h0 hT q) (r x T P)
theorem Go.ifnonnull_n (pF : Nat) {o : Int} (hd : decode B.by pc = .ok (.ifnonnull o, 3)) (hF : pc + 3 = pF) (r : Go Q Z B k n h pF Ls st) : Go Q Z B k n h pc Ls (.null :: st) := fun x T P => by
  subst hF; exact lift (fun t q => XT.ifnonnullNo P.here P.ex rfl (P.d hd) rfl q) (r x T P)
theorem Go.acmp_eq (pT pF : Nat) {v w : Value} {o : Int} (hd : decode B.by pc = .ok (.if_acmp .eq o, 3)) (h0 : 0 ≤ (pc : Int) + o) (hT : ((pc : Int) + o).toNat = pT) (hF : pc + 3 = pF) (hv : v.isRef = true) (hw : w.isRef = true) (rT : v = w → Go Q Z B k n h pT Ls st) (rF : ¬ v = w → Go Q Z B k n h pF Ls st) : Go Q Z B k n h pc Ls (w :: v :: st) := fun x T P => by
  subst hF
  by_cases c : v = w
  · exact lift (fun t q => XT.acmpYes P.here P.ex rfl (pc0 := pc) rfl (P.d hd) rfl hv hw (XT.aa_eq_t c) h0 hT q) (rT c x T P)
  · exact lift (fun t q => XT.acmpNo P.here P.ex rfl (P.d hd) rfl hv hw (XT.aa_eq_f c) q) (rF c x T P)
theorem Go.acmp_ne (pT pF : Nat) {v w : Value} {o : Int} (hd : decode B.by pc = .ok (.if_acmp .ne o, 3)) (h0 : 0 ≤ (pc : Int) + o) (hT : ((pc : Int) + o).toNat = pT) (hF : pc + 3 = pF) (hv : v.isRef = true) (hw : w.isRef = true) (rT : ¬ v = w → Go Q Z B k n h pT Ls st) (rF : v = w → Go Q Z B k n h pF Ls st) : Go Q Z B k n h pc Ls (w :: v :: st) := fun x T P => by
  subst hF
  by_cases c : ¬ v = w
  · exact lift (fun t q => XT.acmpYes P.here P.ex rfl (pc0 := pc) rfl (P.d hd) rfl hv hw (XT.aa_ne_t c) h0 hT q) (rT c x T P)
  · replace c := Decidable.not_not.mp c
    exact lift (fun t q => XT.acmpNo P.here P.ex rfl (P.d hd) rfl hv hw (XT.aa_ne_f c) q) (rF c x T P)
theorem En.zz (E : En Z x B) : Z.Warmed39 x.s.vm := E.2.2.2.2.2.2.1
theorem En.own (E : En Z x B) : x.s.vm.findClass B.y.cls = some x.m.cls := E.2.2.2.1
theorem En.ml (E : En Z x B) : x.c.maxLocals = B.ml := E.2.2.1
theorem En.rt (E : En Z x B) : x.meth.sig.returnType = B.rt := E.2.2.2.2.2.1
theorem En.nl (E : En Z x B) : x.meth.locks = false := E.2.2.2.2.2.2.2.1
/-! ## constants of the pool -/
theorem Go.ldcI (pc' : Nat) (hp : pc + 2 = pc') {ix : Nat} {v : Int32} (i : Nat) (hd : decode B.by pc = .ok (.ldc ix, 2)) (w : B.tb[i]? = some (.constant B.y.cls ix v)) (r : Go Q Z B k n h pc' Ls (.int v :: st)) : Go Q Z B k n h pc Ls st := fun x T P => by
  subst hp
  obtain ⟨a0, hw⟩ := P.wd.w
  obtain ⟨E, _, _, X, _⟩ := id P
  exact lift (fun t q => X.ldcI P.ex E.own (mv E.zz (hw w)) rfl (P.d hd) q) (r x T P)
theorem Go.ldcWI (pc' : Nat) (hp : pc + 3 = pc') {ix : Nat} {v : Int32} (i : Nat) (hd : decode B.by pc = .ok (.ldc_w ix, 3)) (w : B.tb[i]? = some (.constant B.y.cls ix v)) (r : Go Q Z B k n h pc' Ls (.int v :: st)) : Go Q Z B k n h pc Ls st := fun x T P => by
  subst hp
  obtain ⟨a0, hw⟩ := P.wd.w
  obtain ⟨E, _, _, X, _⟩ := id P
  exact lift (fun t q => X.ldcWI P.ex E.own (mv E.zz (hw w)) rfl (P.d hd) q) (r x T P)
theorem Go.ldc2J (pc' : Nat) (hp : pc + 3 = pc') {ix : Nat} {v : Int64} (i : Nat) (hd : decode B.by pc = .ok (.ldc2_w ix, 3)) (w : B.tb[i]? = some (.constantLong B.y.cls ix v)) (r : Go Q Z B k n h pc' Ls (.long v :: st)) : Go Q Z B k n h pc Ls st := fun x T P => by
  subst hp
  obtain ⟨a0, hw⟩ := P.wd.w
  obtain ⟨E, _, _, X, _⟩ := id P
  exact lift (fun t q => X.ldc2J P.ex E.own (mv E.zz (hw w)) rfl (P.d hd) q) (r x T P)
theorem Go.ldc2D (pc' : Nat) (hp : pc + 3 = pc') {ix : Nat} {v : UInt64} (i : Nat) (hd : decode B.by pc = .ok (.ldc2_w ix, 3)) (w : B.tb[i]? = some (.constantDouble B.y.cls ix v)) (r : Go Q Z B k n h pc' Ls (.double v :: st)) : Go Q Z B k n h pc Ls st := fun x T P => by
  subst hp
  obtain ⟨a0, hw⟩ := P.wd.w
  obtain ⟨E, _, _, X, _⟩ := id P
  exact lift (fun t q => X.ldc2DoubleC P.ex E.own (mv E.zz (hw w)) (g := mkF x.m pc Ls st) rfl (P.d hd) t q) (r x T P)
/-! ## objects -/
theorem store_one {l l' : Array Slot} {i : Nat} {v : Value} {o : Slot} (hold : l[i]? = some o) (ho : One o) (hv : v.category = 1) (hl : l.setIfInBounds i (.val v) = l') : storeLocals l i v = some l' := by
  rw [XS.store1 hold ho hv, hl]
theorem ltN {a : Addr} {m : Nat} (q : @LT.lt Nat instLTNat a m) : @LT.lt Nat instLTNat a m := q
theorem keep_ext (E : Ext h h') : Keep h h' [] := (Keep.refl h []).ext E
theorem keep_wr {a : Addr} {sl : Nat} {v : Value} (W : Wr h h' a sl v) : Keep h h' [a] := Keep.of_wr W
theorem ext_keep {H : Heap} {ws : List Addr} (E : Ext H h) (K : Keep h h' ws) (q : ∀ y ∈ ws, H.size ≤ y) : Ext H h' :=
  ⟨Nat.le_trans E.1 K.1, fun y c r => K.2.1 y c (E.2 y c r) fun z => absurd (Array.getElem?_eq_some_iff.mp r).1 (Nat.not_lt.mpr (q y z))⟩
theorem ge1 {H : Nat} {a : Addr} (q : H ≤ a) : ∀ y ∈ [a], H ≤ y := allS q all0
theorem fr_snoc {K : Nat} {locs : List Loc} {a : Addr} {sl : Nat} (N : Fr K locs) (q : K ≤ a) : Fr K (locs ++ [⟨a, sl⟩]) := N.app fun y hy => by cases List.mem_singleton.mp hy; exact q
theorem Go.newO (pc' : Nat) (hp : pc + 3 = pc') {C : String} {ix sz : Nat} (i1 i2 i3 : Nat) (hd : decode B.by pc = .ok (.new ix, 3)) (w1 : B.tb[i1]? = some (.classLink B.y.cls ix C)) (w2 : B.tb[i2]? = some (.instantiable C sz)) (w3 : B.tb[i3]? = some (.initialized C)) (hc : k + 1 ≤ B.R.cells) (hl : n + sz ≤ B.R.slots)
    (r : ∀ (h' : Heap) (a : Addr), @Eq Nat a h.size → Z.heap.size ≤ a → Keep h h' [] → Exa Z h' a C → (∀ (i : Nat) {O nm d : String} {ty : FieldType}, B.tb[i]? = some (.lays C O nm d) ∨ B.tb[i]? = some (.laysFinal C O nm d) → parseFieldDescriptor d = some ty → Fld Z h' a O nm d (defaultValue ty)) → Go Q Z B (k + 1) (n + sz) h' pc' Ls (.ref a :: st)) : Go Q Z B k n h pc Ls st := fun x T P => by
  subst hp
  obtain ⟨a0, hw⟩ := P.wd.w
  obtain ⟨E, O', locs, X, e, N⟩ := id P
  obtain ⟨T', h', X', e', Ex, A, D, -, s'⟩ := RoadKit.newO X P.ex E.zz E.own (hw w1) (hw w2) (hw w3) e (g := mkF x.m pc Ls st) rfl (P.d hd) hc hl
  exact lift s' (r h' h.size rfl P.le (keep_ext Ex) A (fun i {O nm d ty} q ht => D (q.imp (fun z => hw z) (fun z => hw z)) ht) x T' ⟨E, ⟨Nat.le_trans O'.1 Ex.1, fun y c q => Ex.2 y c (O'.2 y c q)⟩, locs, X', e', N⟩)
theorem Go.getF (pc' : Nat) (hp : pc + 3 = pc') {O nm d : String} {ix : Nat} {a : Addr} {v : Value} (i : Nat) (hd : decode B.by pc = .ok (.getfield ix, 3)) (w : B.tb[i]? = some (.fieldLink B.y.cls ix O nm d)) (F : Fld Z h a O nm d v) (r : Go Q Z B k n h pc' Ls (v :: st)) : Go Q Z B k n h pc Ls (.ref a :: st) := fun x T P => by
  subst hp
  obtain ⟨a0, hw⟩ := P.wd.w
  obtain ⟨E, O', locs, X, e, N⟩ := id P
  obtain ⟨T', X', e', s'⟩ := RoadKit.getF X P.ex E.zz E.own (host := "") (Or.inl (hw w)) Via.refl e F (g := mkF x.m pc Ls (.ref a :: st)) rfl rfl (P.d hd)
  exact lift s' (r x T' ⟨E, O', locs, X', e', N⟩)
theorem Go.getFN (pc' : Nat) (hp : pc + 3 = pc') {O nm d host : String} {ix : Nat} {a : Addr} {v : Value} (i : Nat) (hd : decode B.by pc = .ok (.getfield ix, 3)) (w : B.tb[i]? = some (.fieldLinkNest B.y.cls ix O nm d host)) (F : Fld Z h a O nm d v) (r : Go Q Z B k n h pc' Ls (v :: st)) : Go Q Z B k n h pc Ls (.ref a :: st) := fun x T P => by
  subst hp
  obtain ⟨a0, hw⟩ := P.wd.w
  obtain ⟨E, O', locs, X, e, N⟩ := id P
  obtain ⟨T', X', e', s'⟩ := RoadKit.getF X P.ex E.zz E.own (host := host) (Or.inr (hw w)) Via.refl e F (g := mkF x.m pc Ls (.ref a :: st)) rfl rfl (P.d hd)
  exact lift s' (r x T' ⟨E, O', locs, X', e', N⟩)
theorem Go.getFV (pc' : Nat) (hp : pc + 3 = pc') {R0 O nm d : String} {ix : Nat} {a : Addr} {v : Value} (i j : Nat) (hd : decode B.by pc = .ok (.getfield ix, 3)) (w : B.tb[i]? = some (.fieldLink B.y.cls ix R0 nm d)) (w2 : B.tb[j]? = some (.sameField R0 O nm d)) (F : Fld Z h a O nm d v) (r : Go Q Z B k n h pc' Ls (v :: st)) : Go Q Z B k n h pc Ls (.ref a :: st) := fun x T P => by
  subst hp
  obtain ⟨a0, hw⟩ := P.wd.w
  obtain ⟨E, O', locs, X, e, N⟩ := id P
  obtain ⟨T', X', e', s'⟩ := RoadKit.getF X P.ex E.zz E.own (host := "") (Or.inl (hw w)) (Via.of (hw w2)) e F (g := mkF x.m pc Ls (.ref a :: st)) rfl rfl (P.d hd)
  exact lift s' (r x T' ⟨E, O', locs, X', e', N⟩)
theorem Go.putF (pc' : Nat) (hp : pc + 3 = pc') {C O nm d : String} {ix sz : Nat} {ty : FieldType} {a : Addr} {v v' old : Value} (i1 i2 i3 : Nat) (hd : decode B.by pc = .ok (.putfield ix, 3)) (w1 : B.tb[i1]? = some (.fieldLink B.y.cls ix O nm d)) (F : Fld Z h a O nm d old) (Ea : Exa Z h a C)
    (L : B.tb[i2]? = some (.lays C O nm d) ∨ (B.tb[i2]? = some (.laysFinal C O nm d) ∧ B.y.cls = O ∧ B.y.name = "<init>")) (w3 : B.tb[i3]? = some (.instantiable C sz)) (hty : parseFieldDescriptor d = some ty) (hn : narrow ty v = v') (hf : fits ty v' = true) (ge : Z.heap.size ≤ a)
    (r : ∀ h' : Heap, Keep h h' [a] → Wr h h' a (RoadKit.slotOf Z O nm d) v' → Fld Z h' a O nm d v' → Go Q Z B k n h' pc' Ls st) : Go Q Z B k n h pc Ls (v :: .ref a :: st) := fun x T P => by
  subst hp
  obtain ⟨a0, hw⟩ := P.wd.w
  obtain ⟨E, O', locs, X, e, N⟩ := id P
  obtain ⟨T', h', X', e', W, s'⟩ := putFN X P.ex E.zz E.own (hw w1) Via.refl e F Ea (L.imp (fun z => hw z) (fun z => ⟨hw z.1, z.2.1, E.2.2.2.2.1.trans z.2.2⟩)) (hw w3) hty hn hf (g := mkF x.m pc Ls (v :: .ref a :: st)) rfl rfl (P.d hd)
  exact lift s' (r h' (keep_wr W) W (F.same W) x T' ⟨E, ext_keep O' (keep_wr W) (ge1 ge), _, X', e', fr_snoc N ge⟩)
theorem Go.putFV (pc' : Nat) (hp : pc + 3 = pc') {R0 C O nm d : String} {ix sz : Nat} {ty : FieldType} {a : Addr} {v v' old : Value} (i1 i2 i3 i4 : Nat) (hd : decode B.by pc = .ok (.putfield ix, 3)) (w1 : B.tb[i1]? = some (.fieldLink B.y.cls ix R0 nm d)) (w4 : B.tb[i4]? = some (.sameField R0 O nm d)) (F : Fld Z h a O nm d old) (Ea : Exa Z h a C)
    (L : B.tb[i2]? = some (.lays C O nm d) ∨ (B.tb[i2]? = some (.laysFinal C O nm d) ∧ B.y.cls = O ∧ B.y.name = "<init>")) (w3 : B.tb[i3]? = some (.instantiable C sz)) (hty : parseFieldDescriptor d = some ty) (hn : narrow ty v = v') (hf : fits ty v' = true) (ge : Z.heap.size ≤ a)
    (r : ∀ h' : Heap, Keep h h' [a] → Wr h h' a (RoadKit.slotOf Z O nm d) v' → Fld Z h' a O nm d v' → Go Q Z B k n h' pc' Ls st) : Go Q Z B k n h pc Ls (v :: .ref a :: st) := fun x T P => by
  subst hp
  obtain ⟨a0, hw⟩ := P.wd.w
  obtain ⟨E, O', locs, X, e, N⟩ := id P
  obtain ⟨T', h', X', e', W, s'⟩ := putFN X P.ex E.zz E.own (hw w1) (Via.of (hw w4)) e F Ea (L.imp (fun z => hw z) (fun z => ⟨hw z.1, z.2.1, E.2.2.2.2.1.trans z.2.2⟩)) (hw w3) hty hn hf (g := mkF x.m pc Ls (v :: .ref a :: st)) rfl rfl (P.d hd)
  exact lift s' (r h' (keep_wr W) W (F.same W) x T' ⟨E, ext_keep O' (keep_wr W) (ge1 ge), _, X', e', fr_snoc N ge⟩)
/-- another field of the object that was written -/
theorem Fld.oth {C O nm d O2 nm2 d2 : String} {tb : List Cond} {a b : Addr} {v w : Value} {t t' : FieldType} (hw : Wd Z tb) (F : Fld Z h b O nm d w) (W : Wr h h' a (RoadKit.slotOf Z O2 nm2 d2) v) (i j : Nat) (L1 : tb[i]? = some (.lays C O nm d) ∨ tb[i]? = some (.laysFinal C O nm d)) (L2 : tb[j]? = some (.lays C O2 nm2 d2) ∨ tb[j]? = some (.laysFinal C O2 nm2 d2))
    (hn : nm ≠ nm2) (ht : parseFieldDescriptor d = some t) (ht' : parseFieldDescriptor d2 = some t') : Fld Z h' b O nm d w := by
  obtain ⟨a0, hw⟩ := hw.w
  exact F.other W (Or.inr (RoadKit.slot_ne (a0 := a0) (L1.imp (fun z => hw z) (fun z => hw z)) (L2.imp (fun z => hw z) (fun z => hw z)) hn ht ht'))
theorem Go.getS (pc' : Nat) (hp : pc + 3 = pc') {O nm d : String} {ix : Nat} {v : Value} (i : Nat) (hd : decode B.by pc = .ok (.getstatic ix, 3)) (w : B.tb[i]? = some (.fieldLink B.y.cls ix O nm d)) (F : Sta Z Z.heap O nm d v) (r : Go Q Z B k n h pc' Ls (v :: st)) : Go Q Z B k n h pc Ls st := fun x T P => by
  subst hp
  obtain ⟨a0, hw⟩ := P.wd.w
  obtain ⟨E, O', locs, X, e, N⟩ := id P
  obtain ⟨T', X', e', s'⟩ := RoadKit.getS X P.ex E.zz (host := "") E.own (hw w) Via.refl e (F.ext O') (g := mkF x.m pc Ls st) rfl (P.d hd)
  exact lift s' (r x T' ⟨E, O', locs, X', e', N⟩)
theorem Go.getSN (pc' : Nat) (hp : pc + 3 = pc') {O nm d host : String} {ix : Nat} {v : Value} (i : Nat) (hd : decode B.by pc = .ok (.getstatic ix, 3)) (w : B.tb[i]? = some (.fieldLinkNest B.y.cls ix O nm d host)) (F : Sta Z Z.heap O nm d v) (r : Go Q Z B k n h pc' Ls (v :: st)) : Go Q Z B k n h pc Ls st := fun x T P => by
  subst hp
  obtain ⟨a0, hw⟩ := P.wd.w
  obtain ⟨E, O', locs, X, e, N⟩ := id P
  obtain ⟨T', X', e', s'⟩ := getS2 X P.ex E.zz (host := host) E.own (Or.inr (hw w)) Via.refl e (F.ext O') (g := mkF x.m pc Ls st) rfl (P.d hd)
  exact lift s' (r x T' ⟨E, O', locs, X', e', N⟩)
theorem Go.castY (pc' : Nat) (hp : pc + 3 = pc') {K : String} {ix : Nat} {a : Addr} (i : Nat) (hd : decode B.by pc = .ok (.checkcast ix, 3)) (w : B.tb[i]? = some (.classLink B.y.cls ix K)) (F : Ins Z h a K true) (r : Go Q Z B k n h pc' Ls (.ref a :: st)) : Go Q Z B k n h pc Ls (.ref a :: st) := fun x T P => by
  subst hp
  obtain ⟨a0, hw⟩ := P.wd.w
  obtain ⟨E, O', locs, X, e, N⟩ := id P
  obtain ⟨T', X', e', s'⟩ := RoadKit.castY X P.ex E.zz E.own (hw w) e F (g := mkF x.m pc Ls (.ref a :: st)) rfl rfl (P.d hd)
  exact lift s' (r x T' ⟨E, O', locs, X', e', N⟩)
theorem Go.instY (pc' : Nat) (hp : pc + 3 = pc') {K : String} {ix : Nat} {a : Addr} (i : Nat) (hd : decode B.by pc = .ok (.instanceof ix, 3)) (w : B.tb[i]? = some (.classLink B.y.cls ix K)) (F : Ins Z h a K true) (r : Go Q Z B k n h pc' Ls (.int 1 :: st)) : Go Q Z B k n h pc Ls (.ref a :: st) := fun x T P => by
  subst hp
  obtain ⟨a0, hw⟩ := P.wd.w
  obtain ⟨E, O', locs, X, e, N⟩ := id P
  obtain ⟨T', X', e', s'⟩ := RoadKit.instY X P.ex E.zz E.own (hw w) e F (g := mkF x.m pc Ls (.ref a :: st)) rfl rfl (P.d hd)
  exact lift s' (r x T' ⟨E, O', locs, X', e', N⟩)
theorem Go.instNo (pc' : Nat) (hp : pc + 3 = pc') {C K : String} {ix : Nat} {a : Addr} (i : Nat) (hd : decode B.by pc = .ok (.instanceof ix, 3)) (w : B.tb[i]? = some (.classLink B.y.cls ix K)) (Ea : Exa Z h a C) (F : ∃ c t, Z.vm.findClass C = some c ∧ Z.vm.findClass K = some t ∧ Z.vm.assignable c t = false) (r : Go Q Z B k n h pc' Ls (.int 0 :: st)) : Go Q Z B k n h pc Ls (.ref a :: st) := fun x T P => by
  subst hp
  obtain ⟨a0, hw⟩ := P.wd.w
  obtain ⟨E, O', locs, X, e, N⟩ := id P
  obtain ⟨T', X', e', s'⟩ := RoadKit.instNo X P.ex E.zz E.own (hw w) e Ea F (g := mkF x.m pc Ls (.ref a :: st)) rfl rfl (P.d hd)
  exact lift s' (r x T' ⟨E, O', locs, X', e', N⟩)
theorem Go.initO (pc' : Nat) (hp : pc + 3 = pc') {ix : Nat} {a : Addr} (i1 i2 i3 : Nat) (hd : decode B.by pc = .ok (.invokespecial ix, 3)) (w1 : B.tb[i1]? = some (.methodLink B.y.cls ix Lib.objectInit)) (w2 : B.tb[i2]? = some (.instanceMethod Lib.objectInit)) (w3 : B.tb[i3]? = some (.code Lib.objectInit ⟨#[0xb1]⟩ 1 none)) (hs : Ls.size = B.ml) (hf : 1 ≤ B.R.frames) {W : Nat} (hW : (st.map fun v => v.category).sum ≤ W) (hl : W + 12 ≤ B.R.locals)
    (r : Go Q Z B k n h pc' Ls st) : Go Q Z B k n h pc Ls (.ref a :: st) := fun x T P => by
  subst hp
  obtain ⟨a0, hw⟩ := P.wd.w
  obtain ⟨E, O', locs, X, e, N⟩ := id P
  obtain ⟨T', X', e', s'⟩ := RoadKit.initO X P.ex E.zz E.own (hw w1) (hw w2) (hw w3) e (g := mkF x.m pc Ls (.ref a :: st)) rfl (by rw [E.ml]; exact hs) rfl (P.d hd) hf (W := W) (by show 2 * 0 + _ ≤ _; omega) hl
  exact lift s' (r x T' ⟨E, O', locs, X', e', N⟩)
/-! ## arrays -/
theorem Ary.lt {a : Addr} {ty : FieldType} {vs : List Value} (A : Ary Z h a ty vs) : a < h.size := by obtain ⟨c, A, -⟩ := A; exact A.lt
theorem Ary.len {a : Addr} {ty : FieldType} {vs : List Value} (A : Ary Z h a ty vs) : vs.length < 2 ^ 31 := by obtain ⟨c, -, -, r, -⟩ := A; exact r
theorem len_ofNat {m : Nat} (hm : m < 2 ^ 31) : (Int32.ofNat m).toInt = m := Int32.toInt_ofNat_of_lt hm
theorem ofNat_zero {m : Nat} (hm : m < 2 ^ 31) : Int32.ofNat m = 0 ↔ m = 0 := by
  constructor
  · intro q; have := len_ofNat hm; rw [q] at this; have z : (0 : Int32).toInt = 0 := rfl; omega
  · intro q; subst q; rfl
theorem Ary.keep {a : Addr} {ty : FieldType} {vs : List Value} {ws : List Addr} (A : Ary Z h a ty vs) (K : Keep h h' ws) (q : a ∉ ws) : Ary Z h' a ty vs := by
  obtain ⟨c, A, r⟩ := A; exact ⟨c, ⟨K.2.1 a c A.1 q, A.2⟩, r⟩
theorem Ary.ext {a : Addr} {ty : FieldType} {vs : List Value} (E : Ext h h') (A : Ary Z h a ty vs) : Ary Z h' a ty vs := by
  obtain ⟨c, A, r⟩ := A; exact ⟨c, A.ext E, r⟩
theorem Aov.keep {a : Addr} {C : String} {ws : List Addr} (A : Aov Z h a C) (K : Keep h h' ws) : Aov Z h' a C := by
  obtain ⟨c, A, r⟩ := A; obtain ⟨c', q1, q2, -⟩ := K.2.2 a c A; exact ⟨c', q1, q2 ▸ r⟩
theorem Ins.keep {a : Addr} {C : String} {b : Bool} {ws : List Addr} (A : Ins Z h a C b) (K : Keep h h' ws) : Ins Z h' a C b := by
  obtain ⟨c, cT, A, r1, r2⟩ := A; obtain ⟨c', q1, q2, q3, -⟩ := K.2.2 a c A; exact ⟨c', cT, q1, r1, by rw [q2, q3]; exact r2⟩
theorem Sta.keepO {C nm d : String} {w : Value} (E : Ext Z.heap h) (F : Sta Z Z.heap C nm d w) : Sta Z h C nm d w := F.ext E
theorem ix_in {m : Nat} {j : Int32} (h0 : 0 ≤ j.toInt) (h1 : j.toInt < m) : ¬ (j < 0 ∨ m ≤ j.toNatClampNeg) := by
  intro q
  rcases q with q | q
  · rw [Int32.lt_iff_toInt_lt] at q; have : (0 : Int32).toInt = 0 := rfl; omega
  · have := nat_of (j := j) (by rw [Int32.lt_iff_toInt_lt]; have : (0 : Int32).toInt = 0 := rfl; omega); omega
theorem ix_nat {m : Nat} {j : Int32} (h0 : j.toInt = m) : j.toNatClampNeg = m := by
  have := nat_of (j := j) (by rw [Int32.lt_iff_toInt_lt]; have : (0 : Int32).toInt = 0 := rfl; omega); omega
theorem len_nat {m : Nat} (h : m < 2 ^ 31) : m.toInt32.toInt = m := len_toInt h
theorem slots_at {c : Cell} {vs : List Value} (e : c.slots.toList = vs) (j : Nat) : c.slots[j]? = vs[j]? := by rw [← e]; simp
theorem Go.newA (pc' : Nat) (hp : pc + 2 = pc') {aty : ArrayType} {m : Int32} (i cap N : Nat) (hd : decode B.by pc = .ok (.newarray aty, 2)) (w : B.tb[i]? = some (.arrayClass (newarray.typeOf aty))) (hN : m.toInt = N) (hcap : N ≤ cap) (hb : cap * 8 ≤ 536870912) (hc : k + 1 ≤ B.R.cells) (hl : n + cap ≤ B.R.slots)
    (r : ∀ (h' : Heap) (a : Addr), @Eq Nat a h.size → Z.heap.size ≤ a → Keep h h' [] → Ary Z h' a (newarray.typeOf aty) (List.replicate N (defaultValue (newarray.typeOf aty))) → Exa Z h' a ("[" ++ (newarray.typeOf aty).toString) → Go Q Z B (k + 1) (n + cap) h' pc' Ls (.ref a :: st)) : Go Q Z B k n h pc Ls (.int m :: st) := fun x T P => by
  subst hp
  obtain ⟨a0, hw⟩ := P.wd.w
  obtain ⟨E, O', locs, X, e, N'⟩ := id P
  have hm : ¬ m < 0 := by rw [Int32.lt_iff_toInt_lt]; have : (0 : Int32).toInt = 0 := rfl; omega
  obtain ⟨T', h', cA, X', e', Ex, A, A', s'⟩ := newPE X P.ex E.zz (hw w) e (g := mkF x.m pc Ls (.int m :: st)) rfl (P.d hd) rfl hm (cap := cap) (by rw [ix_nat hN]; exact hcap) hb hc hl rfl
  have hlen : N < 2 ^ 31 := by have := m.toInt_lt; omega
  refine lift s' (r h' h.size rfl P.le (keep_ext Ex) ⟨_, A, ?_, ?_, ?_⟩ A' x T' ⟨E, ⟨Nat.le_trans O'.1 Ex.1, fun y c q => Ex.2 y c (O'.2 y c q)⟩, locs, X', e', N'⟩)
  · show (Array.replicate _ _).toList = _
    rw [ix_nat hN, Array.toList_replicate]
  · rw [List.length_replicate]; exact hlen
  · intro v hv
    rw [List.eq_of_mem_replicate hv]
    cases aty <;> rfl
theorem Go.newR (pc' : Nat) (hp : pc + 3 = pc') {C : String} {ix : Nat} {m : Int32} (i1 i2 cap N : Nat) (hd : decode B.by pc = .ok (.anewarray ix, 3)) (w1 : B.tb[i1]? = some (.classLink B.y.cls ix C)) (w2 : B.tb[i2]? = some (.arrayOver (.object C))) (hN : m.toInt = N) (hcap : N ≤ cap) (hb : cap * 8 ≤ 536870912) (hc : k + 1 ≤ B.R.cells) (hl : n + cap ≤ B.R.slots)
    (r : ∀ (h' : Heap) (a : Addr), @Eq Nat a h.size → Z.heap.size ≤ a → Keep h h' [] → Ary Z h' a (.object C) (List.replicate N .null) → Exa Z h' a ("[" ++ (FieldType.object C).toString) → Aov Z h' a C → Go Q Z B (k + 1) (n + cap) h' pc' Ls (.ref a :: st)) : Go Q Z B k n h pc Ls (.int m :: st) := fun x T P => by
  subst hp
  obtain ⟨a0, hw⟩ := P.wd.w
  obtain ⟨E, O', locs, X, e, N'⟩ := id P
  have hm : ¬ m < 0 := by rw [Int32.lt_iff_toInt_lt]; have : (0 : Int32).toInt = 0 := rfl; omega
  obtain ⟨T', h', cA, X', e', Ex, A, A', O1, s'⟩ := newRE X P.ex E.zz E.own (hw w1) (hw w2) e (g := mkF x.m pc Ls (.int m :: st)) rfl (P.d hd) rfl hm (cap := cap) (by rw [ix_nat hN]; exact hcap) hb hc hl rfl
  have hlen : N < 2 ^ 31 := by have := m.toInt_lt; omega
  refine lift s' (r h' h.size rfl P.le (keep_ext Ex) ⟨_, A, ?_, ?_, ?_⟩ A' ⟨_, A.1, O1⟩ x T' ⟨E, ⟨Nat.le_trans O'.1 Ex.1, fun y c q => Ex.2 y c (O'.2 y c q)⟩, locs, X', e', N'⟩)
  · show (Array.replicate _ _).toList = _
    rw [ix_nat hN, Array.toList_replicate]; rfl
  · rw [List.length_replicate]; exact hlen
  · intro v hv
    rw [List.eq_of_mem_replicate hv]; rfl
theorem Go.alen (pc' : Nat) (hp : pc + 1 = pc') {ty : FieldType} {a : Addr} {vs : List Value} (v : Int32) (hd : decode B.by pc = .ok (.arraylength, 1)) (A : Ary Z h a ty vs) (hv : v.toInt = vs.length) (r : Go Q Z B k n h pc' Ls (.int v :: st)) : Go Q Z B k n h pc Ls (.ref a :: st) := fun x T P => by
  subst hp
  obtain ⟨E, O', locs, X, e, N'⟩ := id P
  obtain ⟨c, A, e1, e2, e3⟩ := A
  have : c.slots.size.toInt32 = v := by
    have q : c.slots.size = vs.length := by rw [← e1]; simp
    apply Int32.toInt_inj.mp
    rw [q, hv, len_toInt e2]
  exact lift (fun t q => X.arraylength P.ex (by rw [e]; exact A.1) (State.isArrayOf_alike E.zz.alike A.2.1) (g := mkF x.m pc Ls (.ref a :: st)) rfl rfl (P.d hd) t (by rw [this]; exact q)) (r x T P)
theorem Go.iaload (pc' : Nat) (hp : pc + 1 = pc') {a : Addr} {vs : List Value} {j : Int32} (v : Int32) (hd : decode B.by pc = .ok (.iaload, 1)) (A : Ary Z h a .int vs) (jn : Nat) (hj : j.toInt = jn) (hv : vs[jn]? = some (.int v)) (r : Go Q Z B k n h pc' Ls (.int v :: st)) : Go Q Z B k n h pc Ls (.int j :: .ref a :: st) := fun x T P => by
  subst hp
  obtain ⟨E, O', locs, X, e, N'⟩ := id P
  obtain ⟨c, A, e1, e2, e3⟩ := A
  have q : c.slots.size = vs.length := by rw [← e1]; simp
  have hlt := (List.getElem?_eq_some_iff.mp hv).1
  exact lift (fun t q' => X.iaload P.ex (j := j) (v := .int v) (by rw [e]; exact A.1) (State.isArrayOf_alike E.zz.alike A.2.1) A.2.2 (ix_in (by omega) (by omega)) (by rw [ix_nat hj, slots_at e1]; exact hv) (g := mkF x.m pc Ls (.int j :: .ref a :: st)) rfl rfl (P.d hd) t q') (r x T P)
theorem Go.laload (pc' : Nat) (hp : pc + 1 = pc') {a : Addr} {vs : List Value} {j : Int32} (v : Int64) (hd : decode B.by pc = .ok (.laload, 1)) (A : Ary Z h a .long vs) (jn : Nat) (hj : j.toInt = jn) (hv : vs[jn]? = some (.long v)) (r : Go Q Z B k n h pc' Ls (.long v :: st)) : Go Q Z B k n h pc Ls (.int j :: .ref a :: st) := fun x T P => by
  subst hp
  obtain ⟨E, O', locs, X, e, N'⟩ := id P
  obtain ⟨c, A, e1, e2, e3⟩ := A
  have q : c.slots.size = vs.length := by rw [← e1]; simp
  have hlt := (List.getElem?_eq_some_iff.mp hv).1
  exact lift (fun t q' => X.laload P.ex (j := j) (v := .long v) (by rw [e]; exact A.1) (State.isArrayOf_alike E.zz.alike A.2.1) A.2.2 (ix_in (by omega) (by omega)) (by rw [ix_nat hj, slots_at e1]; exact hv) (g := mkF x.m pc Ls (.int j :: .ref a :: st)) rfl rfl (P.d hd) t q') (r x T P)
theorem Go.caload (pc' : Nat) (hp : pc + 1 = pc') {a : Addr} {vs : List Value} {j : Int32} (v : Int32) (hd : decode B.by pc = .ok (.caload, 1)) (A : Ary Z h a .char vs) (jn : Nat) (hj : j.toInt = jn) (hv : vs[jn]? = some (.int v)) (r : Go Q Z B k n h pc' Ls (.int v :: st)) : Go Q Z B k n h pc Ls (.int j :: .ref a :: st) := fun x T P => by
  subst hp
  obtain ⟨E, O', locs, X, e, N'⟩ := id P
  obtain ⟨c, A, e1, e2, e3⟩ := A
  have q : c.slots.size = vs.length := by rw [← e1]; simp
  have hlt := (List.getElem?_eq_some_iff.mp hv).1
  exact lift (fun t q' => X.caload P.ex (j := j) (v := .int v) (by rw [e]; exact A.1) (State.isArrayOf_alike E.zz.alike A.2.1) A.2.2 (ix_in (by omega) (by omega)) (by rw [ix_nat hj, slots_at e1]; exact hv) (g := mkF x.m pc Ls (.int j :: .ref a :: st)) rfl rfl (P.d hd) t q') (r x T P)
theorem Go.saload (pc' : Nat) (hp : pc + 1 = pc') {a : Addr} {vs : List Value} {j : Int32} (v : Int32) (hd : decode B.by pc = .ok (.saload, 1)) (A : Ary Z h a .short vs) (jn : Nat) (hj : j.toInt = jn) (hv : vs[jn]? = some (.int v)) (r : Go Q Z B k n h pc' Ls (.int v :: st)) : Go Q Z B k n h pc Ls (.int j :: .ref a :: st) := fun x T P => by
  subst hp
  obtain ⟨E, O', locs, X, e, N'⟩ := id P
  obtain ⟨c, A, e1, e2, e3⟩ := A
  have q : c.slots.size = vs.length := by rw [← e1]; simp
  have hlt := (List.getElem?_eq_some_iff.mp hv).1
  exact lift (fun t q' => X.saload P.ex (j := j) (v := .int v) (by rw [e]; exact A.1) (State.isArrayOf_alike E.zz.alike A.2.1) A.2.2 (ix_in (by omega) (by omega)) (by rw [ix_nat hj, slots_at e1]; exact hv) (g := mkF x.m pc Ls (.int j :: .ref a :: st)) rfl rfl (P.d hd) t q') (r x T P)
theorem Go.baload (pc' : Nat) (hp : pc + 1 = pc') {a : Addr} {vs : List Value} {j : Int32} (v : Int32) (hd : decode B.by pc = .ok (.baload, 1)) (A : Ary Z h a .byte vs) (jn : Nat) (hj : j.toInt = jn) (hv : vs[jn]? = some (.int v)) (r : Go Q Z B k n h pc' Ls (.int v :: st)) : Go Q Z B k n h pc Ls (.int j :: .ref a :: st) := fun x T P => by
  subst hp
  obtain ⟨E, O', locs, X, e, N'⟩ := id P
  obtain ⟨c, A, e1, e2, e3⟩ := A
  have q : c.slots.size = vs.length := by rw [← e1]; simp
  have hlt := (List.getElem?_eq_some_iff.mp hv).1
  exact lift (fun t q' => X.baloadBytes P.ex (j := j) (v := .int v) (by rw [e]; exact A.1) (State.isArrayOf_alike E.zz.alike A.2.1) A.2.2 (ix_in (by omega) (by omega)) (by rw [ix_nat hj, slots_at e1]; exact hv) (g := mkF x.m pc Ls (.int j :: .ref a :: st)) rfl rfl (P.d hd) t q') (r x T P)
theorem Go.zaload (pc' : Nat) (hp : pc + 1 = pc') {a : Addr} {vs : List Value} {j : Int32} (v : Int32) (hd : decode B.by pc = .ok (.baload, 1)) (A : Ary Z h a .boolean vs) (jn : Nat) (hj : j.toInt = jn) (hv : vs[jn]? = some (.int v)) (r : Go Q Z B k n h pc' Ls (.int v :: st)) : Go Q Z B k n h pc Ls (.int j :: .ref a :: st) := fun x T P => by
  subst hp
  obtain ⟨E, O', locs, X, e, N'⟩ := id P
  obtain ⟨c, A, e1, e2, e3⟩ := A
  have q : c.slots.size = vs.length := by rw [← e1]; simp
  have hlt := (List.getElem?_eq_some_iff.mp hv).1
  exact lift (fun t q' => X.baloadBooleans P.ex (j := j) (v := .int v) (by rw [e]; exact A.1) (State.isArrayOf_alike E.zz.alike A.2.1) A.2.2 (ix_in (by omega) (by omega)) (by rw [ix_nat hj, slots_at e1]; exact hv) (g := mkF x.m pc Ls (.int j :: .ref a :: st)) rfl rfl (P.d hd) t q') (r x T P)
theorem Go.aaload (pc' : Nat) (hp : pc + 1 = pc') {ty : FieldType} {a : Addr} {vs : List Value} {j : Int32} (v : Value) (hd : decode B.by pc = .ok (.aaload, 1)) (hty : ty.isReference = true) (A : Ary Z h a ty vs) (jn : Nat) (hj : j.toInt = jn) (hv : vs[jn]? = some v) (r : Go Q Z B k n h pc' Ls (v :: st)) : Go Q Z B k n h pc Ls (.int j :: .ref a :: st) := fun x T P => by
  subst hp
  obtain ⟨E, O', locs, X, e, N'⟩ := id P
  obtain ⟨c, A, e1, e2, e3⟩ := A
  have q : c.slots.size = vs.length := by rw [← e1]; simp
  have hlt := (List.getElem?_eq_some_iff.mp hv).1
  exact lift (fun t q' => X.aaload P.ex (j := j) (v := v) (by rw [e]; exact A.1) (State.isArrayOf_alike E.zz.alike A.2.1) hty A.2.2 (ix_in (by omega) (by omega)) (by rw [ix_nat hj, slots_at e1]; exact hv) (g := mkF x.m pc Ls (.int j :: .ref a :: st)) rfl rfl (P.d hd) t q') (r x T P)
/-- a store into an array -/
theorem Ary.set {a : Addr} {ty : FieldType} {vs : List Value} {j : Nat} {v : Value} {c : Cell} (A : Arr Z h a c ty) (e1 : c.slots.toList = vs) (e2 : vs.length < 2 ^ 31) (e3 : ∀ v ∈ vs, fits ty v = true) (W : Wr h h' a j v) (hv : fits ty v = true) : Ary Z h' a ty (vs.set j v) := by
  refine ⟨c.setSlot j v, A.same W, ?_, by rw [List.length_set]; exact e2, fun w hw => ?_⟩
  · show (c.slots.setIfInBounds j v).toList = _
    rw [Array.toList_setIfInBounds, e1]
  · rcases List.mem_or_eq_of_mem_set hw with q | rfl
    · exact e3 _ q
    · exact hv
theorem Go.stI (pc' : Nat) (hp : pc + 1 = pc') {a : Addr} {vs : List Value} {j : Int32} {v : Int32} (hd : decode B.by pc = .ok (.iastore, 1)) (A : Ary Z h a .int vs) (jn : Nat) (hj : j.toInt = jn) (hlt : jn < vs.length) (ge : Z.heap.size ≤ a)
    (r : ∀ h' : Heap, Keep h h' [a] → Ary Z h' a .int (vs.set jn (.int v)) → Go Q Z B k n h' pc' Ls st) : Go Q Z B k n h pc Ls (.int v :: .int j :: .ref a :: st) := fun x T P => by
  subst hp
  obtain ⟨E, O', locs, X, e, N⟩ := id P
  obtain ⟨c, A, e1, e2, e3⟩ := A
  have q : c.slots.size = vs.length := by rw [← e1]; simp
  obtain ⟨T', h', X', e', W, s'⟩ := RoadKit.stI X P.ex E.zz e A (j := j) (ix_in (by omega) (by omega)) (g := mkF x.m pc Ls (.int v :: .int j :: .ref a :: st)) rfl rfl (P.d hd)
  rw [ix_nat hj] at W
  exact lift s' (r h' (keep_wr W) (Ary.set A e1 e2 e3 W (rfl)) x T' ⟨E, ext_keep O' (keep_wr W) (ge1 ge), _, X', e', fr_snoc N ge⟩)
theorem Go.stJ (pc' : Nat) (hp : pc + 1 = pc') {a : Addr} {vs : List Value} {j : Int32} {v : Int64} (hd : decode B.by pc = .ok (.lastore, 1)) (A : Ary Z h a .long vs) (jn : Nat) (hj : j.toInt = jn) (hlt : jn < vs.length) (ge : Z.heap.size ≤ a)
    (r : ∀ h' : Heap, Keep h h' [a] → Ary Z h' a .long (vs.set jn (.long v)) → Go Q Z B k n h' pc' Ls st) : Go Q Z B k n h pc Ls (.long v :: .int j :: .ref a :: st) := fun x T P => by
  subst hp
  obtain ⟨E, O', locs, X, e, N⟩ := id P
  obtain ⟨c, A, e1, e2, e3⟩ := A
  have q : c.slots.size = vs.length := by rw [← e1]; simp
  obtain ⟨T', h', X', e', W, s'⟩ := RoadKit.stJ X P.ex E.zz e A (j := j) (ix_in (by omega) (by omega)) (g := mkF x.m pc Ls (.long v :: .int j :: .ref a :: st)) rfl rfl (P.d hd)
  rw [ix_nat hj] at W
  exact lift s' (r h' (keep_wr W) (Ary.set A e1 e2 e3 W (rfl)) x T' ⟨E, ext_keep O' (keep_wr W) (ge1 ge), _, X', e', fr_snoc N ge⟩)
theorem Go.stC (pc' : Nat) (hp : pc + 1 = pc') {a : Addr} {vs : List Value} {j : Int32} {v : Int32} (hd : decode B.by pc = .ok (.castore, 1)) (A : Ary Z h a .char vs) (jn : Nat) (hj : j.toInt = jn) (hlt : jn < vs.length) (ge : Z.heap.size ≤ a)
    (r : ∀ h' : Heap, Keep h h' [a] → Ary Z h' a .char (vs.set jn (.int (nar .char v))) → Go Q Z B k n h' pc' Ls st) : Go Q Z B k n h pc Ls (.int v :: .int j :: .ref a :: st) := fun x T P => by
  subst hp
  obtain ⟨E, O', locs, X, e, N⟩ := id P
  obtain ⟨c, A, e1, e2, e3⟩ := A
  have q : c.slots.size = vs.length := by rw [← e1]; simp
  obtain ⟨T', h', X', e', W, s'⟩ := RoadKit.stC X P.ex E.zz e A (j := j) (ix_in (by omega) (by omega)) (g := mkF x.m pc Ls (.int v :: .int j :: .ref a :: st)) rfl rfl (P.d hd)
  rw [ix_nat hj] at W
  exact lift s' (r h' (keep_wr W) (Ary.set A e1 e2 e3 W (fits_nar_char v)) x T' ⟨E, ext_keep O' (keep_wr W) (ge1 ge), _, X', e', fr_snoc N ge⟩)
theorem Go.stS (pc' : Nat) (hp : pc + 1 = pc') {a : Addr} {vs : List Value} {j : Int32} {v : Int32} (hd : decode B.by pc = .ok (.sastore, 1)) (A : Ary Z h a .short vs) (jn : Nat) (hj : j.toInt = jn) (hlt : jn < vs.length) (ge : Z.heap.size ≤ a)
    (r : ∀ h' : Heap, Keep h h' [a] → Ary Z h' a .short (vs.set jn (.int (nar .short v))) → Go Q Z B k n h' pc' Ls st) : Go Q Z B k n h pc Ls (.int v :: .int j :: .ref a :: st) := fun x T P => by
  subst hp
  obtain ⟨E, O', locs, X, e, N⟩ := id P
  obtain ⟨c, A, e1, e2, e3⟩ := A
  have q : c.slots.size = vs.length := by rw [← e1]; simp
  obtain ⟨T', h', X', e', W, s'⟩ := RoadKit.stS X P.ex E.zz e A (j := j) (ix_in (by omega) (by omega)) (g := mkF x.m pc Ls (.int v :: .int j :: .ref a :: st)) rfl rfl (P.d hd)
  rw [ix_nat hj] at W
  exact lift s' (r h' (keep_wr W) (Ary.set A e1 e2 e3 W (fits_nar_short v)) x T' ⟨E, ext_keep O' (keep_wr W) (ge1 ge), _, X', e', fr_snoc N ge⟩)
theorem Go.stB (pc' : Nat) (hp : pc + 1 = pc') {a : Addr} {vs : List Value} {j : Int32} {v : Int32} (hd : decode B.by pc = .ok (.bastore, 1)) (A : Ary Z h a .byte vs) (jn : Nat) (hj : j.toInt = jn) (hlt : jn < vs.length) (ge : Z.heap.size ≤ a)
    (r : ∀ h' : Heap, Keep h h' [a] → Ary Z h' a .byte (vs.set jn (.int (nar .byte v))) → Go Q Z B k n h' pc' Ls st) : Go Q Z B k n h pc Ls (.int v :: .int j :: .ref a :: st) := fun x T P => by
  subst hp
  obtain ⟨E, O', locs, X, e, N⟩ := id P
  obtain ⟨c, A, e1, e2, e3⟩ := A
  have q : c.slots.size = vs.length := by rw [← e1]; simp
  obtain ⟨T', h', X', e', W, s'⟩ := RoadKit.stB X P.ex E.zz e A (j := j) (ix_in (by omega) (by omega)) (g := mkF x.m pc Ls (.int v :: .int j :: .ref a :: st)) rfl rfl (P.d hd)
  rw [ix_nat hj] at W
  exact lift s' (r h' (keep_wr W) (Ary.set A e1 e2 e3 W (fits_nar_byte v)) x T' ⟨E, ext_keep O' (keep_wr W) (ge1 ge), _, X', e', fr_snoc N ge⟩)
theorem Go.stZ (pc' : Nat) (hp : pc + 1 = pc') {a : Addr} {vs : List Value} {j : Int32} {v : Int32} (hd : decode B.by pc = .ok (.bastore, 1)) (A : Ary Z h a .boolean vs) (jn : Nat) (hj : j.toInt = jn) (hlt : jn < vs.length) (ge : Z.heap.size ≤ a)
    (r : ∀ h' : Heap, Keep h h' [a] → Ary Z h' a .boolean (vs.set jn (.int (nar .boolean v))) → Go Q Z B k n h' pc' Ls st) : Go Q Z B k n h pc Ls (.int v :: .int j :: .ref a :: st) := fun x T P => by
  subst hp
  obtain ⟨E, O', locs, X, e, N⟩ := id P
  obtain ⟨c, A, e1, e2, e3⟩ := A
  have q : c.slots.size = vs.length := by rw [← e1]; simp
  obtain ⟨T', h', X', e', W, s'⟩ := RoadKit.stZ X P.ex E.zz e A (j := j) (ix_in (by omega) (by omega)) (g := mkF x.m pc Ls (.int v :: .int j :: .ref a :: st)) rfl rfl (P.d hd)
  rw [ix_nat hj] at W
  exact lift s' (r h' (keep_wr W) (Ary.set A e1 e2 e3 W (fits_nar_bool v)) x T' ⟨E, ext_keep O' (keep_wr W) (ge1 ge), _, X', e', fr_snoc N ge⟩)
theorem Go.stR (pc' : Nat) (hp : pc + 1 = pc') {C : String} {a b : Addr} {vs : List Value} {j : Int32} (hd : decode B.by pc = .ok (.aastore, 1)) (A : Ary Z h a (.object C) vs) (O : Aov Z h a C) (I : Ins Z h b C true) (jn : Nat) (hj : j.toInt = jn) (hlt : jn < vs.length) (ge : Z.heap.size ≤ a)
    (r : ∀ h' : Heap, Keep h h' [a] → Ary Z h' a (.object C) (vs.set jn (.ref b)) → Go Q Z B k n h' pc' Ls st) : Go Q Z B k n h pc Ls (.ref b :: .int j :: .ref a :: st) := fun x T P => by
  subst hp
  obtain ⟨E, O', locs, X, e, N⟩ := id P
  obtain ⟨c, A, e1, e2, e3⟩ := A
  obtain ⟨c', q1, q2⟩ := O
  cases q1.symm.trans A.1
  have q : c.slots.size = vs.length := by rw [← e1]; simp
  obtain ⟨T', h', X', e', W, s'⟩ := RoadKit.stR X P.ex E.zz e A (j := j) (v := .ref b) (ix_in (by omega) (by omega)) rfl (Sto.of A q2 I) (g := mkF x.m pc Ls (.ref b :: .int j :: .ref a :: st)) rfl rfl (P.d hd)
  rw [ix_nat hj] at W
  exact lift s' (r h' (keep_wr W) (Ary.set A e1 e2 e3 W rfl) x T' ⟨E, ext_keep O' (keep_wr W) (ge1 ge), _, X', e', fr_snoc N ge⟩)
/-! ## returns -/
theorem ret_core {v : Option Value} {T : State} {locs : List Loc} {fs : List Frame} (E : En Z x B) (O' : Ext Z.heap h) (e : T.heap = h) (N : Fr Z.heap.size locs) (hk : k ≤ B.R.cells) (hn : n ≤ B.R.slots) (hQ : Q v h)
    (hs : Steps x.p.tables x.e x.below (T.setTop (mkF x.m pc Ls st)) (T.setFrames fs)) (hrun : (T.setFrames fs).status = .running) (hended : Ended (T.setFrames fs) x.below (.returned v)) (hW : x.s.WarmedH (T.setFrames fs).vm) (hsame : x.s.sameButNew ({ T.setFrames fs with vm := x.s.vm } : State) locs k n) : Rn Q Z x B T pc Ls st := by
  subst e
  exact ⟨T.setFrames fs, _, hs, hrun, hended, _, locs, rfl, ⟨hQ, O', N⟩, ⟨_, rfl⟩, hW, hsame.mono hk hn⟩
theorem Go.retV (hd : decode B.by pc = .ok (.return_, 1)) (ht : B.rt = none) (hk : k ≤ B.R.cells) (hn : n ≤ B.R.slots) (hQ : Q none h) : Go Q Z B k n h pc Ls [] := fun x T P => by
  obtain ⟨E, O', locs, X, e, N⟩ := id P
  obtain ⟨fs, hr, hrun, hended, hW, hsame⟩ := X.leave (v := none) (fun _ => rfl) E.nl
  exact ret_core E O' e N hk hn hQ (X.returnOut P.ex (E.rt.trans ht) (P.d hd) hr) hrun hended hW hsame
theorem Go.retI {z : Int32} (hd : decode B.by pc = .ok (.ireturn, 1)) (ht : B.rt = some .int) (hk : k ≤ B.R.cells) (hn : n ≤ B.R.slots) (hQ : Q (some (.int z)) h) : Go Q Z B k n h pc Ls [.int z] := fun x T P => by
  obtain ⟨E, O', locs, X, e, N⟩ := id P
  obtain ⟨fs, hr, hrun, hended, hW, hsame⟩ := X.leave (v := some (.int z)) (fun q => by rw [E.rt, ht] at q; cases q) E.nl
  exact ret_core E O' e N hk hn hQ (X.ireturnOut P.ex (E.rt.trans ht) rfl (Or.inl rfl) (P.d hd) hr) hrun hended hW hsame
theorem Go.retN {z z' : Int32} {t : FieldType} (hd : decode B.by pc = .ok (.ireturn, 1)) (ht : B.rt = some t) (hz : t = .boolean ∨ t = .byte ∨ t = .char ∨ t = .short) (hq : nar t z = z') (hk : k ≤ B.R.cells) (hn : n ≤ B.R.slots) (hQ : Q (some (.int z')) h) : Go Q Z B k n h pc Ls (.int z :: st) := fun x T P => by
  subst hq
  obtain ⟨E, O', locs, X, e, N⟩ := id P
  obtain ⟨fs, hr, hrun, hended, hW, hsame⟩ := X.leave (v := some (.int (nar t z))) (fun q => by rw [E.rt, ht] at q; cases q) E.nl
  exact ret_core E O' e N hk hn hQ (RoadKit.retN X P.ex (E.rt.trans ht) hz (P.d hd) hr) hrun hended hW hsame
theorem Go.retJ {z : Int64} (hd : decode B.by pc = .ok (.lreturn, 1)) (ht : B.rt = some .long) (hk : k ≤ B.R.cells) (hn : n ≤ B.R.slots) (hQ : Q (some (.long z)) h) : Go Q Z B k n h pc Ls [.long z] := fun x T P => by
  obtain ⟨E, O', locs, X, e, N⟩ := id P
  obtain ⟨fs, hr, hrun, hended, hW, hsame⟩ := X.leave (v := some (.long z)) (fun q => by rw [E.rt, ht] at q; cases q) E.nl
  exact ret_core E O' e N hk hn hQ (X.lreturnOut P.ex (E.rt.trans ht) (P.d hd) hr) hrun hended hW hsame
theorem Go.retD {z : UInt64} (hd : decode B.by pc = .ok (.dreturn, 1)) (ht : B.rt = some .double) (hk : k ≤ B.R.cells) (hn : n ≤ B.R.slots) (hQ : Q (some (.double z)) h) : Go Q Z B k n h pc Ls (.double z :: st) := fun x T P => by
  obtain ⟨E, O', locs, X, e, N⟩ := id P
  obtain ⟨fs, hr, hrun, hended, hW, hsame⟩ := X.leave (v := some (.double z)) (fun q => by rw [E.rt, ht] at q; cases q) E.nl
  exact ret_core E O' e N hk hn hQ (retOut X P.ex (i := .dreturn) (E.rt.trans ht) rfl (Or.inr (Or.inr (Or.inl ⟨rfl, rfl, _, rfl⟩))) (P.d hd) hr) hrun hended hW hsame
theorem Go.retA {z : Value} {t : FieldType} (hd : decode B.by pc = .ok (.areturn, 1)) (ht : B.rt = some t) (hr' : t.isReference = true) (hz : z.isRef = true) (hk : k ≤ B.R.cells) (hn : n ≤ B.R.slots) (hQ : Q (some z) h) : Go Q Z B k n h pc Ls [z] := fun x T P => by
  obtain ⟨E, O', locs, X, e, N⟩ := id P
  obtain ⟨fs, hr, hrun, hended, hW, hsame⟩ := X.leave (v := some z) (fun q => by rw [E.rt, ht] at q; cases q) E.nl
  exact ret_core E O' e N hk hn hQ (X.areturnOut P.ex hz (E.rt.trans ht) hr' (P.d hd) hr) hrun hended hW hsame
/-! ## calls -/
theorem Con.back {C : Bd} {as : Array Value} {Qc : Option Value → Heap → Prop} {len W : Nat} (K : Con Z C as h Qc) (P : Sp Z x B T k n h) (i j : Nat) (wc : B.tb[i]? = some (.code C.y C.by C.ml C.rt)) (wz : B.tb[j]? = some (.initialized C.y.cls)) (hf : C.R.frames + 1 ≤ B.R.frames) (hl : W + (C.ml + 11) + C.R.locals ≤ B.R.locals) :
    Back x.l B.R x.p x.e x.below x.s x.args C.y len W (fun A a => a = as ∧ A.U.heap = h ∧ A.cells + C.R.cells ≤ B.R.cells ∧ A.slots + C.R.slots ≤ B.R.slots)
      (fun A _ v D => ∃ L, (Qc v D.U.heap ∧ Ext Z.heap D.U.heap ∧ Fr Z.heap.size L) ∧ D.locs = A.locs ++ L ∧ D.cells = A.cells + C.R.cells ∧ D.slots = A.slots + C.R.slots) := by
  obtain ⟨a0, hw⟩ := P.wd.w
  exact backOf (a0 := a0) (Q := fun v h' L => Qc v h' ∧ Ext Z.heap h' ∧ Fr Z.heap.size L) (K P.old x.l []) P.1.zz (hw wc) (hw wz) hf hl
theorem Go.callS (pc' : Nat) (hp : pc + 3 = pc') {C : Bd} {Qc : Option Value → Heap → Prop} {ix : Nat} (argsL : List Value) {st : List Value} (i1 i2 i3 i4 : Nat) (K : Con Z C argsL.toArray h Qc) (hd : decode B.by pc = .ok (.invokestatic ix, 3)) (w1 : B.tb[i1]? = some (.methodLink B.y.cls ix C.y)) (w2 : B.tb[i2]? = some (.static C.y)) (w3 : B.tb[i3]? = some (.initialized C.y.cls)) (w4 : B.tb[i4]? = some (.code C.y C.by C.ml C.rt))
    (hy : C.y.cls ≠ "java/lang/invoke/MethodHandle" ∧ C.y.cls ≠ "java/lang/invoke/VarHandle") {ps : List FieldType} {rt : Option FieldType} (hpd : parseMethodDescriptor C.y.desc = some ⟨ps, rt⟩) (hlen : argsL.length = ps.length) (hs : Ls.size = B.ml) (hst : st = argsL.reverse ++ rest) {W : Nat} (hW : (rest.map fun v => v.category).sum ≤ W) (hf : C.R.frames + 1 ≤ B.R.frames) (hl : W + (C.ml + 11) + C.R.locals ≤ B.R.locals) (hc : k + C.R.cells ≤ B.R.cells) (hn : n + C.R.slots ≤ B.R.slots)
    (r : ∀ (v : Option Value) (h' : Heap), Qc v h' → Go Q Z B (k + C.R.cells) (n + C.R.slots) h' pc' Ls (v.toList ++ rest)) : Go Q Z B k n h pc Ls st := fun x T P => by
  subst hp hst
  obtain ⟨a0, hw⟩ := P.wd.w
  obtain ⟨E, O', locs, X, e, N⟩ := id P
  obtain ⟨v, vm₁, ⟨T1, L1, k1, n1⟩, -, X1, ⟨Lc, hQ, l1, y1, z1⟩, st1⟩ := Jvm.LawKit.callS X P.ex (y := C.y) E.own (mvT E.zz (hw w1)) (mvT E.zz (hw w2)) (mvT E.zz (hw w3)) (mvT E.zz (hw w4)) hy (K.back (W := W) P i4 i3 w4 w3 hf hl) (g := mkF x.m pc Ls (argsL.reverse ++ rest)) rfl (by rw [E.ml]; exact hs) (argsL := argsL) (rest := rest) (lenOf hpd hlen) rfl (by show 2 * 0 + _ ≤ _; omega) (P.d hd) (fun _ _ => ⟨rfl, e, hc, hn⟩)
  dsimp only [Pt.U, Pt.locs, Pt.cells, Pt.slots] at X1 l1 y1 z1 st1 hQ
  subst l1 y1 z1
  exact lift st1 (r v T1.heap hQ.1 x T1 ⟨E, hQ.2.1, _, X1, rfl, N.app hQ.2.2⟩)
theorem Go.callI (pc' : Nat) (hp : pc + 3 = pc') {C : Bd} {Qc : Option Value → Heap → Prop} {ix : Nat} (a : Addr) (argsL : List Value) {st : List Value} (i1 i2 i3 i4 : Nat) (K : Con Z C (.ref a :: argsL).toArray h Qc) (hd : decode B.by pc = .ok (.invokespecial ix, 3)) (w1 : B.tb[i1]? = some (.methodLink B.y.cls ix C.y)) (w2 : B.tb[i2]? = some (.instanceMethod C.y)) (w3 : B.tb[i3]? = some (.initialized C.y.cls)) (w4 : B.tb[i4]? = some (.code C.y C.by C.ml none)) (hrt : C.rt = none) (hi : C.y.name = "<init>")
    (hy : C.y.cls ≠ "java/lang/invoke/MethodHandle" ∧ C.y.cls ≠ "java/lang/invoke/VarHandle") {ps : List FieldType} {rt : Option FieldType} (hpd : parseMethodDescriptor C.y.desc = some ⟨ps, rt⟩) (hlen : argsL.length = ps.length) (hs : Ls.size = B.ml) (hst : st = argsL.reverse ++ .ref a :: rest) {W : Nat} (hW : (rest.map fun v => v.category).sum ≤ W) (hf : C.R.frames + 1 ≤ B.R.frames) (hl : W + (C.ml + 11) + C.R.locals ≤ B.R.locals) (hc : k + C.R.cells ≤ B.R.cells) (hn : n + C.R.slots ≤ B.R.slots)
    (r : ∀ (v : Option Value) (h' : Heap), Qc v h' → Go Q Z B (k + C.R.cells) (n + C.R.slots) h' pc' Ls (v.toList ++ rest)) : Go Q Z B k n h pc Ls st := fun x T P => by
  subst hp hst
  obtain ⟨a0, hw⟩ := P.wd.w
  obtain ⟨E, O', locs, X, e, N⟩ := id P
  obtain ⟨v, vm₁, ⟨T1, L1, k1, n1⟩, -, X1, ⟨Lc, hQ, l1, y1, z1⟩, st1⟩ := X.specialBack P.ex (y := C.y) hi E.own (mvT E.zz (hw w1)) (mvT E.zz (hw w2)) (mvT E.zz (hw w4)) hy (K.back (W := W) P i4 i3 (by rw [hrt]; exact w4) w3 hf hl) (g := mkF x.m pc Ls (argsL.reverse ++ .ref a :: rest)) rfl (by rw [E.ml]; exact hs) (Steps.refl _) (a := a) (argsL := argsL) (rest := rest) (lenOf hpd hlen) rfl (by show 2 * 0 + _ ≤ _; omega) (P.d hd) (fun _ _ => ⟨rfl, e, hc, hn⟩)
  dsimp only [Pt.U, Pt.locs, Pt.cells, Pt.slots] at X1 l1 y1 z1 st1 hQ
  subst l1 y1 z1
  exact liftS st1 (r v T1.heap hQ.1 x T1 ⟨E, hQ.2.1, _, X1, rfl, N.app hQ.2.2⟩)
theorem Go.callV (pc' : Nat) (hp : pc + 3 = pc') {C : Bd} {Qc : Option Value → Heap → Prop} {ix : Nat} {D : String} (a : Addr) (argsL : List Value) {st : List Value} (i1 i2 i3 i4 i5 i6 : Nat) (K : Con Z C (.ref a :: argsL).toArray h Qc) (Ea : Exa Z h a D) (hd : decode B.by pc = .ok (.invokevirtual ix, 3)) (w1 : B.tb[i1]? = some (.methodLink B.y.cls ix C.y)) (w2 : B.tb[i2]? = some (.declares C.y)) (w3 : B.tb[i3]? = some (.selects D C.y C.y)) (w4 : B.tb[i4]? = some (.instanceMethod C.y)) (w5 : B.tb[i5]? = some (.initialized C.y.cls)) (w6 : B.tb[i6]? = some (.code C.y C.by C.ml C.rt))
    (hy : C.y.cls ≠ "java/lang/invoke/MethodHandle" ∧ C.y.cls ≠ "java/lang/invoke/VarHandle") {ps : List FieldType} {rt : Option FieldType} (hpd : parseMethodDescriptor C.y.desc = some ⟨ps, rt⟩) (hlen : argsL.length = ps.length) (hs : Ls.size = B.ml) (hst : st = argsL.reverse ++ .ref a :: rest) {W : Nat} (hW : (rest.map fun v => v.category).sum ≤ W) (hf : C.R.frames + 1 ≤ B.R.frames) (hl : W + (C.ml + 11) + C.R.locals ≤ B.R.locals) (hc : k + C.R.cells ≤ B.R.cells) (hn : n + C.R.slots ≤ B.R.slots)
    (r : ∀ (v : Option Value) (h' : Heap), Qc v h' → Go Q Z B (k + C.R.cells) (n + C.R.slots) h' pc' Ls (v.toList ++ rest)) : Go Q Z B k n h pc Ls st := fun x T P => by
  subst hp hst
  obtain ⟨a0, hw⟩ := P.wd.w
  obtain ⟨E, O', locs, X, e, N⟩ := id P
  obtain ⟨cq, kq, qa, qb, qc⟩ := isOf E.zz e Ea
  obtain ⟨v, vm₁, ⟨T1, L1, k1, n1⟩, -, X1, ⟨Lc, hQ, l1, y1, z1⟩, st1⟩ := X.virtualBack P.ex (y := C.y) (z := C.y) E.own (mvT E.zz (hw w1)) (mvT E.zz (hw w2)) (notFace_of_selects (args := #[]) (mvT E.zz (hw w3))) (mvT E.zz (hw w3)) (mvT E.zz (hw w4)) hy (K.back (W := W) P i6 i5 w6 w5 hf hl) qa qc (g := mkF x.m pc Ls (argsL.reverse ++ .ref a :: rest)) rfl (by rw [E.ml]; exact hs) (Steps.refl _) (argsL := argsL) (rest := rest) (lenOf hpd hlen) rfl (by show 2 * 0 + _ ≤ _; omega) (P.d hd) (fun _ _ => ⟨rfl, e, hc, hn⟩)
  dsimp only [Pt.U, Pt.locs, Pt.cells, Pt.slots] at X1 l1 y1 z1 st1 hQ
  subst l1 y1 z1
  exact liftS st1 (r v T1.heap hQ.1 x T1 ⟨E, hQ.2.1, _, X1, rfl, N.app hQ.2.2⟩)
theorem Go.callP (pc' : Nat) (hp : pc + 3 = pc') {C : Bd} {Qc : Option Value → Heap → Prop} {ix : Nat} {D : String} (a : Addr) (argsL : List Value) {st : List Value} (i1 i2 i3 i4 i5 i6 : Nat) (K : Con Z C (.ref a :: argsL).toArray h Qc) (Ea : Exa Z h a D) (hd : decode B.by pc = .ok (.invokevirtual ix, 3)) (w1 : B.tb[i1]? = some (.methodLink B.y.cls ix C.y)) (w2 : B.tb[i2]? = some (.instanceMethod C.y)) (w3 : B.tb[i3]? = some (.selects C.y.cls C.y C.y)) (w4 : B.tb[i4]? = some (.privateMethod C.y)) (w5 : B.tb[i5]? = some (.initialized C.y.cls)) (w6 : B.tb[i6]? = some (.code C.y C.by C.ml C.rt))
    (hy : C.y.cls ≠ "java/lang/invoke/MethodHandle" ∧ C.y.cls ≠ "java/lang/invoke/VarHandle") {ps : List FieldType} {rt : Option FieldType} (hpd : parseMethodDescriptor C.y.desc = some ⟨ps, rt⟩) (hlen : argsL.length = ps.length) (hs : Ls.size = B.ml) (hst : st = argsL.reverse ++ .ref a :: rest) {W : Nat} (hW : (rest.map fun v => v.category).sum ≤ W) (hf : C.R.frames + 1 ≤ B.R.frames) (hl : W + (C.ml + 11) + C.R.locals ≤ B.R.locals) (hc : k + C.R.cells ≤ B.R.cells) (hn : n + C.R.slots ≤ B.R.slots)
    (r : ∀ (v : Option Value) (h' : Heap), Qc v h' → Go Q Z B (k + C.R.cells) (n + C.R.slots) h' pc' Ls (v.toList ++ rest)) : Go Q Z B k n h pc Ls st := fun x T P => by
  subst hp hst
  obtain ⟨a0, hw⟩ := P.wd.w
  obtain ⟨E, O', locs, X, e, N⟩ := id P
  obtain ⟨cq, qa, qb⟩ := Ea.cell
  obtain ⟨v, vm₁, ⟨T1, L1, k1, n1⟩, -, X1, ⟨Lc, hQ, l1, y1, z1⟩, st1⟩ := X.privateBack P.ex (y := C.y) E.own (mvT E.zz (hw w1)) (mvT E.zz (hw w2)) (mvT E.zz (hw w3)) (Cond.privateMethod_at (mvP E.zz (hw w4) (args := #[]))) (mvT E.zz (hw w6)) hy (K.back (W := W) P i6 i5 w6 w5 hf hl) (g := mkF x.m pc Ls (argsL.reverse ++ .ref a :: rest)) rfl (by rw [E.ml]; exact hs) (Steps.refl _) (a := a) (by rw [e]; exact qa) qb (argsL := argsL) (rest := rest) (lenOf hpd hlen) rfl (by show 2 * 0 + _ ≤ _; omega) (P.d hd) (fun _ _ => ⟨rfl, e, hc, hn⟩)
  dsimp only [Pt.U, Pt.locs, Pt.cells, Pt.slots] at X1 l1 y1 z1 st1 hQ
  subst l1 y1 z1
  exact liftS st1 (r v T1.heap hQ.1 x T1 ⟨E, hQ.2.1, _, X1, rfl, N.app hQ.2.2⟩)
theorem Go.callP2 (pc' : Nat) (hp : pc + 3 = pc') {C : Bd} {Qc : Option Value → Heap → Prop} {ix : Nat} {D : String} {sz : Nat} (a : Addr) (argsL : List Value) {st : List Value} (i1 i2 i3 i4 i5 i6 : Nat) (K : Con Z C (.ref a :: argsL).toArray h Qc) (Ea : Exa Z h a D) (hd : decode B.by pc = .ok (.invokevirtual ix, 3)) (w1 : B.tb[i1]? = some (.methodLink B.y.cls ix C.y)) (w2 : B.tb[i2]? = some (.instanceMethod C.y)) (w3 : B.tb[i3]? = some (.instantiable C.y.cls sz)) (w4 : B.tb[i4]? = some (.privateMethod C.y)) (w5 : B.tb[i5]? = some (.initialized C.y.cls)) (w6 : B.tb[i6]? = some (.code C.y C.by C.ml C.rt))
    (hy : C.y.cls ≠ "java/lang/invoke/MethodHandle" ∧ C.y.cls ≠ "java/lang/invoke/VarHandle") {ps : List FieldType} {rt : Option FieldType} (hpd : parseMethodDescriptor C.y.desc = some ⟨ps, rt⟩) (hlen : argsL.length = ps.length) (hs : Ls.size = B.ml) (hst : st = argsL.reverse ++ .ref a :: rest) {W : Nat} (hW : (rest.map fun v => v.category).sum ≤ W) (hf : C.R.frames + 1 ≤ B.R.frames) (hl : W + (C.ml + 11) + C.R.locals ≤ B.R.locals) (hc : k + C.R.cells ≤ B.R.cells) (hn : n + C.R.slots ≤ B.R.slots)
    (r : ∀ (v : Option Value) (h' : Heap), Qc v h' → Go Q Z B (k + C.R.cells) (n + C.R.slots) h' pc' Ls (v.toList ++ rest)) : Go Q Z B k n h pc Ls st := fun x T P => by
  subst hp hst
  obtain ⟨a0, hw⟩ := P.wd.w
  obtain ⟨E, O', locs, X, e, N⟩ := id P
  have hsel0 : (Cond.selects C.y.cls C.y C.y).before a0 Z = true := by
    obtain ⟨t, kt, i1, i2, i3, i4, -⟩ := Cond.instantiable_spec (hw w3)
    exact selects_self_of_private i1 i2 (Bool.or_eq_false_iff.mp i4).1 (Cond.privateMethod_at (hw w4)) (hw w2) hy
  obtain ⟨cq, qa, qb⟩ := Ea.cell
  obtain ⟨v, vm₁, ⟨T1, L1, k1, n1⟩, -, X1, ⟨Lc, hQ, l1, y1, z1⟩, st1⟩ := X.privateBack P.ex (y := C.y) E.own (mvT E.zz (hw w1)) (mvT E.zz (hw w2)) (mvT E.zz hsel0) (Cond.privateMethod_at (mvP E.zz (hw w4) (args := #[]))) (mvT E.zz (hw w6)) hy (K.back (W := W) P i6 i5 w6 w5 hf hl) (g := mkF x.m pc Ls (argsL.reverse ++ .ref a :: rest)) rfl (by rw [E.ml]; exact hs) (Steps.refl _) (a := a) (by rw [e]; exact qa) qb (argsL := argsL) (rest := rest) (lenOf hpd hlen) rfl (by show 2 * 0 + _ ≤ _; omega) (P.d hd) (fun _ _ => ⟨rfl, e, hc, hn⟩)
  dsimp only [Pt.U, Pt.locs, Pt.cells, Pt.slots] at X1 l1 y1 z1 st1 hQ
  subst l1 y1 z1
  exact liftS st1 (r v T1.heap hQ.1 x T1 ⟨E, hQ.2.1, _, X1, rfl, N.app hQ.2.2⟩)
theorem Go.callF (pc' : Nat) (hp : pc + 5 = pc') {C : Bd} {Qc : Option Value → Heap → Prop} {ix ct : Nat} {y : MethodName} {D : String} (a : Addr) (argsL : List Value) {st : List Value} (i1 i2 i3 i4 i5 i6 i7 i8 i9 i10 : Nat) (K : Con Z C (.ref a :: argsL).toArray h Qc) (Ea : Exa Z h a D) (hd : decode B.by pc = .ok (.invokeinterface ix ct, 5)) (w1 : B.tb[i1]? = some (.methodLink B.y.cls ix y)) (w2 : B.tb[i2]? = some (.declares y)) (w3 : B.tb[i3]? = some (.interfaceMethod y.cls y.cls y.name y.desc)) (w4 : B.tb[i4]? = some (.selects D y C.y)) (w5 : B.tb[i5]? = some (.instanceMethod C.y)) (w6 : B.tb[i6]? = some (.publicMethod C.y)) (w7 : B.tb[i7]? = some (.unhidden D y.name y.desc)) (w8 : B.tb[i8]? = some (.castable D y.cls)) (w9 : B.tb[i9]? = some (.initialized C.y.cls)) (w10 : B.tb[i10]? = some (.code C.y C.by C.ml C.rt)) (hk : ((Cond.interfaceMethod y.cls y.cls y.name y.desc).onTables && (Cond.interfaceMethod y.cls y.cls y.name y.desc).keepsFace) = true)
    (hy : y.cls ≠ "java/lang/invoke/MethodHandle" ∧ y.cls ≠ "java/lang/invoke/VarHandle") {ps : List FieldType} {rt : Option FieldType} (hpd : parseMethodDescriptor y.desc = some ⟨ps, rt⟩) (hlen : argsL.length = ps.length) (hs : Ls.size = B.ml) (hst : st = argsL.reverse ++ .ref a :: rest) {W : Nat} (hW : (rest.map fun v => v.category).sum ≤ W) (hf : C.R.frames + 1 ≤ B.R.frames) (hl : W + (C.ml + 11) + C.R.locals ≤ B.R.locals) (hc : k + C.R.cells ≤ B.R.cells) (hn : n + C.R.slots ≤ B.R.slots)
    (r : ∀ (v : Option Value) (h' : Heap), Qc v h' → Go Q Z B (k + C.R.cells) (n + C.R.slots) h' pc' Ls (v.toList ++ rest)) : Go Q Z B k n h pc Ls st := fun x T P => by
  subst hp hst
  obtain ⟨a0, hw⟩ := P.wd.w
  obtain ⟨E, O', locs, X, e, N⟩ := id P
  obtain ⟨cq, kq, qa, qb, qc⟩ := isOf E.zz e Ea
  obtain ⟨v, vm₁, ⟨T1, L1, k1, n1⟩, -, X1, ⟨Lc, hQ, l1, y1, z1⟩, st1⟩ := X.interfaceBack P.ex (xi := y) (y := C.y) E.own (mvT E.zz (hw w1)) (mvT E.zz (hw w2)) (mvT E.zz (hw w3) hk) (mvT E.zz (hw w4)) (mvT E.zz (hw w5)) (mvT E.zz (hw w6)) (mvT E.zz (hw w7)) (mvT E.zz (hw w8)) hy (K.back (W := W) P i10 i9 w10 w9 hf hl) qa qb qc (g := mkF x.m pc Ls (argsL.reverse ++ .ref a :: rest)) rfl (by rw [E.ml]; exact hs) (Steps.refl _) (argsL := argsL) (rest := rest) (lenOf hpd hlen) rfl (by show 2 * 0 + _ ≤ _; omega) (P.d hd) (fun _ _ => ⟨rfl, e, hc, hn⟩)
  dsimp only [Pt.U, Pt.locs, Pt.cells, Pt.slots] at X1 l1 y1 z1 st1 hQ
  subst l1 y1 z1
  exact liftS st1 (r v T1.heap hQ.1 x T1 ⟨E, hQ.2.1, _, X1, rfl, N.app hQ.2.2⟩)
theorem Go.callVU (pc' : Nat) (hp : pc + 3 = pc') {C : Bd} {Qc : Option Value → Heap → Prop} {ix : Nat} {y : MethodName} {D ow : String} (a : Addr) (argsL : List Value) {st : List Value} (i1 i2 i3 i4 i5 i6 i7 : Nat) (K : Con Z C (.ref a :: argsL).toArray h Qc) (Ea : Exa Z h a D) (hd : decode B.by pc = .ok (.invokevirtual ix, 3)) (w1 : B.tb[i1]? = some (.methodLink B.y.cls ix y)) (w2 : B.tb[i2]? = some (.sameMethod y.cls ow y.name y.desc)) (w3 : B.tb[i3]? = some (.declares ⟨ow, y.name, y.desc⟩)) (w4 : B.tb[i4]? = some (.selects D y C.y)) (w5 : B.tb[i5]? = some (.instanceMethod C.y)) (w6 : B.tb[i6]? = some (.initialized C.y.cls)) (w7 : B.tb[i7]? = some (.code C.y C.by C.ml C.rt))
    (hy : ow ≠ "java/lang/invoke/MethodHandle" ∧ ow ≠ "java/lang/invoke/VarHandle") {ps : List FieldType} {rt : Option FieldType} (hpd : parseMethodDescriptor y.desc = some ⟨ps, rt⟩) (hlen : argsL.length = ps.length) (hs : Ls.size = B.ml) (hst : st = argsL.reverse ++ .ref a :: rest) {W : Nat} (hW : (rest.map fun v => v.category).sum ≤ W) (hf : C.R.frames + 1 ≤ B.R.frames) (hl : W + (C.ml + 11) + C.R.locals ≤ B.R.locals) (hc : k + C.R.cells ≤ B.R.cells) (hn : n + C.R.slots ≤ B.R.slots)
    (r : ∀ (v : Option Value) (h' : Heap), Qc v h' → Go Q Z B (k + C.R.cells) (n + C.R.slots) h' pc' Ls (v.toList ++ rest)) : Go Q Z B k n h pc Ls st := fun x T P => by
  subst hp hst
  obtain ⟨a0, hw⟩ := P.wd.w
  obtain ⟨E, O', locs, X, e, N⟩ := id P
  obtain ⟨cq, kq, qa, qb, qc⟩ := isOf E.zz e Ea
  obtain ⟨v, vm₁, ⟨T1, L1, k1, n1⟩, -, X1, ⟨Lc, hQ, l1, y1, z1⟩, st1⟩ := X.virtualBackUp P.ex (x := y) (y := C.y) E.own (mvT E.zz (hw w1)) (mvT E.zz (hw w2)) (mvT E.zz (hw w3)) hy (mvT E.zz (hw w4)) (mvT E.zz (hw w5)) (K.back (W := W) P i7 i6 w7 w6 hf hl) qa qc (g := mkF x.m pc Ls (argsL.reverse ++ .ref a :: rest)) rfl (by rw [E.ml]; exact hs) (Steps.refl _) (argsL := argsL) (rest := rest) (lenOf hpd hlen) rfl (by show 2 * 0 + _ ≤ _; omega) (P.d hd) (fun _ _ => ⟨rfl, e, hc, hn⟩)
  dsimp only [Pt.U, Pt.locs, Pt.cells, Pt.slots] at X1 l1 y1 z1 st1 hQ
  subst l1 y1 z1
  exact liftS st1 (r v T1.heap hQ.1 x T1 ⟨E, hQ.2.1, _, X1, rfl, N.app hQ.2.2⟩)
/-- the contract of a body with handlers (none of which is reached) -/
def ConW (hs : List (Nat × Nat × Nat × Nat)) (Z : State) (B : Bd) (as : Array Value) (h0 : Heap) (Q : Option Value → Heap → Prop) : Prop :=
  Ext Z.heap h0 → ∀ (l : Launch) (ws : List Cond), MetFree l B.y (head1 (Cond.codeWith B.y B.by B.ml B.rt hs :: ws) B.R) (fun a U => a = as ∧ Z.Warmed39 U.vm ∧ U.heap = h0) (fun _ _ _ _ _ => True)
    (fun _ U o U' => ∃ v L, o = .returned v ∧ (Q v U'.heap ∧ Ext Z.heap U'.heap ∧ Fr Z.heap.size L) ∧ FrameEnd U o U' L B.R.cells B.R.slots)
theorem ConW.mk {hs : List (Nat × Nat × Nat × Nat)} {as : Array Value} {h0 : Heap} (hw : Wd Z B.tb) (hpn : plainFor B.y = true) (hef : ∀ m, entryFrame m as B.ml = mkF m 0 Ls [])
    (body : Go Q Z B 0 0 h0 0 Ls []) : ConW hs Z B as h0 Q := by
  intro hE l ws
  refine MetFree.of_bodySF hpn hisWith ?_
  intro p e s m args below meth c s₁ Bd hml0 hP hK
  obtain ⟨rfl, hZ, hh⟩ := hP
  have X0 : Stand p l e B.R s m args below meth c s₁ [] 0 0 := Stand.of_body Bd
  have e0 : s₁.heap = h0 := by rw [← hh, Bd.state]; rfl
  obtain ⟨t, o, h1, h2, h3, h4⟩ := body (p, l, e, s, m, args, below, meth, c) s₁ ⟨⟨Bd.exec, Bd.bytes, hml0, findClass_of_methodNamed Bd.named, (name_of_methodNamed Bd.named Bd.method).1, Bd.returns, hZ, Bd.notSynchronized, hw⟩, hE, [], X0, e0, Fr.nil _⟩
  exact ⟨t, o, castTop (hef m) h1, h2, h3, h4⟩
theorem ConW.back {hs : List (Nat × Nat × Nat × Nat)} {C : Bd} {as : Array Value} {Qc : Option Value → Heap → Prop} {len W : Nat} (K : ConW hs Z C as h Qc) (P : Sp Z x B T k n h) (i j : Nat) (wc : B.tb[i]? = some (.codeWith C.y C.by C.ml C.rt hs)) (wz : B.tb[j]? = some (.initialized C.y.cls)) (hf : C.R.frames + 1 ≤ B.R.frames) (hl : W + (C.ml + 11) + C.R.locals ≤ B.R.locals) :
    Back x.l B.R x.p x.e x.below x.s x.args C.y len W (fun A a => a = as ∧ A.U.heap = h ∧ A.cells + C.R.cells ≤ B.R.cells ∧ A.slots + C.R.slots ≤ B.R.slots)
      (fun A _ v D => ∃ L, (Qc v D.U.heap ∧ Ext Z.heap D.U.heap ∧ Fr Z.heap.size L) ∧ D.locs = A.locs ++ L ∧ D.cells = A.cells + C.R.cells ∧ D.slots = A.slots + C.R.slots) := by
  obtain ⟨a0, hw⟩ := P.wd.w
  exact backOfWith (a0 := a0) (Q := fun v h' L => Qc v h' ∧ Ext Z.heap h' ∧ Fr Z.heap.size L) (K P.old x.l []) P.1.zz (hw wc) (hw wz) hf hl
theorem Go.callFW (pc' : Nat) (hp : pc + 5 = pc') {hs' : List (Nat × Nat × Nat × Nat)} {C : Bd} {Qc : Option Value → Heap → Prop} {ix ct : Nat} {y : MethodName} {D : String} (a : Addr) (argsL : List Value) {st : List Value} (i1 i2 i3 i4 i5 i6 i7 i8 i9 i10 : Nat) (K : ConW hs' Z C (.ref a :: argsL).toArray h Qc) (Ea : Exa Z h a D) (hd : decode B.by pc = .ok (.invokeinterface ix ct, 5)) (w1 : B.tb[i1]? = some (.methodLink B.y.cls ix y)) (w2 : B.tb[i2]? = some (.declares y)) (w3 : B.tb[i3]? = some (.interfaceMethod y.cls y.cls y.name y.desc)) (w4 : B.tb[i4]? = some (.selects D y C.y)) (w5 : B.tb[i5]? = some (.instanceMethod C.y)) (w6 : B.tb[i6]? = some (.publicMethod C.y)) (w7 : B.tb[i7]? = some (.unhidden D y.name y.desc)) (w8 : B.tb[i8]? = some (.castable D y.cls)) (w9 : B.tb[i9]? = some (.initialized C.y.cls)) (w10 : B.tb[i10]? = some (.codeWith C.y C.by C.ml C.rt hs')) (hk : ((Cond.interfaceMethod y.cls y.cls y.name y.desc).onTables && (Cond.interfaceMethod y.cls y.cls y.name y.desc).keepsFace) = true)
    (hy : y.cls ≠ "java/lang/invoke/MethodHandle" ∧ y.cls ≠ "java/lang/invoke/VarHandle") {ps : List FieldType} {rt : Option FieldType} (hpd : parseMethodDescriptor y.desc = some ⟨ps, rt⟩) (hlen : argsL.length = ps.length) (hs : Ls.size = B.ml) (hst : st = argsL.reverse ++ .ref a :: rest) {W : Nat} (hW : (rest.map fun v => v.category).sum ≤ W) (hf : C.R.frames + 1 ≤ B.R.frames) (hl : W + (C.ml + 11) + C.R.locals ≤ B.R.locals) (hc : k + C.R.cells ≤ B.R.cells) (hn : n + C.R.slots ≤ B.R.slots)
    (r : ∀ (v : Option Value) (h' : Heap), Qc v h' → Go Q Z B (k + C.R.cells) (n + C.R.slots) h' pc' Ls (v.toList ++ rest)) : Go Q Z B k n h pc Ls st := fun x T P => by
  subst hp hst
  obtain ⟨a0, hw⟩ := P.wd.w
  obtain ⟨E, O', locs, X, e, N⟩ := id P
  obtain ⟨cq, kq, qa, qb, qc⟩ := isOf E.zz e Ea
  obtain ⟨v, vm₁, ⟨T1, L1, k1, n1⟩, -, X1, ⟨Lc, hQ, l1, y1, z1⟩, st1⟩ := X.interfaceBack P.ex (xi := y) (y := C.y) E.own (mvT E.zz (hw w1)) (mvT E.zz (hw w2)) (mvT E.zz (hw w3) hk) (mvT E.zz (hw w4)) (mvT E.zz (hw w5)) (mvT E.zz (hw w6)) (mvT E.zz (hw w7)) (mvT E.zz (hw w8)) hy (K.back (W := W) P i10 i9 w10 w9 hf hl) qa qb qc (g := mkF x.m pc Ls (argsL.reverse ++ .ref a :: rest)) rfl (by rw [E.ml]; exact hs) (Steps.refl _) (argsL := argsL) (rest := rest) (lenOf hpd hlen) rfl (by show 2 * 0 + _ ≤ _; omega) (P.d hd) (fun _ _ => ⟨rfl, e, hc, hn⟩)
  dsimp only [Pt.U, Pt.locs, Pt.cells, Pt.slots] at X1 l1 y1 z1 st1 hQ
  subst l1 y1 z1
  exact liftS st1 (r v T1.heap hQ.1 x T1 ⟨E, hQ.2.1, _, X1, rfl, N.app hQ.2.2⟩)
end St
end Jvm.Ow
namespace Jvm.Ow
open Sem ClassFile Op Lib Jvm.Stand Jvm.Free Jvm.LawKit Jvm.RoadKit
section More
variable {Q : Option Value → Heap → Prop} {Z : State} {x : Cx} {B : Bd} {T : State} {k n : Nat} {h h' : Heap} {pc : Nat} {Ls Ls' : Array Slot} {st rest : List Value}
theorem Go.instNull (pc' : Nat) (hp : pc + 3 = pc') {ix : Nat} (hd : decode B.by pc = .ok (.instanceof ix, 3)) (r : Go Q Z B k n h pc' Ls (.int 0 :: st)) : Go Q Z B k n h pc Ls (.null :: st) := fun x T P => by
  subst hp
  obtain ⟨E, O', locs, X, e, N⟩ := id P
  exact lift (fun t q => X.instanceofNull P.ex (g := mkF x.m pc Ls (.null :: st)) rfl rfl (P.d hd) t q) (r x T P)
theorem ary_arv {a : Addr} {c0 : ClassId} {ty : FieldType} {z : Int32} {vs : List Value} {d : Value} (F : Arv Z h a c0 ty z vs d) (hl : z.toNatClampNeg = vs.length) : Ary Z h a ty vs := by
  obtain ⟨c, A, -, S, hz, H, G⟩ := F
  have e : c.slots.toList = vs := by
    apply List.ext_getElem?
    intro i
    rw [Array.getElem?_toList]
    by_cases hi : i < vs.length
    · rw [H i (by omega)]
      simp [List.getD, hi]
    · rw [List.getElem?_eq_none (by omega), Array.getElem?_eq_none (by omega)]
  refine ⟨c, A, e, ?_, fun v hv => ?_⟩
  · rw [← hl]; have := nat_of (j := z) hz; have := z.toInt_lt; omega
  · obtain ⟨i, hi, rfl⟩ := List.mem_iff_getElem.mp hv
    have := G i (by omega)
    simpa [List.getD, hi] using this
theorem Go.grid (pc' : Nat) (hp : pc + 4 = pc') {ad C : String} {ty : FieldType} {ix : Nat} {m1 m2 : Int32} (i1 i2 i3 N M cap : Nat) (hd : decode B.by pc = .ok (.multianewarray ix 2, 4)) (hC : (FieldType.array ty).toString = C) (had : "[" ++ C = ad) (w1 : B.tb[i1]? = some (.classLink B.y.cls ix ad)) (w2 : B.tb[i2]? = some (.arrayOver (.array ty))) (w3 : B.tb[i3]? = some (.arrayClass ty))
    (hN : m1.toInt = N) (hM : m2.toInt = M) (hcap : M ≤ cap) (hb : cap * 8 ≤ 536870912) (hb1 : N ≤ 1000) (hdf : fits ty (defaultValue ty) = true) (hdd : (defaultValue ty).isDefault = true) (hc : k + (1 + N) ≤ B.R.cells) (hl : n + (N + N * cap) ≤ B.R.slots)
    (r : ∀ (h' : Heap) (a : Addr), @Eq Nat a h.size → Z.heap.size ≤ a → Keep h h' [] → Ary Z h' a (.array ty) ((List.range N).map fun j => .ref (a + 1 + j)) → (∀ j, j < N → Ary Z h' (a + 1 + j) ty (List.replicate M (defaultValue ty))) → Go Q Z B (k + (1 + N)) (n + (N + N * cap)) h' pc' Ls (.ref a :: st)) : Go Q Z B k n h pc Ls (.int m2 :: .int m1 :: st) := fun x T P => by
  subst hp
  obtain ⟨a0, hw⟩ := P.wd.w
  obtain ⟨E, O', locs, X, e, N'⟩ := id P
  have z0 : (0 : Int32).toInt = 0 := rfl
  have hm1 : ¬ m1 < 0 := by rw [Int32.lt_iff_toInt_lt]; omega
  have hm2 : ¬ m2 < 0 := by rw [Int32.lt_iff_toInt_lt]; omega
  obtain ⟨T', h', cA, comp, X', e', Ex, A, -, -, R1, s'⟩ := gridM X P.ex E.zz E.own hC had (hw w1) (hw w2) (hw w3) e (g := mkF x.m pc Ls (.int m2 :: .int m1 :: st)) rfl (P.d hd) rfl hm1 hm2 (N := N) (ix_nat hN) rfl (cap := cap) (by rw [ix_nat hM]; exact hcap) hb hb1 hdf hdd hc hl
  have hlen : M < 2 ^ 31 := by have := m2.toInt_lt; omega
  refine lift s' (r h' h.size rfl P.le (keep_ext Ex) ?_ (fun j hj => ?_) x T' ⟨E, ⟨Nat.le_trans O'.1 Ex.1, fun y c q => Ex.2 y c (O'.2 y c q)⟩, locs, X', e', N'⟩)
  · have := ary_arv A (by rw [ix_nat hN]; simp)
    rw [List.map_map] at this
    exact this
  · obtain ⟨A1, -⟩ := R1 j (h.size + 1 + j) (by simp [hj])
    refine ⟨_, A1, ?_, by rw [List.length_replicate]; exact hlen, fun v hv => ?_⟩
    · show (Array.replicate _ _).toList = _
      rw [ix_nat hM, Array.toList_replicate]
    · rw [List.eq_of_mem_replicate hv]; exact hdf
/-- a class right under the root is not assignable to another plain class -/
theorem not_asg {tb : List Cond} (hw : Wd Z tb) {C S K : String} {sz : Nat} (i1 i2 i3 : Nat) (w1 : tb[i1]? = some (.superclass C S)) (w2 : tb[i2]? = some (.noSuperclass S)) (w3 : tb[i3]? = some (.instantiable K sz)) (n1 : C ≠ K) (n2 : S ≠ K) : ∃ c t, Z.vm.findClass C = some c ∧ Z.vm.findClass K = some t ∧ Z.vm.assignable c t = false := by
  obtain ⟨a0, hw⟩ := hw.w
  obtain ⟨c, h0⟩ := found_sup (hw w1)
  obtain ⟨p, k, kp, h1, h2, h3, h4, h5, -, h7⟩ := Cond.superclass_spec h0 (hw w1)
  obtain ⟨c', k', g1, g2, g3, -, -⟩ := Cond.noSuperclass_spec (hw w2)
  cases g1.symm.trans h1
  cases g2.symm.trans h3
  obtain ⟨t, kt, i1, i2, i3, i4, -⟩ := Cond.instantiable_spec (hw w3)
  have ne1 := ids_ne h0 i1 n1
  have ne2 := ids_ne h1 i1 n2
  have hi : kt.isInterface = false := (Bool.or_eq_false_iff.mp i4).1
  refine ⟨c, t, h0, i1, ?_⟩
  show Z.vm.assignableAux (255 + 1) c t = false
  have sub : ∀ fuel, Z.vm.isSubclassAux fuel c t = false := by
    intro fuel
    cases fuel with
    | zero => rfl
    | succ f =>
      cases f with
      | zero => simp [Vm.isSubclassAux, ne1, h2, h4]
      | succ f => simp [Vm.isSubclassAux, ne1, ne2, h2, h4, h3, g3]
  simp [Vm.assignableAux, ne1, h2, i2, h5, i3, hi, Vm.isSubclass, sub]
end More
theorem own_fs {s : State} {args : Array Value} {t : Term} {C n d : String} {a : Addr} {v : Value} (ev : t.eval args s none [] s = some (.ref a)) (ef : (Term.field t C n d).eval args s none [] s = some v) : Fld s s.heap a C n d v := by
  rw [fld_at ev] at ef; exact Fld.start ef
theorem own_fe {s : State} {args : Array Value} {t t2 : Term} {C n d : String} {a b : Addr} (ev : t.eval args s none [] s = some (.ref a)) (eb : t2.eval args s none [] s = some (.ref b)) (hx : (Cond.eq (Term.field t C n d) t2).value args s none s [] = some true) : Fld s s.heap a C n d (.ref b) := by
  refine own_fs ev ?_
  cases hf : (Term.field t C n d).eval args s none [] s with
  | none => simp [Cond.value, hf] at hx
  | some v => cases v <;> simp [Cond.value, hf, eb] at hx ⊢; exact hx
theorem own_ar0 {s : State} {args : Array Value} {t : Term} {ty : FieldType} {a : Addr} (ev : t.eval args s none [] s = some (.ref a)) (hx : (Cond.arrayOf t ty).value args s none s [] = some true) (hl : (Cond.eq (Term.length t) (Term.int 0)).value args s none s [] = some true) : Ary s s.heap a ty [] := by
  obtain ⟨c, A⟩ := Arr.start ev hx
  have hA : s.arrayAt? a = some c := Arr.fin (Vm.Alike.refl _) A
  have e0 : c.slots.size = 0 := by
    by_cases h31 : c.slots.size < 2 ^ 31
    · have e := len_f ev hA h31
      have e2 : (c.slots.size.toInt32 : Int32) = 0 := by simpa [Cond.value, Term.eval, ev, hA, h31] using hl
      exact (ofNat_zero h31).mp e2
    · exfalso
      have e : (Term.length t).eval args s none [] s = none := by simp [Term.eval, ev, hA, h31]
      simp [Cond.value, e] at hl
  exact ⟨c, A, by simpa using e0, by decide, fun v hv => by cases hv⟩
theorem own_na {Z : State} {h : Heap} {tb : List Cond} (hw : Wd Z tb) {C : String} {sz : Nat} (i : Nat) (w : tb[i]? = some (.instantiable C sz)) {a b : Addr} {ty : FieldType} {vs : List Value} (F : Exa Z h a C) (G : Ary Z h b ty vs) : b ≠ a := by
  obtain ⟨a0, hw⟩ := hw.w
  obtain ⟨c, A, -⟩ := G
  exact (ne_arr F (hw w) A).symm
theorem own_ins {Z : State} {h : Heap} {tb : List Cond} (hw : Wd Z tb) {C K : String} (i : Nat) (w : tb[i]? = some (.castable C K)) {a : Addr} (F : Exa Z h a C) : Ins Z h a K true := by
  obtain ⟨a0, hw⟩ := hw.w
  exact Ins.of_exa F (hw w)
end Jvm.Ow
namespace Jvm.Pilot.@@N@@
open Jvm Jvm.ClassFile Sem Op Lib Jvm.Free Jvm.Stand Jvm.LawKit Jvm.RoadKit Bundle Jvm.Ow Jvm.Pilot.@@N@@.Jvm.D
abbrev IL (xs : List Int32) : List Value := xs.map Value.int
abbrev JL (xs : List Int64) : List Value := xs.map Value.long
theorem IL.get {xs : List Int32} {j n : Nat} (h : xs.length = n) (hj : j < n) : (IL xs)[j]? = some (.int (xs.getD j 0)) := by
  have : j < xs.length := by omega
  simp [List.getD, this]
theorem JL.get {xs : List Int64} {j n : Nat} (h : xs.length = n) (hj : j < n) : (JL xs)[j]? = some (.long (xs.getD j 0)) := by
  have : j < xs.length := by omega
  simp [List.getD, this]
theorem own_set5 {α : Type} {xs : List α} {n j : Nat} {v : α} (h : xs.length = n) : (xs.set j v).length = n := by rw [List.length_set]; exact h
theorem own_setD {α : Type} {xs : List α} {n j : Nat} {v d : α} (h : xs.length = n) (hj : j < n) : (xs.set j v).getD j d = v := by
  have : j < xs.length := by omega
  simp [List.getD, this]
theorem own_setN {α : Type} {xs : List α} {i j : Nat} {v d : α} (h : i ≠ j) : (xs.set i v).getD j d = xs.getD j d := by
  simp [List.getD, h]
theorem own_sh (y : Int64) (k : Int64) (n : Nat) (hk : (k.toBitVec.smod 64).toNat = n) (h3 : 3 ≤ n) : (y <<< k) &&& 7 = 0 := by
  apply Int64.toBitVec_inj.mp
  rw [Int64.toBitVec_and, Int64.toBitVec_shiftLeft]
  show y.toBitVec <<< (k.toBitVec.smod 64) &&& 7#64 = 0#64
  apply BitVec.eq_of_getLsbD_eq
  intro i hi
  have e7 : (7#64 : BitVec 64).getLsbD i = decide (i < 3) := by
    rw [BitVec.getLsbD_ofNat]
    have : Nat.testBit 7 i = decide (i < 3) := Nat.testBit_two_pow_sub_one (n := 3) (i := i)
    rw [this]; simp [hi]
  rw [BitVec.getLsbD_and, e7, BitVec.shiftLeft_eq', hk, BitVec.getLsbD_shiftLeft]
  by_cases q : i < 3
  · have : i < n := by omega
    simp [this]
  · simp [q]
theorem own_or {x y : Int64} (h : y &&& 7 = 0) : (x ||| y) &&& 7 = x &&& 7 := by
  apply Int64.toBitVec_inj.mp
  have h' : y.toBitVec &&& (7 : Int64).toBitVec = 0#64 := by rw [← Int64.toBitVec_and, h]; rfl
  rw [Int64.toBitVec_and, Int64.toBitVec_or, Int64.toBitVec_and]
  apply BitVec.eq_of_getLsbD_eq
  intro i hi
  have := congrArg (fun b => BitVec.getLsbD b i) h'
  simp at this ⊢
  cases h1 : y.toBitVec[i] <;> cases h2 : x.toBitVec[i] <;> simp_all
theorem own_sm {i : Int32} {m k : Nat} {c : Int32} (h : i.toInt = (m : Int)) (hc : c.toInt = (k : Int)) (hm : m < 100) (hk : k < 100) : (i + c).toInt = ((m + k : Nat) : Int) := by
  have := XT.add32 (x := i) (y := c) ⟨by omega, by omega⟩
  omega
theorem own_cnt {c : Int32} (h1 : 1 ≤ c.toInt) (h2 : c.toInt ≤ 5) : ¬ c.toInt64 &&& 7 = 0 := by
  have : c = 1 ∨ c = 2 ∨ c = 3 ∨ c = 4 ∨ c = 5 := by
    rcases (show c.toInt = 1 ∨ c.toInt = 2 ∨ c.toInt = 3 ∨ c.toInt = 4 ∨ c.toInt = 5 by omega) with q | q | q | q | q
    · exact Or.inl (Int32.toInt_inj.mp q)
    · exact Or.inr (Or.inl (Int32.toInt_inj.mp q))
    · exact Or.inr (Or.inr (Or.inl (Int32.toInt_inj.mp q)))
    · exact Or.inr (Or.inr (Or.inr (Or.inl (Int32.toInt_inj.mp q))))
    · exact Or.inr (Or.inr (Or.inr (Or.inr (Int32.toInt_inj.mp q))))
  rcases this with rfl | rfl | rfl | rfl | rfl <;> decide
theorem own_hd {c : Int32} {y1 y2 y3 y4 y5 : Int64} (h1 : 1 ≤ c.toInt) (h2 : c.toInt ≤ 5) : ¬ (c.toInt64 ||| (y1 <<< ((3 : Int32).toInt64 &&& 63)) ||| (y2 <<< ((19 : Int32).toInt64 &&& 63)) ||| (y3 <<< ((50 : Int32).toInt64 &&& 63)) ||| (y4 <<< ((55 : Int32).toInt64 &&& 63)) ||| (y5 <<< ((61 : Int32).toInt64 &&& 63))) &&& 7 = 0 := by
  rw [own_or (own_sh _ _ 61 (by decide) (by decide)), own_or (own_sh _ _ 55 (by decide) (by decide)), own_or (own_sh _ _ 50 (by decide) (by decide)), own_or (own_sh _ _ 19 (by decide) (by decide)), own_or (own_sh _ _ 3 (by decide) (by decide))]
  exact own_cnt h1 h2
theorem own_addm (a b : Int32) : ∃ k : Int, (a + b).toInt = a.toInt + b.toInt + k * 4294967296 := by
  rw [Int32.toInt_add]
  simp only [Int.bmod]
  have e := Int.emod_add_mul_ediv (a.toInt + b.toInt) ((2 ^ 32 : Nat) : Int)
  split
  · exact ⟨-((a.toInt + b.toInt) / ((2 ^ 32 : Nat) : Int)), by omega⟩
  · exact ⟨-((a.toInt + b.toInt) / ((2 ^ 32 : Nat) : Int)) - 1, by omega⟩
theorem own_mk (a : Int32) : ∃ k : Int, (a &&& (2147483647 : Int32)).toInt = a.toInt + k * 2147483648 := by
  have h1 : (a &&& (2147483647 : Int32)).toInt = a.toInt % (2 ^ 31 : Nat) := Jvm.RoadKit.c_mask _ 2147483647 31 (by decide) (by decide)
  have e := Int.emod_add_mul_ediv a.toInt ((2 ^ 31 : Nat) : Int)
  exact ⟨-(a.toInt / ((2 ^ 31 : Nat) : Int)), by omega⟩
theorem own_n {p n : Int32} (h : (1 : Int32) + (p &&& (255 : Int32)) = n) : 1 ≤ n.toInt ∧ n.toInt ≤ 256 := by
  have h1 : (p &&& (255 : Int32)).toInt = p.toInt % (2 ^ 8 : Nat) := Jvm.RoadKit.c_mask _ 255 8 (by decide) (by decide)
  have o : (1 : Int32).toInt = 1 := rfl
  have := XT.add32 (x := 1) (y := p &&& (255 : Int32)) ⟨by omega, by omega⟩
  rw [h] at this; omega
theorem own_n1 {n : Int32} (h : 1 ≤ n.toInt ∧ n.toInt ≤ 256) : ¬ n < 1 := by
  rw [Int32.lt_iff_toInt_lt]; have o : (1 : Int32).toInt = 1 := rfl; omega
theorem own_g {p g : Int32} (h : p &&& (1 : Int32) = g) : 0 ≤ g.toInt ∧ g.toInt ≤ 1 := by
  have h1 : (p &&& (1 : Int32)).toInt = p.toInt % (2 ^ 1 : Nat) := Jvm.RoadKit.c_mask _ 1 1 (by decide) (by decide)
  rw [h] at h1; omega
theorem own_d1 {f1 n1 g f2 : Int32} (hn : 1 ≤ n1.toInt ∧ n1.toInt ≤ 256) (hg : 0 ≤ g.toInt ∧ g.toInt ≤ 1) (h : ((f1 + n1) &&& (2147483647 : Int32)) + g = f2) : ¬ f1 = f2 := by
  rintro rfl
  obtain ⟨k1, e1⟩ := own_addm f1 n1
  obtain ⟨k2, e2⟩ := own_mk (f1 + n1)
  obtain ⟨k3, e3⟩ := own_addm ((f1 + n1) &&& (2147483647 : Int32)) g
  rw [h] at e3; omega
theorem own_d2 {f2 n2 f3 : Int32} (hn : 1 ≤ n2.toInt ∧ n2.toInt ≤ 256) (h : (f2 + n2) &&& (2147483647 : Int32) = f3) : ¬ f2 = f3 := by
  rintro rfl
  obtain ⟨k1, e1⟩ := own_addm f2 n2
  obtain ⟨k2, e2⟩ := own_mk (f2 + n2)
  rw [h] at e2; omega
theorem own_d3 {f1 n1 g f2 n2 f3 : Int32} (hn1 : 1 ≤ n1.toInt ∧ n1.toInt ≤ 256) (hn : 1 ≤ n2.toInt ∧ n2.toInt ≤ 256) (hg : 0 ≤ g.toInt ∧ g.toInt ≤ 1) (h : ((f1 + n1) &&& (2147483647 : Int32)) + g = f2) (h' : (f2 + n2) &&& (2147483647 : Int32) = f3) : ¬ f1 = f3 := by
  rintro rfl
  obtain ⟨k1, e1⟩ := own_addm f1 n1
  obtain ⟨k2, e2⟩ := own_mk (f1 + n1)
  obtain ⟨k3, e3⟩ := own_addm ((f1 + n1) &&& (2147483647 : Int32)) g
  rw [h] at e3
  obtain ⟨k4, e4⟩ := own_addm f2 n2
  obtain ⟨k5, e5⟩ := own_mk (f2 + n2)
  rw [h'] at e5; omega
theorem own_l12 {v : Int32} (h : v < 1) : v < 2 := by rw [Int32.lt_iff_toInt_lt] at h ⊢; have o : (1 : Int32).toInt = 1 := rfl; have o : (2 : Int32).toInt = 2 := rfl; omega
theorem own_l23 {v : Int32} (h : v < 2) : v < 3 := by rw [Int32.lt_iff_toInt_lt] at h ⊢; have o : (3 : Int32).toInt = 3 := rfl; have o : (2 : Int32).toInt = 2 := rfl; omega
theorem own_c7 (x : Int32) : 1 ≤ ((x &&& (7 : Int32)) + 1).toInt := by
  have h1 : (x &&& (7 : Int32)).toInt = x.toInt % (2 ^ 3 : Nat) := Jvm.RoadKit.c_mask _ 7 3 (by decide) (by decide)
  have o : (1 : Int32).toInt = 1 := rfl
  have := XT.add32 (x := x &&& (7 : Int32)) (y := 1) ⟨by omega, by omega⟩
  omega
theorem own_ix {p x : Int32} (h : p &&& (3 : Int32) = x) : ∃ N : Nat, x.toInt = N ∧ N ≤ 3 := by
  have h1 : (p &&& (3 : Int32)).toInt = p.toInt % (2 ^ 2 : Nat) := Jvm.RoadKit.c_mask _ 3 2 (by decide) (by decide)
  rw [h] at h1
  exact ⟨x.toInt.toNat, by omega, by omega⟩
theorem own_cmp0 (x : Int64) : XT.cmpL x 0 = 0 ↔ x = 0 := by
  unfold XT.cmpL
  split
  · rename_i h; constructor
    · intro q; exact absurd q (by decide)
    · rintro rfl; exact absurd h (by decide)
  · split
    · rename_i h; simp_all
    · rename_i h; constructor
      · intro q; exact absurd q (by decide)
      · rintro rfl; simp at h
theorem own_m5 {a : Int32} (h : ¬ (5 : Int32) < a) : a.toInt ≤ 5 := by
  rw [Int32.lt_iff_toInt_lt] at h; have o : (5 : Int32).toInt = 5 := rfl; omega
theorem own_lt4 {ix i : Int32} {N k : Nat} (hN : ix.toInt = (N : Int)) (h3 : N ≤ 3) (hi : i.toInt = ((N + k : Nat) : Int)) (hk : k < 4) : i < ix + (4 : Int32) := by
  have := own_sm (k := 4) (c := 4) hN rfl (by omega) (by decide)
  rw [Int32.lt_iff_toInt_lt]; omega
theorem own_nlt4 {ix i : Int32} {N : Nat} (hN : ix.toInt = (N : Int)) (h3 : N ≤ 3) (hi : i.toInt = ((N + 4 : Nat) : Int)) : ¬ i < ix + (4 : Int32) := by
  have := own_sm (k := 4) (c := 4) hN rfl (by omega) (by decide)
  rw [Int32.lt_iff_toInt_lt]; omega
theorem own_fin {r : Int32} {z : Int64} (D : (r = 0 ∧ z = 0) ∨ (r = 1 ∧ ¬ z &&& 7 = 0)) : r = if z &&& 7 = 0 then 0 else 1 := by
  rcases D with ⟨rfl, rfl⟩ | ⟨rfl, h⟩
  · rfl
  · rw [if_neg h]
theorem own_c8 {x v : Int32} (h : x &&& (7 : Int32) = v) : 1 ≤ (v + (1 : Int32)).toInt := h ▸ own_c7 x
def ST (Z : State) (h : Heap) (a fa la ba : Addr) (R e : Int32) (xs ys : List Int32) (zs : List Int64) : Prop := Exa Z h a "com/example/albatross/albatross/storage/ProducerState" ∧ Fld Z h a "com/example/albatross/albatross/storage/ProducerState" "firstSequences" "[I" (.ref fa) ∧ Fld Z h a "com/example/albatross/albatross/storage/ProducerState" "lastSequences" "[I" (.ref la) ∧ Fld Z h a "com/example/albatross/albatross/storage/ProducerState" "baseOffsets" "[J" (.ref ba) ∧ Fld Z h a "com/example/albatross/albatross/storage/ProducerState" "remembered" "I" (.int R) ∧ Fld Z h a "com/example/albatross/albatross/storage/ProducerState" "epoch" "S" (.int e) ∧ Ary Z h fa .int (IL xs) ∧ Ary Z h la .int (IL ys) ∧ Ary Z h ba .long (JL zs) ∧ xs.length = 5 ∧ ys.length = 5 ∧ zs.length = 5
def Pt0 (Z : State) (a fa la ba : Addr) : Prop := Z.heap.size ≤ a ∧ Z.heap.size ≤ fa ∧ Z.heap.size ≤ la ∧ Z.heap.size ≤ ba ∧ a ≠ fa ∧ a ≠ la ∧ a ≠ ba ∧ fa ≠ la ∧ fa ≠ ba ∧ la ≠ ba
theorem ST.keep {Z : State} {h h' : Heap} {a fa la ba : Addr} {R e : Int32} {xs ys : List Int32} {zs : List Int64} {ws : List Addr} (S : ST Z h a fa la ba R e xs ys zs) (K : Keep h h' ws) (n1 : a ∉ ws) (n2 : fa ∉ ws) (n3 : la ∉ ws) (n4 : ba ∉ ws) : ST Z h' a fa la ba R e xs ys zs := by
  obtain ⟨E, F1, F2, F3, F4, F5, A1, A2, A3, r⟩ := S
  exact ⟨E.keep K, F1.keep K n1, F2.keep K n1, F3.keep K n1, F4.keep K n1, F5.keep K n1, A1.keep K n2, A2.keep K n3, A3.keep K n4, r⟩
def Ev1 (Z : State) (sa so si oa oo oi : Addr) : Prop := Sta Z Z.heap "com/example/albatross/albatross/storage/SequenceCheck" "APPEND" "Lcom/example/albatross/albatross/storage/SequenceCheck;" (.ref sa) ∧ Exa Z Z.heap sa "com/example/albatross/albatross/storage/SequenceCheck" ∧ Fld Z Z.heap sa "com/example/albatross/albatross/storage/SequenceCheck" "outcome" "Lcom/example/albatross/albatross/storage/SequenceCheck$Outcome;" (.ref oa) ∧ Sta Z Z.heap "com/example/albatross/albatross/storage/SequenceCheck" "OUT_OF_ORDER_SEQUENCE" "Lcom/example/albatross/albatross/storage/SequenceCheck;" (.ref so) ∧ Exa Z Z.heap so "com/example/albatross/albatross/storage/SequenceCheck" ∧ Fld Z Z.heap so "com/example/albatross/albatross/storage/SequenceCheck" "outcome" "Lcom/example/albatross/albatross/storage/SequenceCheck$Outcome;" (.ref oo) ∧ Sta Z Z.heap "com/example/albatross/albatross/storage/SequenceCheck" "INVALID_PRODUCER_EPOCH" "Lcom/example/albatross/albatross/storage/SequenceCheck;" (.ref si) ∧ Exa Z Z.heap si "com/example/albatross/albatross/storage/SequenceCheck" ∧ Fld Z Z.heap si "com/example/albatross/albatross/storage/SequenceCheck" "outcome" "Lcom/example/albatross/albatross/storage/SequenceCheck$Outcome;" (.ref oi) ∧ Sta Z Z.heap "com/example/albatross/albatross/storage/SequenceCheck$Outcome" "APPEND" "Lcom/example/albatross/albatross/storage/SequenceCheck$Outcome;" (.ref oa)
theorem d8_0 : decode prog_35_method_24_code 0 = .ok (.iload_n 0, 1) := by decide +kernel
theorem d8_1 : decode prog_35_method_24_code 1 = .ok (.iload_n 1, 1) := by decide +kernel
theorem d8_2 : decode prog_35_method_24_code 2 = .ok (.iadd, 1) := by decide +kernel
theorem d8_3 : decode prog_35_method_24_code 3 = .ok (.ldc 179, 2) := by decide +kernel
theorem d8_5 : decode prog_35_method_24_code 5 = .ok (.iand, 1) := by decide +kernel
theorem d8_6 : decode prog_35_method_24_code 6 = .ok (.ireturn, 1) := by decide +kernel
theorem pd8 : parseMethodDescriptor "(II)I" = some ⟨[.int, .int], some .int⟩ := by decide +kernel
theorem pn8 : plainFor (⟨"com/example/albatross/albatross/storage/ProducerState", "advance", "(II)I"⟩ : MethodName) = true := by first | (refine plainFor_of_name ?_; simp [plainName, overriddenIn]; done) | (refine plainFor_of_name ?_; decide +kernel) | decide +kernel
abbrev B8 : Bd := ((⟨"com/example/albatross/albatross/storage/ProducerState", "advance", "(II)I"⟩ : MethodName), prog_35_method_24_code, 2, (some .int), ({ frames := 0, cells := 0, slots := 0, locals := 0 } : Room), tables_1)
theorem ef8 (mid : MethodId) (a : Int32) (b : Int32) : entryFrame mid (List.toArray [.int a, .int b]) 2 = mkF mid 0 #[.val (.int a), .val (.int b)] [] := by first | (simp [entryFrame, mkF, argsToLocals, Value.category]; done) | rfl
def Q8 (h0 : Heap) (v : Option Value) (h : Heap) : Prop := ∃ z, v = some (.int z) ∧ h0 = h
set_option maxRecDepth 65536 in
set_option maxHeartbeats 40000000 in
theorem c8 (Z : State) (hw : Wd Z tables_1) (h0 : Heap) (a : Int32) (b : Int32)   : Con Z B8 (List.toArray [.int a, .int b]) h0 (Q8 h0) := by
  refine Con.mk hw pn8 (fun mid => ef8 mid a b) (Go.old fun hle' => ?_)
  have hle := hle'.1
  refine Go.iloadN 1 rfl d8_0 rfl ?_
  refine Go.iloadN 2 rfl d8_1 rfl ?_
  refine Go.iadd 3 rfl d8_2 ?_
  refine Go.ldcI 5 rfl (v := (2147483647 : Int32)) 45 d8_3 rfl ?_
  refine Go.iand 6 rfl d8_5 ?_
  exact Go.retI d8_6 rfl (by decide) (by decide) ⟨_, rfl, rfl⟩
theorem d7_0 : decode prog_35_method_23_code 0 = .ok (.iload_n 1, 1) := by decide +kernel
theorem d7_1 : decode prog_35_method_23_code 1 = .ok (.iconst 1, 1) := by decide +kernel
theorem d7_2 : decode prog_35_method_23_code 2 = .ok (.if_icmp .ge 17, 3) := by decide +kernel
theorem d7_19 : decode prog_35_method_23_code 19 = .ok (.iload_n 0, 1) := by decide +kernel
theorem d7_20 : decode prog_35_method_23_code 20 = .ok (.iload_n 1, 1) := by decide +kernel
theorem d7_21 : decode prog_35_method_23_code 21 = .ok (.iconst 1, 1) := by decide +kernel
theorem d7_22 : decode prog_35_method_23_code 22 = .ok (.isub, 1) := by decide +kernel
theorem d7_23 : decode prog_35_method_23_code 23 = .ok (.invokestatic 98, 3) := by decide +kernel
theorem d7_26 : decode prog_35_method_23_code 26 = .ok (.ireturn, 1) := by decide +kernel
theorem pd7 : parseMethodDescriptor "(II)I" = some ⟨[.int, .int], some .int⟩ := by decide +kernel
theorem pn7 : plainFor (⟨"com/example/albatross/albatross/storage/ProducerState", "lastSequence", "(II)I"⟩ : MethodName) = true := by first | (refine plainFor_of_name ?_; simp [plainName, overriddenIn]; done) | (refine plainFor_of_name ?_; decide +kernel) | decide +kernel
abbrev B7 : Bd := ((⟨"com/example/albatross/albatross/storage/ProducerState", "lastSequence", "(II)I"⟩ : MethodName), prog_35_method_23_code, 2, (some .int), ({ frames := 1, cells := 0, slots := 0, locals := 13 } : Room), tables_1)
theorem ef7 (mid : MethodId) (f : Int32) (n : Int32) : entryFrame mid (List.toArray [.int f, .int n]) 2 = mkF mid 0 #[.val (.int f), .val (.int n)] [] := by first | (simp [entryFrame, mkF, argsToLocals, Value.category]; done) | rfl
def Q7 (h0 : Heap) (v : Option Value) (h : Heap) : Prop := ∃ z, v = some (.int z) ∧ h0 = h
set_option maxRecDepth 65536 in
set_option maxHeartbeats 40000000 in
theorem c7 (Z : State) (hw : Wd Z tables_1) (h0 : Heap) (f : Int32) (n : Int32)  (hn : ¬ n < 1) : Con Z B7 (List.toArray [.int f, .int n]) h0 (Q7 h0) := by
  refine Con.mk hw pn7 (fun mid => ef7 mid f n) (Go.old fun hle' => ?_)
  have hle := hle'.1
  refine Go.iloadN 1 rfl d7_0 rfl ?_
  refine Go.iconst 2 rfl (1 : Int32) d7_1 rfl ?_
  refine Go.icmp_ge 19 5 d7_2 (by decide) rfl rfl (fun (b1 : ¬ n < (1 : Int32)) => ?_) (fun (b1 : n < (1 : Int32)) => ?_)
  · refine Go.iloadN 20 rfl d7_19 rfl ?_
    refine Go.iloadN 21 rfl d7_20 rfl ?_
    refine Go.iconst 22 rfl (1 : Int32) d7_21 rfl ?_
    refine Go.isub 23 rfl d7_22 ?_
    refine Go.callS 26 rfl (C := B8) [.int f, .int (n - (1 : Int32))] (rest := []) 42 43 3 44 (c8 Z hw h0 f (n - (1 : Int32)) ) d7_23 rfl rfl rfl rfl (by decide) pd8 rfl rfl rfl (W := 0) (Nat.le_of_ble_eq_true rfl) (by decide) (by decide) (by decide) (by decide) fun v2 h3 q4 => ?_
    obtain ⟨y5, rfl, rfl⟩ := q4
    exact Go.retI d7_26 rfl (by decide) (by decide) ⟨_, rfl, rfl⟩
  · exact absurd b1 hn
theorem d17_0 : decode jdk_33_method_47_code 0 = .ok (.iload_n 0, 1) := by decide +kernel
theorem d17_1 : decode jdk_33_method_47_code 1 = .ok (.ifCond .gt 14, 3) := by decide +kernel
theorem d17_4 : decode jdk_33_method_47_code 4 = .ok (.iload_n 0, 1) := by decide +kernel
theorem d17_5 : decode jdk_33_method_47_code 5 = .ok (.ifCond .ne 8, 3) := by decide +kernel
theorem d17_8 : decode jdk_33_method_47_code 8 = .ok (.bipush 32, 2) := by decide +kernel
theorem d17_10 : decode jdk_33_method_47_code 10 = .ok (.goto 4, 3) := by decide +kernel
theorem d17_13 : decode jdk_33_method_47_code 13 = .ok (.iconst 0, 1) := by decide +kernel
theorem d17_14 : decode jdk_33_method_47_code 14 = .ok (.ireturn, 1) := by decide +kernel
theorem d17_15 : decode jdk_33_method_47_code 15 = .ok (.bipush 31, 2) := by decide +kernel
theorem d17_17 : decode jdk_33_method_47_code 17 = .ok (.istore_n 1, 1) := by decide +kernel
theorem d17_18 : decode jdk_33_method_47_code 18 = .ok (.iload_n 0, 1) := by decide +kernel
theorem d17_19 : decode jdk_33_method_47_code 19 = .ok (.ldc_w 264, 3) := by decide +kernel
theorem d17_22 : decode jdk_33_method_47_code 22 = .ok (.if_icmp .lt 11, 3) := by decide +kernel
theorem d17_25 : decode jdk_33_method_47_code 25 = .ok (.iinc 1 (-16), 3) := by decide +kernel
theorem d17_28 : decode jdk_33_method_47_code 28 = .ok (.iload_n 0, 1) := by decide +kernel
theorem d17_29 : decode jdk_33_method_47_code 29 = .ok (.bipush 16, 2) := by decide +kernel
theorem d17_31 : decode jdk_33_method_47_code 31 = .ok (.iushr, 1) := by decide +kernel
theorem d17_32 : decode jdk_33_method_47_code 32 = .ok (.istore_n 0, 1) := by decide +kernel
theorem d17_33 : decode jdk_33_method_47_code 33 = .ok (.iload_n 0, 1) := by decide +kernel
theorem d17_34 : decode jdk_33_method_47_code 34 = .ok (.sipush 256, 3) := by decide +kernel
theorem d17_37 : decode jdk_33_method_47_code 37 = .ok (.if_icmp .lt 11, 3) := by decide +kernel
theorem d17_40 : decode jdk_33_method_47_code 40 = .ok (.iinc 1 (-8), 3) := by decide +kernel
theorem d17_43 : decode jdk_33_method_47_code 43 = .ok (.iload_n 0, 1) := by decide +kernel
theorem d17_44 : decode jdk_33_method_47_code 44 = .ok (.bipush 8, 2) := by decide +kernel
theorem d17_46 : decode jdk_33_method_47_code 46 = .ok (.iushr, 1) := by decide +kernel
theorem d17_47 : decode jdk_33_method_47_code 47 = .ok (.istore_n 0, 1) := by decide +kernel
theorem d17_48 : decode jdk_33_method_47_code 48 = .ok (.iload_n 0, 1) := by decide +kernel
theorem d17_49 : decode jdk_33_method_47_code 49 = .ok (.bipush 16, 2) := by decide +kernel
theorem d17_51 : decode jdk_33_method_47_code 51 = .ok (.if_icmp .lt 10, 3) := by decide +kernel
theorem d17_54 : decode jdk_33_method_47_code 54 = .ok (.iinc 1 (-4), 3) := by decide +kernel
theorem d17_57 : decode jdk_33_method_47_code 57 = .ok (.iload_n 0, 1) := by decide +kernel
theorem d17_58 : decode jdk_33_method_47_code 58 = .ok (.iconst 4, 1) := by decide +kernel
theorem d17_59 : decode jdk_33_method_47_code 59 = .ok (.iushr, 1) := by decide +kernel
theorem d17_60 : decode jdk_33_method_47_code 60 = .ok (.istore_n 0, 1) := by decide +kernel
theorem d17_61 : decode jdk_33_method_47_code 61 = .ok (.iload_n 0, 1) := by decide +kernel
theorem d17_62 : decode jdk_33_method_47_code 62 = .ok (.iconst 4, 1) := by decide +kernel
theorem d17_63 : decode jdk_33_method_47_code 63 = .ok (.if_icmp .lt 10, 3) := by decide +kernel
theorem d17_66 : decode jdk_33_method_47_code 66 = .ok (.iinc 1 (-2), 3) := by decide +kernel
theorem d17_69 : decode jdk_33_method_47_code 69 = .ok (.iload_n 0, 1) := by decide +kernel
theorem d17_70 : decode jdk_33_method_47_code 70 = .ok (.iconst 2, 1) := by decide +kernel
theorem d17_71 : decode jdk_33_method_47_code 71 = .ok (.iushr, 1) := by decide +kernel
theorem d17_72 : decode jdk_33_method_47_code 72 = .ok (.istore_n 0, 1) := by decide +kernel
theorem d17_73 : decode jdk_33_method_47_code 73 = .ok (.iload_n 1, 1) := by decide +kernel
theorem d17_74 : decode jdk_33_method_47_code 74 = .ok (.iload_n 0, 1) := by decide +kernel
theorem d17_75 : decode jdk_33_method_47_code 75 = .ok (.iconst 1, 1) := by decide +kernel
theorem d17_76 : decode jdk_33_method_47_code 76 = .ok (.iushr, 1) := by decide +kernel
theorem d17_77 : decode jdk_33_method_47_code 77 = .ok (.isub, 1) := by decide +kernel
theorem d17_78 : decode jdk_33_method_47_code 78 = .ok (.ireturn, 1) := by decide +kernel
theorem pd17 : parseMethodDescriptor "(I)I" = some ⟨[.int], some .int⟩ := by decide +kernel
theorem pn17 : plainFor (⟨"java/lang/Integer", "numberOfLeadingZeros", "(I)I"⟩ : MethodName) = true := by first | (refine plainFor_of_name ?_; simp [plainName, overriddenIn]; done) | (refine plainFor_of_name ?_; decide +kernel) | decide +kernel
abbrev B17 : Bd := ((⟨"java/lang/Integer", "numberOfLeadingZeros", "(I)I"⟩ : MethodName), jdk_33_method_47_code, 2, (some .int), ({ frames := 0, cells := 0, slots := 0, locals := 0 } : Room), tables_1)
theorem ef17 (mid : MethodId) (a : Int32) : entryFrame mid (List.toArray [.int a]) 2 = mkF mid 0 #[.val (.int a), .unset] [] := by first | (simp [entryFrame, mkF, argsToLocals, Value.category]; done) | rfl
def Q17 (h0 : Heap) (v : Option Value) (h : Heap) : Prop := ∃ z, v = some (.int z) ∧ h0 = h
set_option maxRecDepth 65536 in
set_option maxHeartbeats 40000000 in
theorem c17 (Z : State) (hw : Wd Z tables_1) (h0 : Heap) (a : Int32)   : Con Z B17 (List.toArray [.int a]) h0 (Q17 h0) := by
  refine Con.mk hw pn17 (fun mid => ef17 mid a) (Go.old fun hle' => ?_)
  have hle := hle'.1
  refine Go.iloadN 1 rfl d17_0 rfl ?_
  refine Go.if_gt 15 4 d17_1 (by decide) rfl rfl (fun (b1 : 0 < a) => ?_) (fun (b1 : ¬ 0 < a) => ?_)
  · refine Go.bipush 17 rfl (31 : Int32) d17_15 rfl ?_
    refine Go.istoreN 18 rfl d17_17 (Ls' := #[.val (.int a), .val (.int (31 : Int32))]) rfl ?_
    refine Go.iloadN 19 rfl d17_18 rfl ?_
    refine Go.ldcWI 22 rfl (v := (65536 : Int32)) 96 d17_19 rfl ?_
    refine Go.icmp_lt 33 25 d17_22 (by decide) rfl rfl (fun (b2 : a < (65536 : Int32)) => ?_) (fun (b2 : ¬ a < (65536 : Int32)) => ?_)
    · refine Go.iloadN 34 rfl d17_33 rfl ?_
      refine Go.sipush 37 rfl (256 : Int32) d17_34 rfl ?_
      refine Go.icmp_lt 48 40 d17_37 (by decide) rfl rfl (fun (b3 : a < (256 : Int32)) => ?_) (fun (b3 : ¬ a < (256 : Int32)) => ?_)
      · refine Go.iloadN 49 rfl d17_48 rfl ?_
        refine Go.bipush 51 rfl (16 : Int32) d17_49 rfl ?_
        refine Go.icmp_lt 61 54 d17_51 (by decide) rfl rfl (fun (b4 : a < (16 : Int32)) => ?_) (fun (b4 : ¬ a < (16 : Int32)) => ?_)
        · refine Go.iloadN 62 rfl d17_61 rfl ?_
          refine Go.iconst 63 rfl (4 : Int32) d17_62 rfl ?_
          refine Go.icmp_lt 73 66 d17_63 (by decide) rfl rfl (fun (b5 : a < (4 : Int32)) => ?_) (fun (b5 : ¬ a < (4 : Int32)) => ?_)
          · refine Go.iloadN 74 rfl d17_73 rfl ?_
            refine Go.iloadN 75 rfl d17_74 rfl ?_
            refine Go.iconst 76 rfl (1 : Int32) d17_75 rfl ?_
            refine Go.iushr 77 rfl d17_76 ?_
            refine Go.isub 78 rfl d17_77 ?_
            exact Go.retI d17_78 rfl (by decide) (by decide) ⟨_, rfl, rfl⟩
          · refine Go.iinc 69 rfl (-2 : Int32) d17_66 rfl rfl (Ls' := #[.val (.int a), .val (.int ((31 : Int32) + (-2 : Int32)))]) rfl ?_
            refine Go.iloadN 70 rfl d17_69 rfl ?_
            refine Go.iconst 71 rfl (2 : Int32) d17_70 rfl ?_
            refine Go.iushr 72 rfl d17_71 ?_
            refine Go.nameI fun v6 hv6 => ?_
            refine Go.istoreN 73 rfl d17_72 (Ls' := #[.val (.int v6), .val (.int ((31 : Int32) + (-2 : Int32)))]) rfl ?_
            refine Go.iloadN 74 rfl d17_73 rfl ?_
            refine Go.iloadN 75 rfl d17_74 rfl ?_
            refine Go.iconst 76 rfl (1 : Int32) d17_75 rfl ?_
            refine Go.iushr 77 rfl d17_76 ?_
            refine Go.isub 78 rfl d17_77 ?_
            exact Go.retI d17_78 rfl (by decide) (by decide) ⟨_, rfl, rfl⟩
        · refine Go.iinc 57 rfl (-4 : Int32) d17_54 rfl rfl (Ls' := #[.val (.int a), .val (.int ((31 : Int32) + (-4 : Int32)))]) rfl ?_
          refine Go.iloadN 58 rfl d17_57 rfl ?_
          refine Go.iconst 59 rfl (4 : Int32) d17_58 rfl ?_
          refine Go.iushr 60 rfl d17_59 ?_
          refine Go.nameI fun v7 hv7 => ?_
          refine Go.istoreN 61 rfl d17_60 (Ls' := #[.val (.int v7), .val (.int ((31 : Int32) + (-4 : Int32)))]) rfl ?_
          refine Go.iloadN 62 rfl d17_61 rfl ?_
          refine Go.iconst 63 rfl (4 : Int32) d17_62 rfl ?_
          refine Go.icmp_lt 73 66 d17_63 (by decide) rfl rfl (fun (b8 : v7 < (4 : Int32)) => ?_) (fun (b8 : ¬ v7 < (4 : Int32)) => ?_)
          · refine Go.iloadN 74 rfl d17_73 rfl ?_
            refine Go.iloadN 75 rfl d17_74 rfl ?_
            refine Go.iconst 76 rfl (1 : Int32) d17_75 rfl ?_
            refine Go.iushr 77 rfl d17_76 ?_
            refine Go.isub 78 rfl d17_77 ?_
            exact Go.retI d17_78 rfl (by decide) (by decide) ⟨_, rfl, rfl⟩
          · refine Go.iinc 69 rfl (-2 : Int32) d17_66 rfl rfl (Ls' := #[.val (.int v7), .val (.int (((31 : Int32) + (-4 : Int32)) + (-2 : Int32)))]) rfl ?_
            refine Go.iloadN 70 rfl d17_69 rfl ?_
            refine Go.iconst 71 rfl (2 : Int32) d17_70 rfl ?_
            refine Go.iushr 72 rfl d17_71 ?_
            refine Go.nameI fun v9 hv9 => ?_
            refine Go.istoreN 73 rfl d17_72 (Ls' := #[.val (.int v9), .val (.int (((31 : Int32) + (-4 : Int32)) + (-2 : Int32)))]) rfl ?_
            refine Go.iloadN 74 rfl d17_73 rfl ?_
            refine Go.iloadN 75 rfl d17_74 rfl ?_
            refine Go.iconst 76 rfl (1 : Int32) d17_75 rfl ?_
            refine Go.iushr 77 rfl d17_76 ?_
            refine Go.isub 78 rfl d17_77 ?_
            exact Go.retI d17_78 rfl (by decide) (by decide) ⟨_, rfl, rfl⟩
      · refine Go.iinc 43 rfl (-8 : Int32) d17_40 rfl rfl (Ls' := #[.val (.int a), .val (.int ((31 : Int32) + (-8 : Int32)))]) rfl ?_
        refine Go.iloadN 44 rfl d17_43 rfl ?_
        refine Go.bipush 46 rfl (8 : Int32) d17_44 rfl ?_
        refine Go.iushr 47 rfl d17_46 ?_
        refine Go.nameI fun v10 hv10 => ?_
        refine Go.istoreN 48 rfl d17_47 (Ls' := #[.val (.int v10), .val (.int ((31 : Int32) + (-8 : Int32)))]) rfl ?_
        refine Go.iloadN 49 rfl d17_48 rfl ?_
        refine Go.bipush 51 rfl (16 : Int32) d17_49 rfl ?_
        refine Go.icmp_lt 61 54 d17_51 (by decide) rfl rfl (fun (b11 : v10 < (16 : Int32)) => ?_) (fun (b11 : ¬ v10 < (16 : Int32)) => ?_)
        · refine Go.iloadN 62 rfl d17_61 rfl ?_
          refine Go.iconst 63 rfl (4 : Int32) d17_62 rfl ?_
          refine Go.icmp_lt 73 66 d17_63 (by decide) rfl rfl (fun (b12 : v10 < (4 : Int32)) => ?_) (fun (b12 : ¬ v10 < (4 : Int32)) => ?_)
          · refine Go.iloadN 74 rfl d17_73 rfl ?_
            refine Go.iloadN 75 rfl d17_74 rfl ?_
            refine Go.iconst 76 rfl (1 : Int32) d17_75 rfl ?_
            refine Go.iushr 77 rfl d17_76 ?_
            refine Go.isub 78 rfl d17_77 ?_
            exact Go.retI d17_78 rfl (by decide) (by decide) ⟨_, rfl, rfl⟩
          · refine Go.iinc 69 rfl (-2 : Int32) d17_66 rfl rfl (Ls' := #[.val (.int v10), .val (.int (((31 : Int32) + (-8 : Int32)) + (-2 : Int32)))]) rfl ?_
            refine Go.iloadN 70 rfl d17_69 rfl ?_
            refine Go.iconst 71 rfl (2 : Int32) d17_70 rfl ?_
            refine Go.iushr 72 rfl d17_71 ?_
            refine Go.nameI fun v13 hv13 => ?_
            refine Go.istoreN 73 rfl d17_72 (Ls' := #[.val (.int v13), .val (.int (((31 : Int32) + (-8 : Int32)) + (-2 : Int32)))]) rfl ?_
            refine Go.iloadN 74 rfl d17_73 rfl ?_
            refine Go.iloadN 75 rfl d17_74 rfl ?_
            refine Go.iconst 76 rfl (1 : Int32) d17_75 rfl ?_
            refine Go.iushr 77 rfl d17_76 ?_
            refine Go.isub 78 rfl d17_77 ?_
            exact Go.retI d17_78 rfl (by decide) (by decide) ⟨_, rfl, rfl⟩
        · refine Go.iinc 57 rfl (-4 : Int32) d17_54 rfl rfl (Ls' := #[.val (.int v10), .val (.int (((31 : Int32) + (-8 : Int32)) + (-4 : Int32)))]) rfl ?_
          refine Go.iloadN 58 rfl d17_57 rfl ?_
          refine Go.iconst 59 rfl (4 : Int32) d17_58 rfl ?_
          refine Go.iushr 60 rfl d17_59 ?_
          refine Go.nameI fun v14 hv14 => ?_
          refine Go.istoreN 61 rfl d17_60 (Ls' := #[.val (.int v14), .val (.int (((31 : Int32) + (-8 : Int32)) + (-4 : Int32)))]) rfl ?_
          refine Go.iloadN 62 rfl d17_61 rfl ?_
          refine Go.iconst 63 rfl (4 : Int32) d17_62 rfl ?_
          refine Go.icmp_lt 73 66 d17_63 (by decide) rfl rfl (fun (b15 : v14 < (4 : Int32)) => ?_) (fun (b15 : ¬ v14 < (4 : Int32)) => ?_)
          · refine Go.iloadN 74 rfl d17_73 rfl ?_
            refine Go.iloadN 75 rfl d17_74 rfl ?_
            refine Go.iconst 76 rfl (1 : Int32) d17_75 rfl ?_
            refine Go.iushr 77 rfl d17_76 ?_
            refine Go.isub 78 rfl d17_77 ?_
            exact Go.retI d17_78 rfl (by decide) (by decide) ⟨_, rfl, rfl⟩
          · refine Go.iinc 69 rfl (-2 : Int32) d17_66 rfl rfl (Ls' := #[.val (.int v14), .val (.int ((((31 : Int32) + (-8 : Int32)) + (-4 : Int32)) + (-2 : Int32)))]) rfl ?_
            refine Go.iloadN 70 rfl d17_69 rfl ?_
            refine Go.iconst 71 rfl (2 : Int32) d17_70 rfl ?_
            refine Go.iushr 72 rfl d17_71 ?_
            refine Go.nameI fun v16 hv16 => ?_
            refine Go.istoreN 73 rfl d17_72 (Ls' := #[.val (.int v16), .val (.int ((((31 : Int32) + (-8 : Int32)) + (-4 : Int32)) + (-2 : Int32)))]) rfl ?_
            refine Go.iloadN 74 rfl d17_73 rfl ?_
            refine Go.iloadN 75 rfl d17_74 rfl ?_
            refine Go.iconst 76 rfl (1 : Int32) d17_75 rfl ?_
            refine Go.iushr 77 rfl d17_76 ?_
            refine Go.isub 78 rfl d17_77 ?_
            exact Go.retI d17_78 rfl (by decide) (by decide) ⟨_, rfl, rfl⟩
    · refine Go.iinc 28 rfl (-16 : Int32) d17_25 rfl rfl (Ls' := #[.val (.int a), .val (.int ((31 : Int32) + (-16 : Int32)))]) rfl ?_
      refine Go.iloadN 29 rfl d17_28 rfl ?_
      refine Go.bipush 31 rfl (16 : Int32) d17_29 rfl ?_
      refine Go.iushr 32 rfl d17_31 ?_
      refine Go.nameI fun v17 hv17 => ?_
      refine Go.istoreN 33 rfl d17_32 (Ls' := #[.val (.int v17), .val (.int ((31 : Int32) + (-16 : Int32)))]) rfl ?_
      refine Go.iloadN 34 rfl d17_33 rfl ?_
      refine Go.sipush 37 rfl (256 : Int32) d17_34 rfl ?_
      refine Go.icmp_lt 48 40 d17_37 (by decide) rfl rfl (fun (b18 : v17 < (256 : Int32)) => ?_) (fun (b18 : ¬ v17 < (256 : Int32)) => ?_)
      · refine Go.iloadN 49 rfl d17_48 rfl ?_
        refine Go.bipush 51 rfl (16 : Int32) d17_49 rfl ?_
        refine Go.icmp_lt 61 54 d17_51 (by decide) rfl rfl (fun (b19 : v17 < (16 : Int32)) => ?_) (fun (b19 : ¬ v17 < (16 : Int32)) => ?_)
        · refine Go.iloadN 62 rfl d17_61 rfl ?_
          refine Go.iconst 63 rfl (4 : Int32) d17_62 rfl ?_
          refine Go.icmp_lt 73 66 d17_63 (by decide) rfl rfl (fun (b20 : v17 < (4 : Int32)) => ?_) (fun (b20 : ¬ v17 < (4 : Int32)) => ?_)
          · refine Go.iloadN 74 rfl d17_73 rfl ?_
            refine Go.iloadN 75 rfl d17_74 rfl ?_
            refine Go.iconst 76 rfl (1 : Int32) d17_75 rfl ?_
            refine Go.iushr 77 rfl d17_76 ?_
            refine Go.isub 78 rfl d17_77 ?_
            exact Go.retI d17_78 rfl (by decide) (by decide) ⟨_, rfl, rfl⟩
          · refine Go.iinc 69 rfl (-2 : Int32) d17_66 rfl rfl (Ls' := #[.val (.int v17), .val (.int (((31 : Int32) + (-16 : Int32)) + (-2 : Int32)))]) rfl ?_
            refine Go.iloadN 70 rfl d17_69 rfl ?_
            refine Go.iconst 71 rfl (2 : Int32) d17_70 rfl ?_
            refine Go.iushr 72 rfl d17_71 ?_
            refine Go.nameI fun v21 hv21 => ?_
            refine Go.istoreN 73 rfl d17_72 (Ls' := #[.val (.int v21), .val (.int (((31 : Int32) + (-16 : Int32)) + (-2 : Int32)))]) rfl ?_
            refine Go.iloadN 74 rfl d17_73 rfl ?_
            refine Go.iloadN 75 rfl d17_74 rfl ?_
            refine Go.iconst 76 rfl (1 : Int32) d17_75 rfl ?_
            refine Go.iushr 77 rfl d17_76 ?_
            refine Go.isub 78 rfl d17_77 ?_
            exact Go.retI d17_78 rfl (by decide) (by decide) ⟨_, rfl, rfl⟩
        · refine Go.iinc 57 rfl (-4 : Int32) d17_54 rfl rfl (Ls' := #[.val (.int v17), .val (.int (((31 : Int32) + (-16 : Int32)) + (-4 : Int32)))]) rfl ?_
          refine Go.iloadN 58 rfl d17_57 rfl ?_
          refine Go.iconst 59 rfl (4 : Int32) d17_58 rfl ?_
          refine Go.iushr 60 rfl d17_59 ?_
          refine Go.nameI fun v22 hv22 => ?_
          refine Go.istoreN 61 rfl d17_60 (Ls' := #[.val (.int v22), .val (.int (((31 : Int32) + (-16 : Int32)) + (-4 : Int32)))]) rfl ?_
          refine Go.iloadN 62 rfl d17_61 rfl ?_
          refine Go.iconst 63 rfl (4 : Int32) d17_62 rfl ?_
          refine Go.icmp_lt 73 66 d17_63 (by decide) rfl rfl (fun (b23 : v22 < (4 : Int32)) => ?_) (fun (b23 : ¬ v22 < (4 : Int32)) => ?_)
          · refine Go.iloadN 74 rfl d17_73 rfl ?_
            refine Go.iloadN 75 rfl d17_74 rfl ?_
            refine Go.iconst 76 rfl (1 : Int32) d17_75 rfl ?_
            refine Go.iushr 77 rfl d17_76 ?_
            refine Go.isub 78 rfl d17_77 ?_
            exact Go.retI d17_78 rfl (by decide) (by decide) ⟨_, rfl, rfl⟩
          · refine Go.iinc 69 rfl (-2 : Int32) d17_66 rfl rfl (Ls' := #[.val (.int v22), .val (.int ((((31 : Int32) + (-16 : Int32)) + (-4 : Int32)) + (-2 : Int32)))]) rfl ?_
            refine Go.iloadN 70 rfl d17_69 rfl ?_
            refine Go.iconst 71 rfl (2 : Int32) d17_70 rfl ?_
            refine Go.iushr 72 rfl d17_71 ?_
            refine Go.nameI fun v24 hv24 => ?_
            refine Go.istoreN 73 rfl d17_72 (Ls' := #[.val (.int v24), .val (.int ((((31 : Int32) + (-16 : Int32)) + (-4 : Int32)) + (-2 : Int32)))]) rfl ?_
            refine Go.iloadN 74 rfl d17_73 rfl ?_
            refine Go.iloadN 75 rfl d17_74 rfl ?_
            refine Go.iconst 76 rfl (1 : Int32) d17_75 rfl ?_
            refine Go.iushr 77 rfl d17_76 ?_
            refine Go.isub 78 rfl d17_77 ?_
            exact Go.retI d17_78 rfl (by decide) (by decide) ⟨_, rfl, rfl⟩
      · refine Go.iinc 43 rfl (-8 : Int32) d17_40 rfl rfl (Ls' := #[.val (.int v17), .val (.int (((31 : Int32) + (-16 : Int32)) + (-8 : Int32)))]) rfl ?_
        refine Go.iloadN 44 rfl d17_43 rfl ?_
        refine Go.bipush 46 rfl (8 : Int32) d17_44 rfl ?_
        refine Go.iushr 47 rfl d17_46 ?_
        refine Go.nameI fun v25 hv25 => ?_
        refine Go.istoreN 48 rfl d17_47 (Ls' := #[.val (.int v25), .val (.int (((31 : Int32) + (-16 : Int32)) + (-8 : Int32)))]) rfl ?_
        refine Go.iloadN 49 rfl d17_48 rfl ?_
        refine Go.bipush 51 rfl (16 : Int32) d17_49 rfl ?_
        refine Go.icmp_lt 61 54 d17_51 (by decide) rfl rfl (fun (b26 : v25 < (16 : Int32)) => ?_) (fun (b26 : ¬ v25 < (16 : Int32)) => ?_)
        · refine Go.iloadN 62 rfl d17_61 rfl ?_
          refine Go.iconst 63 rfl (4 : Int32) d17_62 rfl ?_
          refine Go.icmp_lt 73 66 d17_63 (by decide) rfl rfl (fun (b27 : v25 < (4 : Int32)) => ?_) (fun (b27 : ¬ v25 < (4 : Int32)) => ?_)
          · refine Go.iloadN 74 rfl d17_73 rfl ?_
            refine Go.iloadN 75 rfl d17_74 rfl ?_
            refine Go.iconst 76 rfl (1 : Int32) d17_75 rfl ?_
            refine Go.iushr 77 rfl d17_76 ?_
            refine Go.isub 78 rfl d17_77 ?_
            exact Go.retI d17_78 rfl (by decide) (by decide) ⟨_, rfl, rfl⟩
          · refine Go.iinc 69 rfl (-2 : Int32) d17_66 rfl rfl (Ls' := #[.val (.int v25), .val (.int ((((31 : Int32) + (-16 : Int32)) + (-8 : Int32)) + (-2 : Int32)))]) rfl ?_
            refine Go.iloadN 70 rfl d17_69 rfl ?_
            refine Go.iconst 71 rfl (2 : Int32) d17_70 rfl ?_
            refine Go.iushr 72 rfl d17_71 ?_
            refine Go.nameI fun v28 hv28 => ?_
            refine Go.istoreN 73 rfl d17_72 (Ls' := #[.val (.int v28), .val (.int ((((31 : Int32) + (-16 : Int32)) + (-8 : Int32)) + (-2 : Int32)))]) rfl ?_
            refine Go.iloadN 74 rfl d17_73 rfl ?_
            refine Go.iloadN 75 rfl d17_74 rfl ?_
            refine Go.iconst 76 rfl (1 : Int32) d17_75 rfl ?_
            refine Go.iushr 77 rfl d17_76 ?_
            refine Go.isub 78 rfl d17_77 ?_
            exact Go.retI d17_78 rfl (by decide) (by decide) ⟨_, rfl, rfl⟩
        · refine Go.iinc 57 rfl (-4 : Int32) d17_54 rfl rfl (Ls' := #[.val (.int v25), .val (.int ((((31 : Int32) + (-16 : Int32)) + (-8 : Int32)) + (-4 : Int32)))]) rfl ?_
          refine Go.iloadN 58 rfl d17_57 rfl ?_
          refine Go.iconst 59 rfl (4 : Int32) d17_58 rfl ?_
          refine Go.iushr 60 rfl d17_59 ?_
          refine Go.nameI fun v29 hv29 => ?_
          refine Go.istoreN 61 rfl d17_60 (Ls' := #[.val (.int v29), .val (.int ((((31 : Int32) + (-16 : Int32)) + (-8 : Int32)) + (-4 : Int32)))]) rfl ?_
          refine Go.iloadN 62 rfl d17_61 rfl ?_
          refine Go.iconst 63 rfl (4 : Int32) d17_62 rfl ?_
          refine Go.icmp_lt 73 66 d17_63 (by decide) rfl rfl (fun (b30 : v29 < (4 : Int32)) => ?_) (fun (b30 : ¬ v29 < (4 : Int32)) => ?_)
          · refine Go.iloadN 74 rfl d17_73 rfl ?_
            refine Go.iloadN 75 rfl d17_74 rfl ?_
            refine Go.iconst 76 rfl (1 : Int32) d17_75 rfl ?_
            refine Go.iushr 77 rfl d17_76 ?_
            refine Go.isub 78 rfl d17_77 ?_
            exact Go.retI d17_78 rfl (by decide) (by decide) ⟨_, rfl, rfl⟩
          · refine Go.iinc 69 rfl (-2 : Int32) d17_66 rfl rfl (Ls' := #[.val (.int v29), .val (.int (((((31 : Int32) + (-16 : Int32)) + (-8 : Int32)) + (-4 : Int32)) + (-2 : Int32)))]) rfl ?_
            refine Go.iloadN 70 rfl d17_69 rfl ?_
            refine Go.iconst 71 rfl (2 : Int32) d17_70 rfl ?_
            refine Go.iushr 72 rfl d17_71 ?_
            refine Go.nameI fun v31 hv31 => ?_
            refine Go.istoreN 73 rfl d17_72 (Ls' := #[.val (.int v31), .val (.int (((((31 : Int32) + (-16 : Int32)) + (-8 : Int32)) + (-4 : Int32)) + (-2 : Int32)))]) rfl ?_
            refine Go.iloadN 74 rfl d17_73 rfl ?_
            refine Go.iloadN 75 rfl d17_74 rfl ?_
            refine Go.iconst 76 rfl (1 : Int32) d17_75 rfl ?_
            refine Go.iushr 77 rfl d17_76 ?_
            refine Go.isub 78 rfl d17_77 ?_
            exact Go.retI d17_78 rfl (by decide) (by decide) ⟨_, rfl, rfl⟩
  · refine Go.iloadN 5 rfl d17_4 rfl ?_
    refine Go.if_ne 13 8 d17_5 (by decide) rfl rfl (fun (b32 : ¬ a = 0) => ?_) (fun (b32 : a = 0) => ?_)
    · refine Go.iconst 14 rfl (0 : Int32) d17_13 rfl ?_
      exact Go.retI d17_14 rfl (by decide) (by decide) ⟨_, rfl, rfl⟩
    · refine Go.bipush 10 rfl (32 : Int32) d17_8 rfl ?_
      refine Go.goto 14 d17_10 (by decide) (by decide) ?_
      exact Go.retI d17_14 rfl (by decide) (by decide) ⟨_, rfl, rfl⟩
theorem d16_0 : decode jdk_35_method_48_code 0 = .ok (.lload_n 0, 1) := by decide +kernel
theorem d16_1 : decode jdk_35_method_48_code 1 = .ok (.bipush 32, 2) := by decide +kernel
theorem d16_3 : decode jdk_35_method_48_code 3 = .ok (.lushr, 1) := by decide +kernel
theorem d16_4 : decode jdk_35_method_48_code 4 = .ok (.l2i, 1) := by decide +kernel
theorem d16_5 : decode jdk_35_method_48_code 5 = .ok (.istore_n 2, 1) := by decide +kernel
theorem d16_6 : decode jdk_35_method_48_code 6 = .ok (.iload_n 2, 1) := by decide +kernel
theorem d16_7 : decode jdk_35_method_48_code 7 = .ok (.ifCond .ne 14, 3) := by decide +kernel
theorem d16_10 : decode jdk_35_method_48_code 10 = .ok (.bipush 32, 2) := by decide +kernel
theorem d16_12 : decode jdk_35_method_48_code 12 = .ok (.lload_n 0, 1) := by decide +kernel
theorem d16_13 : decode jdk_35_method_48_code 13 = .ok (.l2i, 1) := by decide +kernel
theorem d16_14 : decode jdk_35_method_48_code 14 = .ok (.invokestatic 308, 3) := by decide +kernel
theorem d16_17 : decode jdk_35_method_48_code 17 = .ok (.iadd, 1) := by decide +kernel
theorem d16_18 : decode jdk_35_method_48_code 18 = .ok (.goto 7, 3) := by decide +kernel
theorem d16_21 : decode jdk_35_method_48_code 21 = .ok (.iload_n 2, 1) := by decide +kernel
theorem d16_22 : decode jdk_35_method_48_code 22 = .ok (.invokestatic 308, 3) := by decide +kernel
theorem d16_25 : decode jdk_35_method_48_code 25 = .ok (.ireturn, 1) := by decide +kernel
theorem pd16 : parseMethodDescriptor "(J)I" = some ⟨[.long], some .int⟩ := by decide +kernel
theorem pn16 : plainFor (⟨"java/lang/Long", "numberOfLeadingZeros", "(J)I"⟩ : MethodName) = true := by first | (refine plainFor_of_name ?_; simp [plainName, overriddenIn]; done) | (refine plainFor_of_name ?_; decide +kernel) | decide +kernel
abbrev B16 : Bd := ((⟨"java/lang/Long", "numberOfLeadingZeros", "(J)I"⟩ : MethodName), jdk_35_method_48_code, 3, (some .int), ({ frames := 1, cells := 0, slots := 0, locals := 14 } : Room), tables_1)
theorem ef16 (mid : MethodId) (a : Int64) : entryFrame mid (List.toArray [.long a]) 3 = mkF mid 0 #[.val (.long a), .second, .unset] [] := by first | (simp [entryFrame, mkF, argsToLocals, Value.category]; done) | rfl
def Q16 (h0 : Heap) (v : Option Value) (h : Heap) : Prop := ∃ z, v = some (.int z) ∧ h0 = h
set_option maxRecDepth 65536 in
set_option maxHeartbeats 40000000 in
theorem c16 (Z : State) (hw : Wd Z tables_1) (h0 : Heap) (a : Int64)   : Con Z B16 (List.toArray [.long a]) h0 (Q16 h0) := by
  refine Con.mk hw pn16 (fun mid => ef16 mid a) (Go.old fun hle' => ?_)
  have hle := hle'.1
  refine Go.lloadN 1 rfl d16_0 rfl ?_
  refine Go.bipush 3 rfl (32 : Int32) d16_1 rfl ?_
  refine Go.lushr 4 rfl d16_3 ?_
  refine Go.l2i 5 rfl d16_4 ?_
  refine Go.nameI fun v1 hv1 => ?_
  refine Go.istoreN 6 rfl d16_5 (Ls' := #[.val (.long a), .second, .val (.int v1)]) rfl ?_
  refine Go.iloadN 7 rfl d16_6 rfl ?_
  refine Go.if_ne 21 10 d16_7 (by decide) rfl rfl (fun (b2 : ¬ v1 = 0) => ?_) (fun (b2 : v1 = 0) => ?_)
  · refine Go.iloadN 22 rfl d16_21 rfl ?_
    refine Go.callS 25 rfl (C := B17) [.int v1] (rest := []) 92 93 94 95 (c17 Z hw h0 v1 ) d16_22 rfl rfl rfl rfl (by decide) pd17 rfl rfl rfl (W := 0) (Nat.le_of_ble_eq_true rfl) (by decide) (by decide) (by decide) (by decide) fun v3 h4 q5 => ?_
    obtain ⟨y6, rfl, rfl⟩ := q5
    exact Go.retI d16_25 rfl (by decide) (by decide) ⟨_, rfl, rfl⟩
  · refine Go.bipush 12 rfl (32 : Int32) d16_10 rfl ?_
    refine Go.lloadN 13 rfl d16_12 rfl ?_
    refine Go.l2i 14 rfl d16_13 ?_
    refine Go.callS 17 rfl (C := B17) [.int a.toInt32] (rest := [.int (32 : Int32)]) 92 93 94 95 (c17 Z hw h0 a.toInt32 ) d16_14 rfl rfl rfl rfl (by decide) pd17 rfl rfl rfl (W := 1) (Nat.le_of_ble_eq_true rfl) (by decide) (by decide) (by decide) (by decide) fun v7 h8 q9 => ?_
    obtain ⟨y10, rfl, rfl⟩ := q9
    refine Go.iadd 18 rfl d16_17 ?_
    refine Go.goto 25 d16_18 (by decide) (by decide) ?_
    exact Go.retI d16_25 rfl (by decide) (by decide) ⟨_, rfl, rfl⟩
theorem d15_0 : decode prog_35_method_25_code 0 = .ok (.bipush 64, 2) := by decide +kernel
theorem d15_2 : decode prog_35_method_25_code 2 = .ok (.lload_n 0, 1) := by decide +kernel
theorem d15_3 : decode prog_35_method_25_code 3 = .ok (.invokestatic 187, 3) := by decide +kernel
theorem d15_6 : decode prog_35_method_25_code 6 = .ok (.isub, 1) := by decide +kernel
theorem d15_7 : decode prog_35_method_25_code 7 = .ok (.ireturn, 1) := by decide +kernel
theorem pd15 : parseMethodDescriptor "(J)I" = some ⟨[.long], some .int⟩ := by decide +kernel
theorem pn15 : plainFor (⟨"com/example/albatross/albatross/storage/ProducerState", "bitLength", "(J)I"⟩ : MethodName) = true := by first | (refine plainFor_of_name ?_; simp [plainName, overriddenIn]; done) | (refine plainFor_of_name ?_; decide +kernel) | decide +kernel
abbrev B15 : Bd := ((⟨"com/example/albatross/albatross/storage/ProducerState", "bitLength", "(J)I"⟩ : MethodName), prog_35_method_25_code, 2, (some .int), ({ frames := 2, cells := 0, slots := 0, locals := 29 } : Room), tables_1)
theorem ef15 (mid : MethodId) (a : Int64) : entryFrame mid (List.toArray [.long a]) 2 = mkF mid 0 #[.val (.long a), .second] [] := by first | (simp [entryFrame, mkF, argsToLocals, Value.category]; done) | rfl
def Q15 (h0 : Heap) (v : Option Value) (h : Heap) : Prop := ∃ z, v = some (.int z) ∧ h0 = h
set_option maxRecDepth 65536 in
set_option maxHeartbeats 40000000 in
theorem c15 (Z : State) (hw : Wd Z tables_1) (h0 : Heap) (a : Int64)   : Con Z B15 (List.toArray [.long a]) h0 (Q15 h0) := by
  refine Con.mk hw pn15 (fun mid => ef15 mid a) (Go.old fun hle' => ?_)
  have hle := hle'.1
  refine Go.bipush 2 rfl (64 : Int32) d15_0 rfl ?_
  refine Go.lloadN 3 rfl d15_2 rfl ?_
  refine Go.callS 6 rfl (C := B16) [.long a] (rest := [.int (64 : Int32)]) 88 89 90 91 (c16 Z hw h0 a ) d15_3 rfl rfl rfl rfl (by decide) pd16 rfl rfl rfl (W := 1) (Nat.le_of_ble_eq_true rfl) (by decide) (by decide) (by decide) (by decide) fun v1 h2 q3 => ?_
  obtain ⟨y4, rfl, rfl⟩ := q3
  refine Go.isub 7 rfl d15_6 ?_
  exact Go.retI d15_7 rfl (by decide) (by decide) ⟨_, rfl, rfl⟩
theorem d19_0 : decode prog_35_method_33_code 0 = .ok (.iload_n 2, 1) := by decide +kernel
theorem d19_1 : decode prog_35_method_33_code 1 = .ok (.ifCond .eq 7, 3) := by decide +kernel
theorem d19_4 : decode prog_35_method_33_code 4 = .ok (.iload_n 1, 1) := by decide +kernel
theorem d19_5 : decode prog_35_method_33_code 5 = .ok (.goto 6, 3) := by decide +kernel
theorem d19_8 : decode prog_35_method_33_code 8 = .ok (.iload_n 0, 1) := by decide +kernel
theorem d19_9 : decode prog_35_method_33_code 9 = .ok (.iload_n 1, 1) := by decide +kernel
theorem d19_10 : decode prog_35_method_33_code 10 = .ok (.iadd, 1) := by decide +kernel
theorem d19_11 : decode prog_35_method_33_code 11 = .ok (.ireturn, 1) := by decide +kernel
theorem pd19 : parseMethodDescriptor "(IIZ)I" = some ⟨[.int, .int, .boolean], some .int⟩ := by decide +kernel
theorem pn19 : plainFor (⟨"com/example/albatross/albatross/storage/ProducerState", "batchBits", "(IIZ)I"⟩ : MethodName) = true := by first | (refine plainFor_of_name ?_; simp [plainName, overriddenIn]; done) | (refine plainFor_of_name ?_; decide +kernel) | decide +kernel
abbrev B19 : Bd := ((⟨"com/example/albatross/albatross/storage/ProducerState", "batchBits", "(IIZ)I"⟩ : MethodName), prog_35_method_33_code, 3, (some .int), ({ frames := 0, cells := 0, slots := 0, locals := 0 } : Room), tables_1)
theorem ef19 (mid : MethodId) (a : Int32) (b : Int32) (d : Int32) : entryFrame mid (List.toArray [.int a, .int b, .int d]) 3 = mkF mid 0 #[.val (.int a), .val (.int b), .val (.int d)] [] := by first | (simp [entryFrame, mkF, argsToLocals, Value.category]; done) | rfl
def Q19 (h0 : Heap) (v : Option Value) (h : Heap) : Prop := ∃ z, v = some (.int z) ∧ h0 = h
set_option maxRecDepth 65536 in
set_option maxHeartbeats 40000000 in
theorem c19 (Z : State) (hw : Wd Z tables_1) (h0 : Heap) (a : Int32) (b : Int32) (d : Int32)   : Con Z B19 (List.toArray [.int a, .int b, .int d]) h0 (Q19 h0) := by
  refine Con.mk hw pn19 (fun mid => ef19 mid a b d) (Go.old fun hle' => ?_)
  have hle := hle'.1
  refine Go.iloadN 1 rfl d19_0 rfl ?_
  refine Go.if_eq 8 4 d19_1 (by decide) rfl rfl (fun (b1 : d = 0) => ?_) (fun (b1 : ¬ d = 0) => ?_)
  · refine Go.iloadN 9 rfl d19_8 rfl ?_
    refine Go.iloadN 10 rfl d19_9 rfl ?_
    refine Go.iadd 11 rfl d19_10 ?_
    exact Go.retI d19_11 rfl (by decide) (by decide) ⟨_, rfl, rfl⟩
  · refine Go.iloadN 5 rfl d19_4 rfl ?_
    refine Go.goto 11 d19_5 (by decide) (by decide) ?_
    exact Go.retI d19_11 rfl (by decide) (by decide) ⟨_, rfl, rfl⟩
theorem d18_0 : decode prog_35_method_34_code 0 = .ok (.iload_n 1, 1) := by decide +kernel
theorem d18_1 : decode prog_35_method_34_code 1 = .ok (.iload_n 0, 1) := by decide +kernel
theorem d18_2 : decode prog_35_method_34_code 2 = .ok (.iconst 1, 1) := by decide +kernel
theorem d18_3 : decode prog_35_method_34_code 3 = .ok (.isub, 1) := by decide +kernel
theorem d18_4 : decode prog_35_method_34_code 4 = .ok (.iload_n 1, 1) := by decide +kernel
theorem d18_5 : decode prog_35_method_34_code 5 = .ok (.iload_n 2, 1) := by decide +kernel
theorem d18_6 : decode prog_35_method_34_code 6 = .ok (.iload_n 3, 1) := by decide +kernel
theorem d18_7 : decode prog_35_method_34_code 7 = .ok (.invokestatic 167, 3) := by decide +kernel
theorem d18_10 : decode prog_35_method_34_code 10 = .ok (.imul, 1) := by decide +kernel
theorem d18_11 : decode prog_35_method_34_code 11 = .ok (.iadd, 1) := by decide +kernel
theorem d18_12 : decode prog_35_method_34_code 12 = .ok (.ireturn, 1) := by decide +kernel
theorem pd18 : parseMethodDescriptor "(IIIZ)I" = some ⟨[.int, .int, .int, .boolean], some .int⟩ := by decide +kernel
theorem pn18 : plainFor (⟨"com/example/albatross/albatross/storage/ProducerState", "windowBits", "(IIIZ)I"⟩ : MethodName) = true := by first | (refine plainFor_of_name ?_; simp [plainName, overriddenIn]; done) | (refine plainFor_of_name ?_; decide +kernel) | decide +kernel
abbrev B18 : Bd := ((⟨"com/example/albatross/albatross/storage/ProducerState", "windowBits", "(IIIZ)I"⟩ : MethodName), prog_35_method_34_code, 4, (some .int), ({ frames := 1, cells := 0, slots := 0, locals := 16 } : Room), tables_1)
theorem ef18 (mid : MethodId) (a : Int32) (b : Int32) (d : Int32) (e : Int32) : entryFrame mid (List.toArray [.int a, .int b, .int d, .int e]) 4 = mkF mid 0 #[.val (.int a), .val (.int b), .val (.int d), .val (.int e)] [] := by first | (simp [entryFrame, mkF, argsToLocals, Value.category]; done) | rfl
def Q18 (h0 : Heap) (v : Option Value) (h : Heap) : Prop := ∃ z, v = some (.int z) ∧ h0 = h
set_option maxRecDepth 65536 in
set_option maxHeartbeats 40000000 in
theorem c18 (Z : State) (hw : Wd Z tables_1) (h0 : Heap) (a : Int32) (b : Int32) (d : Int32) (e : Int32)   : Con Z B18 (List.toArray [.int a, .int b, .int d, .int e]) h0 (Q18 h0) := by
  refine Con.mk hw pn18 (fun mid => ef18 mid a b d e) (Go.old fun hle' => ?_)
  have hle := hle'.1
  refine Go.iloadN 1 rfl d18_0 rfl ?_
  refine Go.iloadN 2 rfl d18_1 rfl ?_
  refine Go.iconst 3 rfl (1 : Int32) d18_2 rfl ?_
  refine Go.isub 4 rfl d18_3 ?_
  refine Go.iloadN 5 rfl d18_4 rfl ?_
  refine Go.iloadN 6 rfl d18_5 rfl ?_
  refine Go.iloadN 7 rfl d18_6 rfl ?_
  refine Go.callS 10 rfl (C := B19) [.int b, .int d, .int e] (rest := [.int (a - (1 : Int32)), .int b]) 100 101 3 102 (c19 Z hw h0 b d e ) d18_7 rfl rfl rfl rfl (by decide) pd19 rfl rfl rfl (W := 2) (Nat.le_of_ble_eq_true rfl) (by decide) (by decide) (by decide) (by decide) fun v1 h2 q3 => ?_
  obtain ⟨y4, rfl, rfl⟩ := q3
  refine Go.imul 11 rfl d18_10 ?_
  refine Go.iadd 12 rfl d18_11 ?_
  exact Go.retI d18_12 rfl (by decide) (by decide) ⟨_, rfl, rfl⟩
theorem d20_0 : decode prog_35_method_35_code 0 = .ok (.bipush 64, 2) := by decide +kernel
theorem d20_2 : decode prog_35_method_35_code 2 = .ok (.iload_n 0, 1) := by decide +kernel
theorem d20_3 : decode prog_35_method_35_code 3 = .ok (.iadd, 1) := by decide +kernel
theorem d20_4 : decode prog_35_method_35_code 4 = .ok (.iload_n 1, 1) := by decide +kernel
theorem d20_5 : decode prog_35_method_35_code 5 = .ok (.iadd, 1) := by decide +kernel
theorem d20_6 : decode prog_35_method_35_code 6 = .ok (.sipush 256, 3) := by decide +kernel
theorem d20_9 : decode prog_35_method_35_code 9 = .ok (.if_icmp .gt 7, 3) := by decide +kernel
theorem d20_12 : decode prog_35_method_35_code 12 = .ok (.iconst 1, 1) := by decide +kernel
theorem d20_13 : decode prog_35_method_35_code 13 = .ok (.goto 4, 3) := by decide +kernel
theorem d20_16 : decode prog_35_method_35_code 16 = .ok (.iconst 0, 1) := by decide +kernel
theorem d20_17 : decode prog_35_method_35_code 17 = .ok (.ireturn, 1) := by decide +kernel
theorem pd20 : parseMethodDescriptor "(II)Z" = some ⟨[.int, .int], some .boolean⟩ := by decide +kernel
theorem pn20 : plainFor (⟨"com/example/albatross/albatross/storage/ProducerState", "fits", "(II)Z"⟩ : MethodName) = true := by first | (refine plainFor_of_name ?_; simp [plainName, overriddenIn]; done) | (refine plainFor_of_name ?_; decide +kernel) | decide +kernel
abbrev B20 : Bd := ((⟨"com/example/albatross/albatross/storage/ProducerState", "fits", "(II)Z"⟩ : MethodName), prog_35_method_35_code, 2, (some .boolean), ({ frames := 0, cells := 0, slots := 0, locals := 0 } : Room), tables_1)
theorem ef20 (mid : MethodId) (a : Int32) (b : Int32) : entryFrame mid (List.toArray [.int a, .int b]) 2 = mkF mid 0 #[.val (.int a), .val (.int b)] [] := by first | (simp [entryFrame, mkF, argsToLocals, Value.category]; done) | rfl
def Q20 (h0 : Heap) (v : Option Value) (h : Heap) : Prop := ∃ z, v = some (.int z) ∧ h0 = h
set_option maxRecDepth 65536 in
set_option maxHeartbeats 40000000 in
theorem c20 (Z : State) (hw : Wd Z tables_1) (h0 : Heap) (a : Int32) (b : Int32)   : Con Z B20 (List.toArray [.int a, .int b]) h0 (Q20 h0) := by
  refine Con.mk hw pn20 (fun mid => ef20 mid a b) (Go.old fun hle' => ?_)
  have hle := hle'.1
  refine Go.bipush 2 rfl (64 : Int32) d20_0 rfl ?_
  refine Go.iloadN 3 rfl d20_2 rfl ?_
  refine Go.iadd 4 rfl d20_3 ?_
  refine Go.iloadN 5 rfl d20_4 rfl ?_
  refine Go.iadd 6 rfl d20_5 ?_
  refine Go.sipush 9 rfl (256 : Int32) d20_6 rfl ?_
  refine Go.icmp_gt 16 12 d20_9 (by decide) rfl rfl (fun (b1 : (256 : Int32) < (((64 : Int32) + a) + b)) => ?_) (fun (b1 : ¬ (256 : Int32) < (((64 : Int32) + a) + b)) => ?_)
  · refine Go.iconst 17 rfl (0 : Int32) d20_16 rfl ?_
    exact Go.retN (t := .boolean) (z' := (nar .boolean (0 : Int32))) d20_17 rfl (by decide) rfl (by decide) (by decide) ⟨_, rfl, rfl⟩
  · refine Go.iconst 13 rfl (1 : Int32) d20_12 rfl ?_
    refine Go.goto 17 d20_13 (by decide) (by decide) ?_
    exact Go.retN (t := .boolean) (z' := (nar .boolean (1 : Int32))) d20_17 rfl (by decide) rfl (by decide) (by decide) ⟨_, rfl, rfl⟩
theorem d23_0 : decode prog_35_method_29_code 0 = .ok (.lload_n 0, 1) := by decide +kernel
theorem d23_1 : decode prog_35_method_29_code 1 = .ok (.bipush 50, 2) := by decide +kernel
theorem d23_3 : decode prog_35_method_29_code 3 = .ok (.lushr, 1) := by decide +kernel
theorem d23_4 : decode prog_35_method_29_code 4 = .ok (.l2i, 1) := by decide +kernel
theorem d23_5 : decode prog_35_method_29_code 5 = .ok (.bipush 31, 2) := by decide +kernel
theorem d23_7 : decode prog_35_method_29_code 7 = .ok (.iand, 1) := by decide +kernel
theorem d23_8 : decode prog_35_method_29_code 8 = .ok (.ireturn, 1) := by decide +kernel
theorem pd23 : parseMethodDescriptor "(J)I" = some ⟨[.long], some .int⟩ := by decide +kernel
theorem pn23 : plainFor (⟨"com/example/albatross/albatross/storage/ProducerState", "countWidthOf", "(J)I"⟩ : MethodName) = true := by first | (refine plainFor_of_name ?_; simp [plainName, overriddenIn]; done) | (refine plainFor_of_name ?_; decide +kernel) | decide +kernel
abbrev B23 : Bd := ((⟨"com/example/albatross/albatross/storage/ProducerState", "countWidthOf", "(J)I"⟩ : MethodName), prog_35_method_29_code, 2, (some .int), ({ frames := 0, cells := 0, slots := 0, locals := 0 } : Room), tables_1)
theorem ef23 (mid : MethodId) (a : Int64) : entryFrame mid (List.toArray [.long a]) 2 = mkF mid 0 #[.val (.long a), .second] [] := by first | (simp [entryFrame, mkF, argsToLocals, Value.category]; done) | rfl
def Q23 (h0 : Heap) (v : Option Value) (h : Heap) : Prop := ∃ z, v = some (.int z) ∧ h0 = h
set_option maxRecDepth 65536 in
set_option maxHeartbeats 40000000 in
theorem c23 (Z : State) (hw : Wd Z tables_1) (h0 : Heap) (a : Int64)   : Con Z B23 (List.toArray [.long a]) h0 (Q23 h0) := by
  refine Con.mk hw pn23 (fun mid => ef23 mid a) (Go.old fun hle' => ?_)
  have hle := hle'.1
  refine Go.lloadN 1 rfl d23_0 rfl ?_
  refine Go.bipush 3 rfl (50 : Int32) d23_1 rfl ?_
  refine Go.lushr 4 rfl d23_3 ?_
  refine Go.l2i 5 rfl d23_4 ?_
  refine Go.bipush 7 rfl (31 : Int32) d23_5 rfl ?_
  refine Go.iand 8 rfl d23_7 ?_
  exact Go.retI d23_8 rfl (by decide) (by decide) ⟨_, rfl, rfl⟩
theorem d24_0 : decode prog_35_method_30_code 0 = .ok (.lload_n 0, 1) := by decide +kernel
theorem d24_1 : decode prog_35_method_30_code 1 = .ok (.bipush 55, 2) := by decide +kernel
theorem d24_3 : decode prog_35_method_30_code 3 = .ok (.lushr, 1) := by decide +kernel
theorem d24_4 : decode prog_35_method_30_code 4 = .ok (.l2i, 1) := by decide +kernel
theorem d24_5 : decode prog_35_method_30_code 5 = .ok (.bipush 63, 2) := by decide +kernel
theorem d24_7 : decode prog_35_method_30_code 7 = .ok (.iand, 1) := by decide +kernel
theorem d24_8 : decode prog_35_method_30_code 8 = .ok (.ireturn, 1) := by decide +kernel
theorem pd24 : parseMethodDescriptor "(J)I" = some ⟨[.long], some .int⟩ := by decide +kernel
theorem pn24 : plainFor (⟨"com/example/albatross/albatross/storage/ProducerState", "gapWidthOf", "(J)I"⟩ : MethodName) = true := by first | (refine plainFor_of_name ?_; simp [plainName, overriddenIn]; done) | (refine plainFor_of_name ?_; decide +kernel) | decide +kernel
abbrev B24 : Bd := ((⟨"com/example/albatross/albatross/storage/ProducerState", "gapWidthOf", "(J)I"⟩ : MethodName), prog_35_method_30_code, 2, (some .int), ({ frames := 0, cells := 0, slots := 0, locals := 0 } : Room), tables_1)
theorem ef24 (mid : MethodId) (a : Int64) : entryFrame mid (List.toArray [.long a]) 2 = mkF mid 0 #[.val (.long a), .second] [] := by first | (simp [entryFrame, mkF, argsToLocals, Value.category]; done) | rfl
def Q24 (h0 : Heap) (v : Option Value) (h : Heap) : Prop := ∃ z, v = some (.int z) ∧ h0 = h
set_option maxRecDepth 65536 in
set_option maxHeartbeats 40000000 in
theorem c24 (Z : State) (hw : Wd Z tables_1) (h0 : Heap) (a : Int64)   : Con Z B24 (List.toArray [.long a]) h0 (Q24 h0) := by
  refine Con.mk hw pn24 (fun mid => ef24 mid a) (Go.old fun hle' => ?_)
  have hle := hle'.1
  refine Go.lloadN 1 rfl d24_0 rfl ?_
  refine Go.bipush 3 rfl (55 : Int32) d24_1 rfl ?_
  refine Go.lushr 4 rfl d24_3 ?_
  refine Go.l2i 5 rfl d24_4 ?_
  refine Go.bipush 7 rfl (63 : Int32) d24_5 rfl ?_
  refine Go.iand 8 rfl d24_7 ?_
  exact Go.retI d24_8 rfl (by decide) (by decide) ⟨_, rfl, rfl⟩
theorem d25_0 : decode prog_35_method_31_code 0 = .ok (.lload_n 0, 1) := by decide +kernel
theorem d25_1 : decode prog_35_method_31_code 1 = .ok (.bipush 61, 2) := by decide +kernel
theorem d25_3 : decode prog_35_method_31_code 3 = .ok (.lushr, 1) := by decide +kernel
theorem d25_4 : decode prog_35_method_31_code 4 = .ok (.lconst 1, 1) := by decide +kernel
theorem d25_5 : decode prog_35_method_31_code 5 = .ok (.land, 1) := by decide +kernel
theorem d25_6 : decode prog_35_method_31_code 6 = .ok (.lconst 0, 1) := by decide +kernel
theorem d25_7 : decode prog_35_method_31_code 7 = .ok (.lcmp, 1) := by decide +kernel
theorem d25_8 : decode prog_35_method_31_code 8 = .ok (.ifCond .eq 7, 3) := by decide +kernel
theorem d25_11 : decode prog_35_method_31_code 11 = .ok (.iconst 1, 1) := by decide +kernel
theorem d25_12 : decode prog_35_method_31_code 12 = .ok (.goto 4, 3) := by decide +kernel
theorem d25_15 : decode prog_35_method_31_code 15 = .ok (.iconst 0, 1) := by decide +kernel
theorem d25_16 : decode prog_35_method_31_code 16 = .ok (.ireturn, 1) := by decide +kernel
theorem pd25 : parseMethodDescriptor "(J)Z" = some ⟨[.long], some .boolean⟩ := by decide +kernel
theorem pn25 : plainFor (⟨"com/example/albatross/albatross/storage/ProducerState", "sharesCount", "(J)Z"⟩ : MethodName) = true := by first | (refine plainFor_of_name ?_; simp [plainName, overriddenIn]; done) | (refine plainFor_of_name ?_; decide +kernel) | decide +kernel
abbrev B25 : Bd := ((⟨"com/example/albatross/albatross/storage/ProducerState", "sharesCount", "(J)Z"⟩ : MethodName), prog_35_method_31_code, 2, (some .boolean), ({ frames := 0, cells := 0, slots := 0, locals := 0 } : Room), tables_1)
theorem ef25 (mid : MethodId) (a : Int64) : entryFrame mid (List.toArray [.long a]) 2 = mkF mid 0 #[.val (.long a), .second] [] := by first | (simp [entryFrame, mkF, argsToLocals, Value.category]; done) | rfl
def Q25 (h0 : Heap) (v : Option Value) (h : Heap) : Prop := ∃ z, v = some (.int z) ∧ h0 = h
set_option maxRecDepth 65536 in
set_option maxHeartbeats 40000000 in
theorem c25 (Z : State) (hw : Wd Z tables_1) (h0 : Heap) (a : Int64)   : Con Z B25 (List.toArray [.long a]) h0 (Q25 h0) := by
  refine Con.mk hw pn25 (fun mid => ef25 mid a) (Go.old fun hle' => ?_)
  have hle := hle'.1
  refine Go.lloadN 1 rfl d25_0 rfl ?_
  refine Go.bipush 3 rfl (61 : Int32) d25_1 rfl ?_
  refine Go.lushr 4 rfl d25_3 ?_
  refine Go.lconst 5 rfl (1 : Int64) d25_4 rfl ?_
  refine Go.land 6 rfl d25_5 ?_
  refine Go.lconst 7 rfl (0 : Int64) d25_6 rfl ?_
  refine Go.lcmp 8 rfl d25_7 ?_
  refine Go.if_eq 15 11 d25_8 (by decide) rfl rfl (fun (b1 : (XT.cmpL ((XT.ushrL a (61 : Int32)) &&& (1 : Int64)) (0 : Int64)) = 0) => ?_) (fun (b1 : ¬ (XT.cmpL ((XT.ushrL a (61 : Int32)) &&& (1 : Int64)) (0 : Int64)) = 0) => ?_)
  · refine Go.iconst 16 rfl (0 : Int32) d25_15 rfl ?_
    exact Go.retN (t := .boolean) (z' := (nar .boolean (0 : Int32))) d25_16 rfl (by decide) rfl (by decide) (by decide) ⟨_, rfl, rfl⟩
  · refine Go.iconst 12 rfl (1 : Int32) d25_11 rfl ?_
    refine Go.goto 16 d25_12 (by decide) (by decide) ?_
    exact Go.retN (t := .boolean) (z' := (nar .boolean (1 : Int32))) d25_16 rfl (by decide) rfl (by decide) (by decide) ⟨_, rfl, rfl⟩
theorem d26_0 : decode prog_35_method_36_code 0 = .ok (.iload_n 0, 1) := by decide +kernel
theorem d26_1 : decode prog_35_method_36_code 1 = .ok (.ifCond .ne 7, 3) := by decide +kernel
theorem d26_4 : decode prog_35_method_36_code 4 = .ok (.lconst 0, 1) := by decide +kernel
theorem d26_5 : decode prog_35_method_36_code 5 = .ok (.goto 11, 3) := by decide +kernel
theorem d26_8 : decode prog_35_method_36_code 8 = .ok (.ldc2_w 171, 3) := by decide +kernel
theorem d26_11 : decode prog_35_method_36_code 11 = .ok (.bipush 64, 2) := by decide +kernel
theorem d26_13 : decode prog_35_method_36_code 13 = .ok (.iload_n 0, 1) := by decide +kernel
theorem d26_14 : decode prog_35_method_36_code 14 = .ok (.isub, 1) := by decide +kernel
theorem d26_15 : decode prog_35_method_36_code 15 = .ok (.lushr, 1) := by decide +kernel
theorem d26_16 : decode prog_35_method_36_code 16 = .ok (.lreturn, 1) := by decide +kernel
theorem pd26 : parseMethodDescriptor "(I)J" = some ⟨[.int], some .long⟩ := by decide +kernel
theorem pn26 : plainFor (⟨"com/example/albatross/albatross/storage/ProducerState", "lowBits", "(I)J"⟩ : MethodName) = true := by first | (refine plainFor_of_name ?_; simp [plainName, overriddenIn]; done) | (refine plainFor_of_name ?_; decide +kernel) | decide +kernel
abbrev B26 : Bd := ((⟨"com/example/albatross/albatross/storage/ProducerState", "lowBits", "(I)J"⟩ : MethodName), prog_35_method_36_code, 1, (some .long), ({ frames := 0, cells := 0, slots := 0, locals := 0 } : Room), tables_1)
theorem ef26 (mid : MethodId) (a : Int32) : entryFrame mid (List.toArray [.int a]) 1 = mkF mid 0 #[.val (.int a)] [] := by first | (simp [entryFrame, mkF, argsToLocals, Value.category]; done) | rfl
def Q26 (h0 : Heap) (v : Option Value) (h : Heap) : Prop := ∃ z, v = some (.long z) ∧ h0 = h
set_option maxRecDepth 65536 in
set_option maxHeartbeats 40000000 in
theorem c26 (Z : State) (hw : Wd Z tables_1) (h0 : Heap) (a : Int32)   : Con Z B26 (List.toArray [.int a]) h0 (Q26 h0) := by
  refine Con.mk hw pn26 (fun mid => ef26 mid a) (Go.old fun hle' => ?_)
  have hle := hle'.1
  refine Go.iloadN 1 rfl d26_0 rfl ?_
  refine Go.if_ne 8 4 d26_1 (by decide) rfl rfl (fun (b1 : ¬ a = 0) => ?_) (fun (b1 : a = 0) => ?_)
  · refine Go.ldc2J 11 rfl (v := (-1 : Int64)) 74 d26_8 rfl ?_
    refine Go.bipush 13 rfl (64 : Int32) d26_11 rfl ?_
    refine Go.iloadN 14 rfl d26_13 rfl ?_
    refine Go.isub 15 rfl d26_14 ?_
    refine Go.lushr 16 rfl d26_15 ?_
    exact Go.retJ d26_16 rfl (by decide) (by decide) ⟨_, rfl, rfl⟩
  · refine Go.lconst 5 rfl (0 : Int64) d26_4 rfl ?_
    refine Go.goto 16 d26_5 (by decide) (by decide) ?_
    exact Go.retJ d26_16 rfl (by decide) (by decide) ⟨_, rfl, rfl⟩
theorem d27_0 : decode prog_35_method_32_code 0 = .ok (.iload 6, 2) := by decide +kernel
theorem d27_2 : decode prog_35_method_32_code 2 = .ok (.bipush 64, 2) := by decide +kernel
theorem d27_4 : decode prog_35_method_32_code 4 = .ok (.if_icmp .ge 22, 3) := by decide +kernel
theorem d27_7 : decode prog_35_method_32_code 7 = .ok (.lload_n 0, 1) := by decide +kernel
theorem d27_8 : decode prog_35_method_32_code 8 = .ok (.iload 6, 2) := by decide +kernel
theorem d27_10 : decode prog_35_method_32_code 10 = .ok (.lushr, 1) := by decide +kernel
theorem d27_11 : decode prog_35_method_32_code 11 = .ok (.lload_n 2, 1) := by decide +kernel
theorem d27_12 : decode prog_35_method_32_code 12 = .ok (.iconst 1, 1) := by decide +kernel
theorem d27_13 : decode prog_35_method_32_code 13 = .ok (.lshl, 1) := by decide +kernel
theorem d27_14 : decode prog_35_method_32_code 14 = .ok (.bipush 63, 2) := by decide +kernel
theorem d27_16 : decode prog_35_method_32_code 16 = .ok (.iload 6, 2) := by decide +kernel
theorem d27_18 : decode prog_35_method_32_code 18 = .ok (.isub, 1) := by decide +kernel
theorem d27_19 : decode prog_35_method_32_code 19 = .ok (.lshl, 1) := by decide +kernel
theorem d27_20 : decode prog_35_method_32_code 20 = .ok (.lor, 1) := by decide +kernel
theorem d27_21 : decode prog_35_method_32_code 21 = .ok (.lstore 7, 2) := by decide +kernel
theorem d27_23 : decode prog_35_method_32_code 23 = .ok (.goto 45, 3) := by decide +kernel
theorem d27_26 : decode prog_35_method_32_code 26 = .ok (.iload 6, 2) := by decide +kernel
theorem d27_28 : decode prog_35_method_32_code 28 = .ok (.sipush 128, 3) := by decide +kernel
theorem d27_31 : decode prog_35_method_32_code 31 = .ok (.if_icmp .ge 26, 3) := by decide +kernel
theorem d27_34 : decode prog_35_method_32_code 34 = .ok (.lload_n 2, 1) := by decide +kernel
theorem d27_35 : decode prog_35_method_32_code 35 = .ok (.iload 6, 2) := by decide +kernel
theorem d27_37 : decode prog_35_method_32_code 37 = .ok (.bipush 64, 2) := by decide +kernel
theorem d27_39 : decode prog_35_method_32_code 39 = .ok (.isub, 1) := by decide +kernel
theorem d27_40 : decode prog_35_method_32_code 40 = .ok (.lushr, 1) := by decide +kernel
theorem d27_41 : decode prog_35_method_32_code 41 = .ok (.lload 4, 2) := by decide +kernel
theorem d27_43 : decode prog_35_method_32_code 43 = .ok (.iconst 1, 1) := by decide +kernel
theorem d27_44 : decode prog_35_method_32_code 44 = .ok (.lshl, 1) := by decide +kernel
theorem d27_45 : decode prog_35_method_32_code 45 = .ok (.bipush 127, 2) := by decide +kernel
theorem d27_47 : decode prog_35_method_32_code 47 = .ok (.iload 6, 2) := by decide +kernel
theorem d27_49 : decode prog_35_method_32_code 49 = .ok (.isub, 1) := by decide +kernel
theorem d27_50 : decode prog_35_method_32_code 50 = .ok (.lshl, 1) := by decide +kernel
theorem d27_51 : decode prog_35_method_32_code 51 = .ok (.lor, 1) := by decide +kernel
theorem d27_52 : decode prog_35_method_32_code 52 = .ok (.lstore 7, 2) := by decide +kernel
theorem d27_54 : decode prog_35_method_32_code 54 = .ok (.goto 14, 3) := by decide +kernel
theorem d27_57 : decode prog_35_method_32_code 57 = .ok (.lload 4, 2) := by decide +kernel
theorem d27_59 : decode prog_35_method_32_code 59 = .ok (.iload 6, 2) := by decide +kernel
theorem d27_61 : decode prog_35_method_32_code 61 = .ok (.sipush 128, 3) := by decide +kernel
theorem d27_64 : decode prog_35_method_32_code 64 = .ok (.isub, 1) := by decide +kernel
theorem d27_65 : decode prog_35_method_32_code 65 = .ok (.lushr, 1) := by decide +kernel
theorem d27_66 : decode prog_35_method_32_code 66 = .ok (.lstore 7, 2) := by decide +kernel
theorem d27_68 : decode prog_35_method_32_code 68 = .ok (.lload 7, 2) := by decide +kernel
theorem d27_70 : decode prog_35_method_32_code 70 = .ok (.lreturn, 1) := by decide +kernel
theorem pd27 : parseMethodDescriptor "(JJJI)J" = some ⟨[.long, .long, .long, .int], some .long⟩ := by decide +kernel
theorem pn27 : plainFor (⟨"com/example/albatross/albatross/storage/ProducerState", "offsetAfter", "(JJJI)J"⟩ : MethodName) = true := by first | (refine plainFor_of_name ?_; simp [plainName, overriddenIn]; done) | (refine plainFor_of_name ?_; decide +kernel) | decide +kernel
abbrev B27 : Bd := ((⟨"com/example/albatross/albatross/storage/ProducerState", "offsetAfter", "(JJJI)J"⟩ : MethodName), prog_35_method_32_code, 9, (some .long), ({ frames := 0, cells := 0, slots := 0, locals := 0 } : Room), tables_1)
theorem ef27 (mid : MethodId) (a : Int64) (b : Int64) (d : Int64) (e : Int32) : entryFrame mid (List.toArray [.long a, .long b, .long d, .int e]) 9 = mkF mid 0 #[.val (.long a), .second, .val (.long b), .second, .val (.long d), .second, .val (.int e), .unset, .unset] [] := by first | (simp [entryFrame, mkF, argsToLocals, Value.category]; done) | rfl
def Q27 (h0 : Heap) (v : Option Value) (h : Heap) : Prop := ∃ z, v = some (.long z) ∧ h0 = h
set_option maxRecDepth 65536 in
set_option maxHeartbeats 40000000 in
theorem c27 (Z : State) (hw : Wd Z tables_1) (h0 : Heap) (a : Int64) (b : Int64) (d : Int64) (e : Int32)   : Con Z B27 (List.toArray [.long a, .long b, .long d, .int e]) h0 (Q27 h0) := by
  refine Con.mk hw pn27 (fun mid => ef27 mid a b d e) (Go.old fun hle' => ?_)
  have hle := hle'.1
  refine Go.iload 2 rfl d27_0 rfl ?_
  refine Go.bipush 4 rfl (64 : Int32) d27_2 rfl ?_
  refine Go.icmp_ge 26 7 d27_4 (by decide) rfl rfl (fun (b1 : ¬ e < (64 : Int32)) => ?_) (fun (b1 : e < (64 : Int32)) => ?_)
  · refine Go.iload 28 rfl d27_26 rfl ?_
    refine Go.sipush 31 rfl (128 : Int32) d27_28 rfl ?_
    refine Go.icmp_ge 57 34 d27_31 (by decide) rfl rfl (fun (b2 : ¬ e < (128 : Int32)) => ?_) (fun (b2 : e < (128 : Int32)) => ?_)
    · refine Go.lload 59 rfl d27_57 rfl ?_
      refine Go.iload 61 rfl d27_59 rfl ?_
      refine Go.sipush 64 rfl (128 : Int32) d27_61 rfl ?_
      refine Go.isub 65 rfl d27_64 ?_
      refine Go.lushr 66 rfl d27_65 ?_
      refine Go.nameJ fun v3 hv3 => ?_
      refine Go.lstore 68 rfl d27_66 (Ls' := #[.val (.long a), .second, .val (.long b), .second, .val (.long d), .second, .val (.int e), .val (.long v3), .second]) rfl ?_
      refine Go.lload 70 rfl d27_68 rfl ?_
      exact Go.retJ d27_70 rfl (by decide) (by decide) ⟨_, rfl, rfl⟩
    · refine Go.lloadN 35 rfl d27_34 rfl ?_
      refine Go.iload 37 rfl d27_35 rfl ?_
      refine Go.bipush 39 rfl (64 : Int32) d27_37 rfl ?_
      refine Go.isub 40 rfl d27_39 ?_
      refine Go.lushr 41 rfl d27_40 ?_
      refine Go.lload 43 rfl d27_41 rfl ?_
      refine Go.iconst 44 rfl (1 : Int32) d27_43 rfl ?_
      refine Go.lshl 45 rfl d27_44 ?_
      refine Go.bipush 47 rfl (127 : Int32) d27_45 rfl ?_
      refine Go.iload 49 rfl d27_47 rfl ?_
      refine Go.isub 50 rfl d27_49 ?_
      refine Go.lshl 51 rfl d27_50 ?_
      refine Go.lor 52 rfl d27_51 ?_
      refine Go.nameJ fun v4 hv4 => ?_
      refine Go.lstore 54 rfl d27_52 (Ls' := #[.val (.long a), .second, .val (.long b), .second, .val (.long d), .second, .val (.int e), .val (.long v4), .second]) rfl ?_
      refine Go.goto 68 d27_54 (by decide) (by decide) ?_
      refine Go.lload 70 rfl d27_68 rfl ?_
      exact Go.retJ d27_70 rfl (by decide) (by decide) ⟨_, rfl, rfl⟩
  · refine Go.lloadN 8 rfl d27_7 rfl ?_
    refine Go.iload 10 rfl d27_8 rfl ?_
    refine Go.lushr 11 rfl d27_10 ?_
    refine Go.lloadN 12 rfl d27_11 rfl ?_
    refine Go.iconst 13 rfl (1 : Int32) d27_12 rfl ?_
    refine Go.lshl 14 rfl d27_13 ?_
    refine Go.bipush 16 rfl (63 : Int32) d27_14 rfl ?_
    refine Go.iload 18 rfl d27_16 rfl ?_
    refine Go.isub 19 rfl d27_18 ?_
    refine Go.lshl 20 rfl d27_19 ?_
    refine Go.lor 21 rfl d27_20 ?_
    refine Go.nameJ fun v5 hv5 => ?_
    refine Go.lstore 23 rfl d27_21 (Ls' := #[.val (.long a), .second, .val (.long b), .second, .val (.long d), .second, .val (.int e), .val (.long v5), .second]) rfl ?_
    refine Go.goto 68 d27_23 (by decide) (by decide) ?_
    refine Go.lload 70 rfl d27_68 rfl ?_
    exact Go.retJ d27_70 rfl (by decide) (by decide) ⟨_, rfl, rfl⟩
theorem d29_0 : decode jdk_29_method_65_code 0 = .ok (.iload_n 0, 1) := by decide +kernel
theorem d29_1 : decode jdk_29_method_65_code 1 = .ok (.iload_n 1, 1) := by decide +kernel
theorem d29_2 : decode jdk_29_method_65_code 2 = .ok (.if_icmp .lt 7, 3) := by decide +kernel
theorem d29_5 : decode jdk_29_method_65_code 5 = .ok (.iload_n 0, 1) := by decide +kernel
theorem d29_6 : decode jdk_29_method_65_code 6 = .ok (.goto 4, 3) := by decide +kernel
theorem d29_9 : decode jdk_29_method_65_code 9 = .ok (.iload_n 1, 1) := by decide +kernel
theorem d29_10 : decode jdk_29_method_65_code 10 = .ok (.ireturn, 1) := by decide +kernel
theorem pd29 : parseMethodDescriptor "(II)I" = some ⟨[.int, .int], some .int⟩ := by decide +kernel
theorem pn29 : plainFor (⟨"java/lang/Math", "max", "(II)I"⟩ : MethodName) = true := by first | (refine plainFor_of_name ?_; simp [plainName, overriddenIn]; done) | (refine plainFor_of_name ?_; decide +kernel) | decide +kernel
abbrev B29 : Bd := ((⟨"java/lang/Math", "max", "(II)I"⟩ : MethodName), jdk_29_method_65_code, 2, (some .int), ({ frames := 0, cells := 0, slots := 0, locals := 0 } : Room), tables_1)
theorem ef29 (mid : MethodId) (a : Int32) (b : Int32) : entryFrame mid (List.toArray [.int a, .int b]) 2 = mkF mid 0 #[.val (.int a), .val (.int b)] [] := by first | (simp [entryFrame, mkF, argsToLocals, Value.category]; done) | rfl
def Q29 (h0 : Heap) (v : Option Value) (h : Heap) : Prop := ∃ z, v = some (.int z) ∧ h0 = h
set_option maxRecDepth 65536 in
set_option maxHeartbeats 40000000 in
theorem c29 (Z : State) (hw : Wd Z tables_1) (h0 : Heap) (a : Int32) (b : Int32)   : Con Z B29 (List.toArray [.int a, .int b]) h0 (Q29 h0) := by
  refine Con.mk hw pn29 (fun mid => ef29 mid a b) (Go.old fun hle' => ?_)
  have hle := hle'.1
  refine Go.iloadN 1 rfl d29_0 rfl ?_
  refine Go.iloadN 2 rfl d29_1 rfl ?_
  refine Go.icmp_lt 9 5 d29_2 (by decide) rfl rfl (fun (b1 : a < b) => ?_) (fun (b1 : ¬ a < b) => ?_)
  · refine Go.iloadN 10 rfl d29_9 rfl ?_
    exact Go.retI d29_10 rfl (by decide) (by decide) ⟨_, rfl, rfl⟩
  · refine Go.iloadN 6 rfl d29_5 rfl ?_
    refine Go.goto 10 d29_6 (by decide) (by decide) ?_
    exact Go.retI d29_10 rfl (by decide) (by decide) ⟨_, rfl, rfl⟩
theorem d30_0 : decode prog_35_method_28_code 0 = .ok (.lload_n 0, 1) := by decide +kernel
theorem d30_1 : decode prog_35_method_28_code 1 = .ok (.bipush 19, 2) := by decide +kernel
theorem d30_3 : decode prog_35_method_28_code 3 = .ok (.lushr, 1) := by decide +kernel
theorem d30_4 : decode prog_35_method_28_code 4 = .ok (.l2i, 1) := by decide +kernel
theorem d30_5 : decode prog_35_method_28_code 5 = .ok (.ldc 179, 2) := by decide +kernel
theorem d30_7 : decode prog_35_method_28_code 7 = .ok (.iand, 1) := by decide +kernel
theorem d30_8 : decode prog_35_method_28_code 8 = .ok (.ireturn, 1) := by decide +kernel
theorem pd30 : parseMethodDescriptor "(J)I" = some ⟨[.long], some .int⟩ := by decide +kernel
theorem pn30 : plainFor (⟨"com/example/albatross/albatross/storage/ProducerState", "lastSequenceOf", "(J)I"⟩ : MethodName) = true := by first | (refine plainFor_of_name ?_; simp [plainName, overriddenIn]; done) | (refine plainFor_of_name ?_; decide +kernel) | decide +kernel
abbrev B30 : Bd := ((⟨"com/example/albatross/albatross/storage/ProducerState", "lastSequenceOf", "(J)I"⟩ : MethodName), prog_35_method_28_code, 2, (some .int), ({ frames := 0, cells := 0, slots := 0, locals := 0 } : Room), tables_1)
theorem ef30 (mid : MethodId) (a : Int64) : entryFrame mid (List.toArray [.long a]) 2 = mkF mid 0 #[.val (.long a), .second] [] := by first | (simp [entryFrame, mkF, argsToLocals, Value.category]; done) | rfl
def Q30 (h0 : Heap) (v : Option Value) (h : Heap) : Prop := ∃ z, v = some (.int z) ∧ h0 = h
set_option maxRecDepth 65536 in
set_option maxHeartbeats 40000000 in
theorem c30 (Z : State) (hw : Wd Z tables_1) (h0 : Heap) (a : Int64)   : Con Z B30 (List.toArray [.long a]) h0 (Q30 h0) := by
  refine Con.mk hw pn30 (fun mid => ef30 mid a) (Go.old fun hle' => ?_)
  have hle := hle'.1
  refine Go.lloadN 1 rfl d30_0 rfl ?_
  refine Go.bipush 3 rfl (19 : Int32) d30_1 rfl ?_
  refine Go.lushr 4 rfl d30_3 ?_
  refine Go.l2i 5 rfl d30_4 ?_
  refine Go.ldcI 7 rfl (v := (2147483647 : Int32)) 45 d30_5 rfl ?_
  refine Go.iand 8 rfl d30_7 ?_
  exact Go.retI d30_8 rfl (by decide) (by decide) ⟨_, rfl, rfl⟩
theorem d31_0 : decode prog_35_method_27_code 0 = .ok (.lload_n 0, 1) := by decide +kernel
theorem d31_1 : decode prog_35_method_27_code 1 = .ok (.iconst 3, 1) := by decide +kernel
theorem d31_2 : decode prog_35_method_27_code 2 = .ok (.lushr, 1) := by decide +kernel
theorem d31_3 : decode prog_35_method_27_code 3 = .ok (.l2i, 1) := by decide +kernel
theorem d31_4 : decode prog_35_method_27_code 4 = .ok (.i2s, 1) := by decide +kernel
theorem d31_5 : decode prog_35_method_27_code 5 = .ok (.ireturn, 1) := by decide +kernel
theorem pd31 : parseMethodDescriptor "(J)S" = some ⟨[.long], some .short⟩ := by decide +kernel
theorem pn31 : plainFor (⟨"com/example/albatross/albatross/storage/ProducerState", "epochOf", "(J)S"⟩ : MethodName) = true := by first | (refine plainFor_of_name ?_; simp [plainName, overriddenIn]; done) | (refine plainFor_of_name ?_; decide +kernel) | decide +kernel
abbrev B31 : Bd := ((⟨"com/example/albatross/albatross/storage/ProducerState", "epochOf", "(J)S"⟩ : MethodName), prog_35_method_27_code, 2, (some .short), ({ frames := 0, cells := 0, slots := 0, locals := 0 } : Room), tables_1)
theorem ef31 (mid : MethodId) (a : Int64) : entryFrame mid (List.toArray [.long a]) 2 = mkF mid 0 #[.val (.long a), .second] [] := by first | (simp [entryFrame, mkF, argsToLocals, Value.category]; done) | rfl
def Q31 (h0 : Heap) (v : Option Value) (h : Heap) : Prop := ∃ z, v = some (.int z) ∧ h0 = h
set_option maxRecDepth 65536 in
set_option maxHeartbeats 40000000 in
theorem c31 (Z : State) (hw : Wd Z tables_1) (h0 : Heap) (a : Int64)   : Con Z B31 (List.toArray [.long a]) h0 (Q31 h0) := by
  refine Con.mk hw pn31 (fun mid => ef31 mid a) (Go.old fun hle' => ?_)
  have hle := hle'.1
  refine Go.lloadN 1 rfl d31_0 rfl ?_
  refine Go.iconst 2 rfl (3 : Int32) d31_1 rfl ?_
  refine Go.lushr 3 rfl d31_2 ?_
  refine Go.l2i 4 rfl d31_3 ?_
  refine Go.i2s 5 rfl d31_4 ?_
  exact Go.retN (t := .short) (z' := (nar .short (((XT.ushrL a (3 : Int32)).toInt32).toInt16.toInt32))) d31_5 rfl (by decide) rfl (by decide) (by decide) ⟨_, rfl, rfl⟩
theorem d28_0 : decode jdk_29_method_69_code 0 = .ok (.iload_n 0, 1) := by decide +kernel
theorem d28_1 : decode jdk_29_method_69_code 1 = .ok (.iload_n 1, 1) := by decide +kernel
theorem d28_2 : decode jdk_29_method_69_code 2 = .ok (.if_icmp .gt 7, 3) := by decide +kernel
theorem d28_5 : decode jdk_29_method_69_code 5 = .ok (.iload_n 0, 1) := by decide +kernel
theorem d28_6 : decode jdk_29_method_69_code 6 = .ok (.goto 4, 3) := by decide +kernel
theorem d28_9 : decode jdk_29_method_69_code 9 = .ok (.iload_n 1, 1) := by decide +kernel
theorem d28_10 : decode jdk_29_method_69_code 10 = .ok (.ireturn, 1) := by decide +kernel
theorem pd28 : parseMethodDescriptor "(II)I" = some ⟨[.int, .int], some .int⟩ := by decide +kernel
theorem pn28 : plainFor (⟨"java/lang/Math", "min", "(II)I"⟩ : MethodName) = true := by first | (refine plainFor_of_name ?_; simp [plainName, overriddenIn]; done) | (refine plainFor_of_name ?_; decide +kernel) | decide +kernel
abbrev B28 : Bd := ((⟨"java/lang/Math", "min", "(II)I"⟩ : MethodName), jdk_29_method_69_code, 2, (some .int), ({ frames := 0, cells := 0, slots := 0, locals := 0 } : Room), tables_1)
theorem ef28 (mid : MethodId) (a : Int32) : entryFrame mid (List.toArray [.int a, .int (5 : Int32)]) 2 = mkF mid 0 #[.val (.int a), .val (.int (5 : Int32))] [] := by first | (simp [entryFrame, mkF, argsToLocals, Value.category]; done) | rfl
def Q28 (h0 : Heap) (v : Option Value) (h : Heap) : Prop := ∃ z, v = some (.int z) ∧ h0 = h ∧ 1 ≤ z.toInt ∧ z.toInt ≤ 5
set_option maxRecDepth 65536 in
set_option maxHeartbeats 40000000 in
theorem c28 (Z : State) (hw : Wd Z tables_1) (h0 : Heap) (a : Int32)  (ha : 1 ≤ a.toInt) : Con Z B28 (List.toArray [.int a, .int (5 : Int32)]) h0 (Q28 h0) := by
  refine Con.mk hw pn28 (fun mid => ef28 mid a) (Go.old fun hle' => ?_)
  have hle := hle'.1
  refine Go.iloadN 1 rfl d28_0 rfl ?_
  refine Go.iloadN 2 rfl d28_1 rfl ?_
  refine Go.icmp_gt 9 5 d28_2 (by decide) rfl rfl (fun (b1 : (5 : Int32) < a) => ?_) (fun (b1 : ¬ (5 : Int32) < a) => ?_)
  · refine Go.iloadN 10 rfl d28_9 rfl ?_
    exact Go.retI d28_10 rfl (by decide) (by decide) ⟨_, rfl, rfl, by decide, by decide⟩
  · refine Go.iloadN 6 rfl d28_5 rfl ?_
    refine Go.goto 10 d28_6 (by decide) (by decide) ?_
    exact Go.retI d28_10 rfl (by decide) (by decide) ⟨_, rfl, rfl, ha, own_m5 b1⟩
theorem d21_0 : decode prog_35_method_26_code 0 = .ok (.iload_n 0, 1) := by decide +kernel
theorem d21_1 : decode prog_35_method_26_code 1 = .ok (.i2l, 1) := by decide +kernel
theorem d21_2 : decode prog_35_method_26_code 2 = .ok (.iload_n 1, 1) := by decide +kernel
theorem d21_3 : decode prog_35_method_26_code 3 = .ok (.i2l, 1) := by decide +kernel
theorem d21_4 : decode prog_35_method_26_code 4 = .ok (.ldc2_w 190, 3) := by decide +kernel
theorem d21_7 : decode prog_35_method_26_code 7 = .ok (.land, 1) := by decide +kernel
theorem d21_8 : decode prog_35_method_26_code 8 = .ok (.iconst 3, 1) := by decide +kernel
theorem d21_9 : decode prog_35_method_26_code 9 = .ok (.lshl, 1) := by decide +kernel
theorem d21_10 : decode prog_35_method_26_code 10 = .ok (.lor, 1) := by decide +kernel
theorem d21_11 : decode prog_35_method_26_code 11 = .ok (.iload_n 2, 1) := by decide +kernel
theorem d21_12 : decode prog_35_method_26_code 12 = .ok (.i2l, 1) := by decide +kernel
theorem d21_13 : decode prog_35_method_26_code 13 = .ok (.bipush 19, 2) := by decide +kernel
theorem d21_15 : decode prog_35_method_26_code 15 = .ok (.lshl, 1) := by decide +kernel
theorem d21_16 : decode prog_35_method_26_code 16 = .ok (.lor, 1) := by decide +kernel
theorem d21_17 : decode prog_35_method_26_code 17 = .ok (.iload_n 3, 1) := by decide +kernel
theorem d21_18 : decode prog_35_method_26_code 18 = .ok (.i2l, 1) := by decide +kernel
theorem d21_19 : decode prog_35_method_26_code 19 = .ok (.bipush 50, 2) := by decide +kernel
theorem d21_21 : decode prog_35_method_26_code 21 = .ok (.lshl, 1) := by decide +kernel
theorem d21_22 : decode prog_35_method_26_code 22 = .ok (.lor, 1) := by decide +kernel
theorem d21_23 : decode prog_35_method_26_code 23 = .ok (.iload 4, 2) := by decide +kernel
theorem d21_25 : decode prog_35_method_26_code 25 = .ok (.i2l, 1) := by decide +kernel
theorem d21_26 : decode prog_35_method_26_code 26 = .ok (.bipush 55, 2) := by decide +kernel
theorem d21_28 : decode prog_35_method_26_code 28 = .ok (.lshl, 1) := by decide +kernel
theorem d21_29 : decode prog_35_method_26_code 29 = .ok (.lor, 1) := by decide +kernel
theorem d21_30 : decode prog_35_method_26_code 30 = .ok (.iload 5, 2) := by decide +kernel
theorem d21_32 : decode prog_35_method_26_code 32 = .ok (.ifCond .eq 7, 3) := by decide +kernel
theorem d21_35 : decode prog_35_method_26_code 35 = .ok (.lconst 1, 1) := by decide +kernel
theorem d21_36 : decode prog_35_method_26_code 36 = .ok (.goto 4, 3) := by decide +kernel
theorem d21_39 : decode prog_35_method_26_code 39 = .ok (.lconst 0, 1) := by decide +kernel
theorem d21_40 : decode prog_35_method_26_code 40 = .ok (.bipush 61, 2) := by decide +kernel
theorem d21_42 : decode prog_35_method_26_code 42 = .ok (.lshl, 1) := by decide +kernel
theorem d21_43 : decode prog_35_method_26_code 43 = .ok (.lor, 1) := by decide +kernel
theorem d21_44 : decode prog_35_method_26_code 44 = .ok (.lreturn, 1) := by decide +kernel
theorem pd21 : parseMethodDescriptor "(ISIIIZ)J" = some ⟨[.int, .short, .int, .int, .int, .boolean], some .long⟩ := by decide +kernel
theorem pn21 : plainFor (⟨"com/example/albatross/albatross/storage/ProducerState", "header", "(ISIIIZ)J"⟩ : MethodName) = true := by first | (refine plainFor_of_name ?_; simp [plainName, overriddenIn]; done) | (refine plainFor_of_name ?_; decide +kernel) | decide +kernel
abbrev B21 : Bd := ((⟨"com/example/albatross/albatross/storage/ProducerState", "header", "(ISIIIZ)J"⟩ : MethodName), prog_35_method_26_code, 6, (some .long), ({ frames := 0, cells := 0, slots := 0, locals := 0 } : Room), tables_1)
theorem ef21 (mid : MethodId) (a : Int32) (b : Int32) (d : Int32) (e : Int32) (f : Int32) (g : Int32) : entryFrame mid (List.toArray [.int a, .int b, .int d, .int e, .int f, .int g]) 6 = mkF mid 0 #[.val (.int a), .val (.int b), .val (.int d), .val (.int e), .val (.int f), .val (.int g)] [] := by first | (simp [entryFrame, mkF, argsToLocals, Value.category]; done) | rfl
def Q21 (h0 : Heap) (v : Option Value) (h : Heap) : Prop := ∃ z, v = some (.long z) ∧ h0 = h ∧ ¬ z &&& 7 = 0
set_option maxRecDepth 65536 in
set_option maxHeartbeats 40000000 in
theorem c21 (Z : State) (hw : Wd Z tables_1) (h0 : Heap) (a : Int32) (b : Int32) (d : Int32) (e : Int32) (f : Int32) (g : Int32)  (h1 : 1 ≤ a.toInt) (h2 : a.toInt ≤ 5) : Con Z B21 (List.toArray [.int a, .int b, .int d, .int e, .int f, .int g]) h0 (Q21 h0) := by
  refine Con.mk hw pn21 (fun mid => ef21 mid a b d e f g) (Go.old fun hle' => ?_)
  have hle := hle'.1
  refine Go.iloadN 1 rfl d21_0 rfl ?_
  refine Go.i2l 2 rfl d21_1 ?_
  refine Go.iloadN 3 rfl d21_2 rfl ?_
  refine Go.i2l 4 rfl d21_3 ?_
  refine Go.ldc2J 7 rfl (v := (65535 : Int64)) 109 d21_4 rfl ?_
  refine Go.land 8 rfl d21_7 ?_
  refine Go.iconst 9 rfl (3 : Int32) d21_8 rfl ?_
  refine Go.lshl 10 rfl d21_9 ?_
  refine Go.lor 11 rfl d21_10 ?_
  refine Go.iloadN 12 rfl d21_11 rfl ?_
  refine Go.i2l 13 rfl d21_12 ?_
  refine Go.bipush 15 rfl (19 : Int32) d21_13 rfl ?_
  refine Go.lshl 16 rfl d21_15 ?_
  refine Go.lor 17 rfl d21_16 ?_
  refine Go.iloadN 18 rfl d21_17 rfl ?_
  refine Go.i2l 19 rfl d21_18 ?_
  refine Go.bipush 21 rfl (50 : Int32) d21_19 rfl ?_
  refine Go.lshl 22 rfl d21_21 ?_
  refine Go.lor 23 rfl d21_22 ?_
  refine Go.iload 25 rfl d21_23 rfl ?_
  refine Go.i2l 26 rfl d21_25 ?_
  refine Go.bipush 28 rfl (55 : Int32) d21_26 rfl ?_
  refine Go.lshl 29 rfl d21_28 ?_
  refine Go.lor 30 rfl d21_29 ?_
  refine Go.iload 32 rfl d21_30 rfl ?_
  refine Go.if_eq 39 35 d21_32 (by decide) rfl rfl (fun (b1 : g = 0) => ?_) (fun (b1 : ¬ g = 0) => ?_)
  · refine Go.lconst 40 rfl (0 : Int64) d21_39 rfl ?_
    refine Go.bipush 42 rfl (61 : Int32) d21_40 rfl ?_
    refine Go.lshl 43 rfl d21_42 ?_
    refine Go.lor 44 rfl d21_43 ?_
    exact Go.retJ d21_44 rfl (by decide) (by decide) ⟨_, rfl, rfl, own_hd h1 h2⟩
  · refine Go.lconst 36 rfl (1 : Int64) d21_35 rfl ?_
    refine Go.goto 40 d21_36 (by decide) (by decide) ?_
    refine Go.bipush 42 rfl (61 : Int32) d21_40 rfl ?_
    refine Go.lshl 43 rfl d21_42 ?_
    refine Go.lor 44 rfl d21_43 ?_
    exact Go.retJ d21_44 rfl (by decide) (by decide) ⟨_, rfl, rfl, own_hd h1 h2⟩
theorem d14_0 : decode prog_35_method_20_code 0 = .ok (.aload_n 0, 1) := by decide +kernel
theorem d14_1 : decode prog_35_method_20_code 1 = .ok (.getfield 17, 3) := by decide +kernel
theorem d14_4 : decode prog_35_method_20_code 4 = .ok (.iload_n 1, 1) := by decide +kernel
theorem d14_5 : decode prog_35_method_20_code 5 = .ok (.iaload, 1) := by decide +kernel
theorem d14_6 : decode prog_35_method_20_code 6 = .ok (.aload_n 0, 1) := by decide +kernel
theorem d14_7 : decode prog_35_method_20_code 7 = .ok (.getfield 13, 3) := by decide +kernel
theorem d14_10 : decode prog_35_method_20_code 10 = .ok (.iload_n 1, 1) := by decide +kernel
theorem d14_11 : decode prog_35_method_20_code 11 = .ok (.iaload, 1) := by decide +kernel
theorem d14_12 : decode prog_35_method_20_code 12 = .ok (.isub, 1) := by decide +kernel
theorem d14_13 : decode prog_35_method_20_code 13 = .ok (.ldc 179, 2) := by decide +kernel
theorem d14_15 : decode prog_35_method_20_code 15 = .ok (.iand, 1) := by decide +kernel
theorem d14_16 : decode prog_35_method_20_code 16 = .ok (.ireturn, 1) := by decide +kernel
theorem pd14 : parseMethodDescriptor "(I)I" = some ⟨[.int], some .int⟩ := by decide +kernel
theorem pn14 : plainFor (⟨"com/example/albatross/albatross/storage/ProducerState", "lessOne", "(I)I"⟩ : MethodName) = true := by first | (refine plainFor_of_name ?_; simp [plainName, overriddenIn]; done) | (refine plainFor_of_name ?_; decide +kernel) | decide +kernel
abbrev B14 : Bd := ((⟨"com/example/albatross/albatross/storage/ProducerState", "lessOne", "(I)I"⟩ : MethodName), prog_35_method_20_code, 2, (some .int), ({ frames := 0, cells := 0, slots := 0, locals := 0 } : Room), tables_1)
theorem ef14 (mid : MethodId) (a : Addr) (j : Int32) : entryFrame mid (List.toArray [.ref a, .int j]) 2 = mkF mid 0 #[.val (.ref a), .val (.int j)] [] := by first | (simp [entryFrame, mkF, argsToLocals, Value.category]; done) | rfl
def Q14 (h0 : Heap) (v : Option Value) (h : Heap) : Prop := ∃ z, v = some (.int z) ∧ h0 = h
set_option maxRecDepth 65536 in
set_option maxHeartbeats 40000000 in
theorem c14 (Z : State) (hw : Wd Z tables_1) (h0 : Heap) (a : Addr) (j : Int32)  (fa : Addr) (la : Addr) (ba : Addr) (R : Int32) (e0 : Int32) (xs : List Int32) (ys : List Int32) (zs : List Int64) (jn : Nat) (hj : j.toInt = jn) (hlt : jn < 5) (P0 : Pt0 Z a fa la ba) (S : ST Z h0 a fa la ba R e0 xs ys zs) : Con Z B14 (List.toArray [.ref a, .int j]) h0 (Q14 h0) := by
  refine Con.mk hw pn14 (fun mid => ef14 mid a j) (Go.old fun hle' => ?_)
  have hle := hle'.1
  obtain ⟨E1, F2, F3, F4, F5, F6, A7, A8, A9, l10, l11, l12⟩ := S
  obtain ⟨pg1, pg2, pg3, pg4, pn1, pn2, pn3, pn4, pn5, pn6⟩ := id P0
  refine Go.aloadN 1 rfl d14_0 rfl rfl ?_
  refine Go.getF 4 rfl (v := .ref la) 13 d14_1 rfl F3 ?_
  refine Go.iloadN 5 rfl d14_4 rfl ?_
  refine Go.iaload 6 rfl (ys.getD jn 0) d14_5 A8 jn hj (IL.get l11 hlt) ?_
  refine Go.aloadN 7 rfl d14_6 rfl rfl ?_
  refine Go.getF 10 rfl (v := .ref fa) 11 d14_7 rfl F2 ?_
  refine Go.iloadN 11 rfl d14_10 rfl ?_
  refine Go.iaload 12 rfl (xs.getD jn 0) d14_11 A7 jn hj (IL.get l10 hlt) ?_
  refine Go.isub 13 rfl d14_12 ?_
  refine Go.ldcI 15 rfl (v := (2147483647 : Int32)) 45 d14_13 rfl ?_
  refine Go.iand 16 rfl d14_15 ?_
  exact Go.retI d14_16 rfl (by decide) (by decide) ⟨_, rfl, rfl⟩
theorem d13_0 : decode prog_35_method_21_code 0 = .ok (.aload_n 0, 1) := by decide +kernel
theorem d13_1 : decode prog_35_method_21_code 1 = .ok (.getfield 20, 3) := by decide +kernel
theorem d13_4 : decode prog_35_method_21_code 4 = .ok (.iload_n 1, 1) := by decide +kernel
theorem d13_5 : decode prog_35_method_21_code 5 = .ok (.iconst 1, 1) := by decide +kernel
theorem d13_6 : decode prog_35_method_21_code 6 = .ok (.iadd, 1) := by decide +kernel
theorem d13_7 : decode prog_35_method_21_code 7 = .ok (.laload, 1) := by decide +kernel
theorem d13_8 : decode prog_35_method_21_code 8 = .ok (.aload_n 0, 1) := by decide +kernel
theorem d13_9 : decode prog_35_method_21_code 9 = .ok (.getfield 20, 3) := by decide +kernel
theorem d13_12 : decode prog_35_method_21_code 12 = .ok (.iload_n 1, 1) := by decide +kernel
theorem d13_13 : decode prog_35_method_21_code 13 = .ok (.laload, 1) := by decide +kernel
theorem d13_14 : decode prog_35_method_21_code 14 = .ok (.lsub, 1) := by decide +kernel
theorem d13_15 : decode prog_35_method_21_code 15 = .ok (.aload_n 0, 1) := by decide +kernel
theorem d13_16 : decode prog_35_method_21_code 16 = .ok (.iload_n 1, 1) := by decide +kernel
theorem d13_17 : decode prog_35_method_21_code 17 = .ok (.invokevirtual 101, 3) := by decide +kernel
theorem d13_20 : decode prog_35_method_21_code 20 = .ok (.i2l, 1) := by decide +kernel
theorem d13_21 : decode prog_35_method_21_code 21 = .ok (.lsub, 1) := by decide +kernel
theorem d13_22 : decode prog_35_method_21_code 22 = .ok (.lconst 1, 1) := by decide +kernel
theorem d13_23 : decode prog_35_method_21_code 23 = .ok (.lsub, 1) := by decide +kernel
theorem d13_24 : decode prog_35_method_21_code 24 = .ok (.lreturn, 1) := by decide +kernel
theorem pd13 : parseMethodDescriptor "(I)J" = some ⟨[.int], some .long⟩ := by decide +kernel
theorem pn13 : plainFor (⟨"com/example/albatross/albatross/storage/ProducerState", "gapAfter", "(I)J"⟩ : MethodName) = true := by first | (refine plainFor_of_name ?_; simp [plainName, overriddenIn]; done) | (refine plainFor_of_name ?_; decide +kernel) | decide +kernel
abbrev B13 : Bd := ((⟨"com/example/albatross/albatross/storage/ProducerState", "gapAfter", "(I)J"⟩ : MethodName), prog_35_method_21_code, 2, (some .long), ({ frames := 1, cells := 0, slots := 0, locals := 15 } : Room), tables_1)
theorem ef13 (mid : MethodId) (a : Addr) (j : Int32) : entryFrame mid (List.toArray [.ref a, .int j]) 2 = mkF mid 0 #[.val (.ref a), .val (.int j)] [] := by first | (simp [entryFrame, mkF, argsToLocals, Value.category]; done) | rfl
def Q13 (h0 : Heap) (v : Option Value) (h : Heap) : Prop := ∃ z, v = some (.long z) ∧ h0 = h
set_option maxRecDepth 65536 in
set_option maxHeartbeats 40000000 in
theorem c13 (Z : State) (hw : Wd Z tables_1) (h0 : Heap) (a : Addr) (j : Int32)  (fa : Addr) (la : Addr) (ba : Addr) (R : Int32) (e0 : Int32) (xs : List Int32) (ys : List Int32) (zs : List Int64) (jn : Nat) (hj : j.toInt = jn) (hlt : jn + 1 < 5) (P0 : Pt0 Z a fa la ba) (S : ST Z h0 a fa la ba R e0 xs ys zs) : Con Z B13 (List.toArray [.ref a, .int j]) h0 (Q13 h0) := by
  refine Con.mk hw pn13 (fun mid => ef13 mid a j) (Go.old fun hle' => ?_)
  have hle := hle'.1
  obtain ⟨E1, F2, F3, F4, F5, F6, A7, A8, A9, l10, l11, l12⟩ := id S
  obtain ⟨pg1, pg2, pg3, pg4, pn1, pn2, pn3, pn4, pn5, pn6⟩ := id P0
  refine Go.aloadN 1 rfl d13_0 rfl rfl ?_
  refine Go.getF 4 rfl (v := .ref ba) 15 d13_1 rfl F4 ?_
  refine Go.iloadN 5 rfl d13_4 rfl ?_
  refine Go.iconst 6 rfl (1 : Int32) d13_5 rfl ?_
  refine Go.iadd 7 rfl d13_6 ?_
  refine Go.laload 8 rfl (zs.getD (jn + 1) 0) d13_7 A9 (jn + 1) (own_sm hj (k := 1) rfl (by omega) (by decide)) (JL.get l12 hlt) ?_
  refine Go.aloadN 9 rfl d13_8 rfl rfl ?_
  refine Go.getF 12 rfl (v := .ref ba) 15 d13_9 rfl F4 ?_
  refine Go.iloadN 13 rfl d13_12 rfl ?_
  refine Go.laload 14 rfl (zs.getD jn 0) d13_13 A9 jn hj (JL.get l12 (Nat.lt_of_succ_lt hlt)) ?_
  refine Go.lsub 15 rfl d13_14 ?_
  refine Go.aloadN 16 rfl d13_15 rfl rfl ?_
  refine Go.iloadN 17 rfl d13_16 rfl ?_
  refine Go.callP2 20 rfl (C := B14) a [.int j] (rest := [.long ((zs.getD (jn + 1) 0) - (zs.getD jn 0))]) 81 82 2 83 3 84 (c14 Z hw h0 a j fa la ba R e0 xs ys zs jn hj (Nat.lt_of_succ_lt hlt) P0 S) E1 d13_17 rfl rfl rfl rfl rfl rfl (by decide) pd14 rfl rfl rfl (W := 2) (Nat.le_of_ble_eq_true rfl) (by decide) (by decide) (by decide) (by decide) fun v13 h14 q15 => ?_
  obtain ⟨y16, rfl, rfl⟩ := q15
  refine Go.i2l 21 rfl d13_20 ?_
  refine Go.lsub 22 rfl d13_21 ?_
  refine Go.lconst 23 rfl (1 : Int64) d13_22 rfl ?_
  refine Go.lsub 24 rfl d13_23 ?_
  exact Go.retJ d13_24 rfl (by decide) (by decide) ⟨_, rfl, rfl⟩
theorem d1_0 : decode prog_35_method_1_code 0 = .ok (.aload_n 0, 1) := by decide +kernel
theorem d1_1 : decode prog_35_method_1_code 1 = .ok (.invokespecial 7, 3) := by decide +kernel
theorem d1_4 : decode prog_35_method_1_code 4 = .ok (.aload_n 0, 1) := by decide +kernel
theorem d1_5 : decode prog_35_method_1_code 5 = .ok (.iconst 5, 1) := by decide +kernel
theorem d1_6 : decode prog_35_method_1_code 6 = .ok (.newarray .int, 2) := by decide +kernel
theorem d1_8 : decode prog_35_method_1_code 8 = .ok (.putfield 13, 3) := by decide +kernel
theorem d1_11 : decode prog_35_method_1_code 11 = .ok (.aload_n 0, 1) := by decide +kernel
theorem d1_12 : decode prog_35_method_1_code 12 = .ok (.iconst 5, 1) := by decide +kernel
theorem d1_13 : decode prog_35_method_1_code 13 = .ok (.newarray .int, 2) := by decide +kernel
theorem d1_15 : decode prog_35_method_1_code 15 = .ok (.putfield 17, 3) := by decide +kernel
theorem d1_18 : decode prog_35_method_1_code 18 = .ok (.aload_n 0, 1) := by decide +kernel
theorem d1_19 : decode prog_35_method_1_code 19 = .ok (.iconst 5, 1) := by decide +kernel
theorem d1_20 : decode prog_35_method_1_code 20 = .ok (.newarray .long, 2) := by decide +kernel
theorem d1_22 : decode prog_35_method_1_code 22 = .ok (.putfield 20, 3) := by decide +kernel
theorem d1_25 : decode prog_35_method_1_code 25 = .ok (.return_, 1) := by decide +kernel
theorem pd1 : parseMethodDescriptor "()V" = some ⟨[], none⟩ := by decide +kernel
theorem pn1 : plainFor (⟨"com/example/albatross/albatross/storage/ProducerState", "<init>", "()V"⟩ : MethodName) = true := by first | (refine plainFor_of_name ?_; simp [plainName, overriddenIn]; done) | (refine plainFor_of_name ?_; decide +kernel) | decide +kernel
abbrev B1 : Bd := ((⟨"com/example/albatross/albatross/storage/ProducerState", "<init>", "()V"⟩ : MethodName), prog_35_method_1_code, 1, none, ({ frames := 1, cells := 3, slots := 15, locals := 12 } : Room), tables_1)
theorem ef1 (mid : MethodId) (a : Addr) : entryFrame mid (List.toArray [.ref a]) 1 = mkF mid 0 #[.val (.ref a)] [] := by first | (simp [entryFrame, mkF, argsToLocals, Value.category]; done) | rfl
def Q1 (Z : State) (a : Addr) (h0 : Heap) (v : Option Value) (h : Heap) : Prop := v = none ∧ ∃ fa la ba, Keep h0 h [a] ∧ h0.size ≤ fa ∧ h0.size ≤ la ∧ h0.size ≤ ba ∧ Pt0 Z a fa la ba ∧ ST Z h a fa la ba 0 0 [0, 0, 0, 0, 0] [0, 0, 0, 0, 0] [0, 0, 0, 0, 0]
set_option maxRecDepth 65536 in
set_option maxHeartbeats 40000000 in
theorem c1 (Z : State) (hw : Wd Z tables_1) (h0 : Heap) (a : Addr)  (hge : Z.heap.size ≤ a) (hE : Exa Z h0 a "com/example/albatross/albatross/storage/ProducerState") (hF_firstSequences : Fld Z h0 a "com/example/albatross/albatross/storage/ProducerState" "firstSequences" "[I" (.null)) (hF_lastSequences : Fld Z h0 a "com/example/albatross/albatross/storage/ProducerState" "lastSequences" "[I" (.null)) (hF_baseOffsets : Fld Z h0 a "com/example/albatross/albatross/storage/ProducerState" "baseOffsets" "[J" (.null)) (hF_r : Fld Z h0 a "com/example/albatross/albatross/storage/ProducerState" "remembered" "I" (.int (0 : Int32))) (hF_e : Fld Z h0 a "com/example/albatross/albatross/storage/ProducerState" "epoch" "S" (.int (0 : Int32))) : Con Z B1 (List.toArray [.ref a]) h0 (Q1 Z a h0) := by
  refine Con.mk hw pn1 (fun mid => ef1 mid a) (Go.old fun hle' => ?_)
  have hle := hle'.1
  refine Go.aloadN 1 rfl d1_0 rfl rfl ?_
  refine Go.initO 4 rfl 7 8 9 d1_1 rfl rfl rfl rfl (by decide) (W := 0) (Nat.le_of_ble_eq_true rfl) (by decide) ?_
  refine Go.aloadN 5 rfl d1_4 rfl rfl ?_
  refine Go.iconst 6 rfl (5 : Int32) d1_5 rfl ?_
  refine Go.newA 8 rfl 10 5 5 d1_6 rfl rfl (by decide) (by decide) (by decide) (by decide) fun h2 a1 g3 z4 K5 A6 E7 => ?_
  have A8 : Ary Z h2 a1 .int [.int 0, .int 0, .int 0, .int 0, .int 0] := A6
  have F9 : Fld Z h2 a "com/example/albatross/albatross/storage/ProducerState" "firstSequences" "[I" (.null) := (hF_firstSequences.keep K5 nin0)
  have F10 : Exa Z h2 a "com/example/albatross/albatross/storage/ProducerState" := (hE.keep K5)
  refine Go.putF 11 rfl (v' := .ref a1) (ty := (.array .int)) 11 12 2 d1_8 rfl F9 F10 (Or.inr ⟨rfl, rfl, rfl⟩) rfl (by decide) rfl rfl hge fun h11 K12 W13 F14 => ?_
  refine Go.aloadN 12 rfl d1_11 rfl rfl ?_
  refine Go.iconst 13 rfl (5 : Int32) d1_12 rfl ?_
  refine Go.newA 15 rfl 10 5 5 d1_13 rfl rfl (by decide) (by decide) (by decide) (by decide) fun h16 a15 g17 z18 K19 A20 E21 => ?_
  have A22 : Ary Z h16 a15 .int [.int 0, .int 0, .int 0, .int 0, .int 0] := A20
  have F23 : Fld Z h16 a "com/example/albatross/albatross/storage/ProducerState" "lastSequences" "[I" (.null) := ((Fld.oth hw (hF_lastSequences.keep K5 nin0) W13 14 12 (Or.inr rfl) (Or.inr rfl) (by decide) rfl rfl).keep K19 nin0)
  have F24 : Exa Z h16 a "com/example/albatross/albatross/storage/ProducerState" := ((F10.keep K12).keep K19)
  refine Go.putF 18 rfl (v' := .ref a15) (ty := (.array .int)) 13 14 2 d1_15 rfl F23 F24 (Or.inr ⟨rfl, rfl, rfl⟩) rfl (by decide) rfl rfl hge fun h25 K26 W27 F28 => ?_
  refine Go.aloadN 19 rfl d1_18 rfl rfl ?_
  refine Go.iconst 20 rfl (5 : Int32) d1_19 rfl ?_
  refine Go.newA 22 rfl 0 5 5 d1_20 rfl rfl (by decide) (by decide) (by decide) (by decide) fun h30 a29 g31 z32 K33 A34 E35 => ?_
  have A36 : Ary Z h30 a29 .long [.long 0, .long 0, .long 0, .long 0, .long 0] := A34
  have F37 : Fld Z h30 a "com/example/albatross/albatross/storage/ProducerState" "baseOffsets" "[J" (.null) := ((Fld.oth hw ((Fld.oth hw (hF_baseOffsets.keep K5 nin0) W13 16 12 (Or.inr rfl) (Or.inr rfl) (by decide) rfl rfl).keep K19 nin0) W27 16 14 (Or.inr rfl) (Or.inr rfl) (by decide) rfl rfl).keep K33 nin0)
  have F38 : Exa Z h30 a "com/example/albatross/albatross/storage/ProducerState" := ((F24.keep K26).keep K33)
  refine Go.putF 25 rfl (v' := .ref a29) (ty := (.array .long)) 15 16 2 d1_22 rfl F37 F38 (Or.inr ⟨rfl, rfl, rfl⟩) rfl (by decide) rfl rfl hge fun h39 K40 W41 F42 => ?_
  have ne43 : a ≠ a1 := (show @Ne Nat a a1 from by have := ltN hE.lt; have := g3; omega)
  have ne44 : a ≠ a15 := (show @Ne Nat a a15 from by have := ltN F14.lt; have := g17; omega)
  have ne45 : a ≠ a29 := (show @Ne Nat a a29 from by have := ltN F28.lt; have := g31; omega)
  have ne46 : a1 ≠ a15 := (show @Ne Nat a1 a15 from by have := ltN A8.lt; have := K12.1; have := g17; omega)
  have ne47 : a1 ≠ a29 := (show @Ne Nat a1 a29 from by have := ltN A8.lt; have := K12.1; have := K19.1; have := K26.1; have := g31; omega)
  have ne48 : a15 ≠ a29 := (show @Ne Nat a15 a29 from by have := ltN A22.lt; have := K26.1; have := g31; omega)
  have F49 : Exa Z h39 a "com/example/albatross/albatross/storage/ProducerState" := (F38.keep K40)
  have F50 : Fld Z h39 a "com/example/albatross/albatross/storage/ProducerState" "firstSequences" "[I" (.ref a1) := (Fld.oth hw ((Fld.oth hw (F14.keep K19 nin0) W27 12 14 (Or.inr rfl) (Or.inr rfl) (by decide) rfl rfl).keep K33 nin0) W41 12 16 (Or.inr rfl) (Or.inr rfl) (by decide) rfl rfl)
  have F51 : Fld Z h39 a "com/example/albatross/albatross/storage/ProducerState" "lastSequences" "[I" (.ref a15) := (Fld.oth hw (F28.keep K33 nin0) W41 14 16 (Or.inr rfl) (Or.inr rfl) (by decide) rfl rfl)
  have F52 : Fld Z h39 a "com/example/albatross/albatross/storage/ProducerState" "remembered" "I" (.int (0 : Int32)) := (Fld.oth hw ((Fld.oth hw ((Fld.oth hw (hF_r.keep K5 nin0) W13 24 12 (Or.inl rfl) (Or.inr rfl) (by decide) rfl rfl).keep K19 nin0) W27 24 14 (Or.inl rfl) (Or.inr rfl) (by decide) rfl rfl).keep K33 nin0) W41 24 16 (Or.inl rfl) (Or.inr rfl) (by decide) rfl rfl)
  have F53 : Fld Z h39 a "com/example/albatross/albatross/storage/ProducerState" "epoch" "S" (.int (0 : Int32)) := (Fld.oth hw ((Fld.oth hw ((Fld.oth hw (hF_e.keep K5 nin0) W13 65 12 (Or.inl rfl) (Or.inr rfl) (by decide) rfl rfl).keep K19 nin0) W27 65 14 (Or.inl rfl) (Or.inr rfl) (by decide) rfl rfl).keep K33 nin0) W41 65 16 (Or.inl rfl) (Or.inr rfl) (by decide) rfl rfl)
  have F54 : Ary Z h39 a1 .int [.int 0, .int 0, .int 0, .int 0, .int 0] := (((((A8.keep K12 (ninS (Ne.symm ne43) nin0)).keep K19 nin0).keep K26 (ninS (Ne.symm ne43) nin0)).keep K33 nin0).keep K40 (ninS (Ne.symm ne43) nin0))
  have F55 : Ary Z h39 a15 .int [.int 0, .int 0, .int 0, .int 0, .int 0] := (((A22.keep K26 (ninS (Ne.symm ne44) nin0)).keep K33 nin0).keep K40 (ninS (Ne.symm ne44) nin0))
  have F56 : Ary Z h39 a29 .long [.long 0, .long 0, .long 0, .long 0, .long 0] := (A36.keep K40 (ninS (Ne.symm ne45) nin0))
  exact Go.retV d1_25 rfl (by decide) (by decide) ⟨rfl, a1, a15, a29, (((((((Keep.refl h0 [a]).trans K5 all0).trans K12 (by simp)).trans K19 all0).trans K26 (by simp)).trans K33 all0).trans K40 (by simp)), (by have := g3; omega), (by have := g17; have := K5.1; have := K12.1; omega), (by have := g31; have := K5.1; have := K12.1; have := K19.1; have := K26.1; omega), ⟨hge, z4, z18, z32, ne43, ne44, ne45, ne46, ne47, ne48⟩, ⟨F49, F50, F51, F42, F52, F53, F54, F55, F56, rfl, rfl, rfl⟩⟩
theorem d11_0 : decode prog_35_method_19_code 0 = .ok (.aload_n 0, 1) := by decide +kernel
theorem d11_1 : decode prog_35_method_19_code 1 = .ok (.getfield 28, 3) := by decide +kernel
theorem d11_4 : decode prog_35_method_19_code 4 = .ok (.iconst 5, 1) := by decide +kernel
theorem d11_5 : decode prog_35_method_19_code 5 = .ok (.if_icmp .ne 55, 3) := by decide +kernel
theorem d11_60 : decode prog_35_method_19_code 60 = .ok (.aload_n 0, 1) := by decide +kernel
theorem d11_61 : decode prog_35_method_19_code 61 = .ok (.getfield 13, 3) := by decide +kernel
theorem d11_64 : decode prog_35_method_19_code 64 = .ok (.aload_n 0, 1) := by decide +kernel
theorem d11_65 : decode prog_35_method_19_code 65 = .ok (.getfield 28, 3) := by decide +kernel
theorem d11_68 : decode prog_35_method_19_code 68 = .ok (.iload_n 1, 1) := by decide +kernel
theorem d11_69 : decode prog_35_method_19_code 69 = .ok (.iastore, 1) := by decide +kernel
theorem d11_70 : decode prog_35_method_19_code 70 = .ok (.aload_n 0, 1) := by decide +kernel
theorem d11_71 : decode prog_35_method_19_code 71 = .ok (.getfield 17, 3) := by decide +kernel
theorem d11_74 : decode prog_35_method_19_code 74 = .ok (.aload_n 0, 1) := by decide +kernel
theorem d11_75 : decode prog_35_method_19_code 75 = .ok (.getfield 28, 3) := by decide +kernel
theorem d11_78 : decode prog_35_method_19_code 78 = .ok (.iload_n 2, 1) := by decide +kernel
theorem d11_79 : decode prog_35_method_19_code 79 = .ok (.iastore, 1) := by decide +kernel
theorem d11_80 : decode prog_35_method_19_code 80 = .ok (.aload_n 0, 1) := by decide +kernel
theorem d11_81 : decode prog_35_method_19_code 81 = .ok (.getfield 20, 3) := by decide +kernel
theorem d11_84 : decode prog_35_method_19_code 84 = .ok (.aload_n 0, 1) := by decide +kernel
theorem d11_85 : decode prog_35_method_19_code 85 = .ok (.getfield 28, 3) := by decide +kernel
theorem d11_88 : decode prog_35_method_19_code 88 = .ok (.lload_n 3, 1) := by decide +kernel
theorem d11_89 : decode prog_35_method_19_code 89 = .ok (.lastore, 1) := by decide +kernel
theorem d11_90 : decode prog_35_method_19_code 90 = .ok (.aload_n 0, 1) := by decide +kernel
theorem d11_91 : decode prog_35_method_19_code 91 = .ok (.dup, 1) := by decide +kernel
theorem d11_92 : decode prog_35_method_19_code 92 = .ok (.getfield 28, 3) := by decide +kernel
theorem d11_95 : decode prog_35_method_19_code 95 = .ok (.iconst 1, 1) := by decide +kernel
theorem d11_96 : decode prog_35_method_19_code 96 = .ok (.iadd, 1) := by decide +kernel
theorem d11_97 : decode prog_35_method_19_code 97 = .ok (.putfield 28, 3) := by decide +kernel
theorem d11_100 : decode prog_35_method_19_code 100 = .ok (.return_, 1) := by decide +kernel
theorem pd11 : parseMethodDescriptor "(IIJ)V" = some ⟨[.int, .int, .long], none⟩ := by decide +kernel
theorem pn11 : plainFor (⟨"com/example/albatross/albatross/storage/ProducerState", "add", "(IIJ)V"⟩ : MethodName) = true := by first | (refine plainFor_of_name ?_; simp [plainName, overriddenIn]; done) | (refine plainFor_of_name ?_; decide +kernel) | decide +kernel
abbrev B11 : Bd := ((⟨"com/example/albatross/albatross/storage/ProducerState", "add", "(IIJ)V"⟩ : MethodName), prog_35_method_19_code, 5, none, ({ frames := 0, cells := 0, slots := 0, locals := 0 } : Room), tables_1)
theorem ef11r0 (mid : MethodId) (a : Addr) (f : Int32) (l : Int32) (o : Int64) : entryFrame mid (List.toArray [.ref a, .int f, .int l, .long o]) 5 = mkF mid 0 #[.val (.ref a), .val (.int f), .val (.int l), .val (.long o), .second] [] := by first | (simp [entryFrame, mkF, argsToLocals, Value.category]; done) | rfl
def Q11r0 (Z : State) (a : Addr) (fa : Addr) (la : Addr) (ba : Addr) (e0 : Int32) (xs : List Int32) (ys : List Int32) (zs : List Int64) (f : Int32) (l : Int32) (o : Int64) (h0 : Heap) (v : Option Value) (h : Heap) : Prop := v = none ∧ Keep h0 h [a, fa, la, ba] ∧ ST Z h a fa la ba 1 e0 (xs.set 0 f) (ys.set 0 l) (zs.set 0 o)
set_option maxRecDepth 65536 in
set_option maxHeartbeats 40000000 in
theorem c11r0 (Z : State) (hw : Wd Z tables_1) (h0 : Heap) (a : Addr) (f : Int32) (l : Int32) (o : Int64) (fa : Addr) (la : Addr) (ba : Addr) (e0 : Int32) (xs : List Int32) (ys : List Int32) (zs : List Int64) (P0 : Pt0 Z a fa la ba) (S : ST Z h0 a fa la ba (0 : Int32) e0 xs ys zs) : Con Z B11 (List.toArray [.ref a, .int f, .int l, .long o]) h0 (Q11r0 Z a fa la ba e0 xs ys zs f l o h0) := by
  refine Con.mk hw pn11 (fun mid => ef11r0 mid a f l o) (Go.old fun hle' => ?_)
  have hle := hle'.1
  obtain ⟨E1, F2, F3, F4, F5, F6, A7, A8, A9, l10, l11, l12⟩ := S
  obtain ⟨pg1, pg2, pg3, pg4, pn1, pn2, pn3, pn4, pn5, pn6⟩ := id P0
  refine Go.aloadN 1 rfl d11_0 rfl rfl ?_
  refine Go.getF 4 rfl (v := .int (0 : Int32)) 23 d11_1 rfl F5 ?_
  refine Go.iconst 5 rfl (5 : Int32) d11_4 rfl ?_
  refine Go.icmp_ne 60 8 d11_5 (by decide) rfl rfl (fun (b13 : ¬ (0 : Int32) = (5 : Int32)) => ?_) (fun (b13 : (0 : Int32) = (5 : Int32)) => ?_)
  · refine Go.aloadN 61 rfl d11_60 rfl rfl ?_
    refine Go.getF 64 rfl (v := .ref fa) 11 d11_61 rfl F2 ?_
    refine Go.aloadN 65 rfl d11_64 rfl rfl ?_
    refine Go.getF 68 rfl (v := .int (0 : Int32)) 23 d11_65 rfl F5 ?_
    refine Go.iloadN 69 rfl d11_68 rfl ?_
    refine Go.stI 70 rfl d11_69 A7 0 rfl (by simp only [List.length_map]; rw [l10]; decide) pg2 fun h14 K15 A16 => ?_
    have A17 : Ary Z h14 fa .int ((IL xs).set 0 (.int f)) := A16
    obtain ⟨ws18, e19⟩ : ∃ q, q = xs.set 0 f := ⟨_, rfl⟩
    have l20 : ws18.length = 5 := by rw [e19]; exact own_set5 l10
    have A21 : Ary Z h14 fa .int (IL ws18) := by rw [e19]; show Ary Z _ _ _ (List.map _ _); rw [List.map_set]; exact A17
    refine Go.aloadN 71 rfl d11_70 rfl rfl ?_
    have F22 : Fld Z h14 a "com/example/albatross/albatross/storage/ProducerState" "lastSequences" "[I" (.ref la) := (F3.keep K15 (ninS pn1 nin0))
    refine Go.getF 74 rfl (v := .ref la) 13 d11_71 rfl F22 ?_
    refine Go.aloadN 75 rfl d11_74 rfl rfl ?_
    have F23 : Fld Z h14 a "com/example/albatross/albatross/storage/ProducerState" "remembered" "I" (.int (0 : Int32)) := (F5.keep K15 (ninS pn1 nin0))
    refine Go.getF 78 rfl (v := .int (0 : Int32)) 23 d11_75 rfl F23 ?_
    refine Go.iloadN 79 rfl d11_78 rfl ?_
    have F24 : Ary Z h14 la .int (IL ys) := (A8.keep K15 (ninS (Ne.symm pn4) nin0))
    refine Go.stI 80 rfl d11_79 F24 0 rfl (by simp only [List.length_map]; rw [l11]; decide) pg3 fun h25 K26 A27 => ?_
    have A28 : Ary Z h25 la .int ((IL ys).set 0 (.int l)) := A27
    obtain ⟨ws29, e30⟩ : ∃ q, q = ys.set 0 l := ⟨_, rfl⟩
    have l31 : ws29.length = 5 := by rw [e30]; exact own_set5 l11
    have A32 : Ary Z h25 la .int (IL ws29) := by rw [e30]; show Ary Z _ _ _ (List.map _ _); rw [List.map_set]; exact A28
    refine Go.aloadN 81 rfl d11_80 rfl rfl ?_
    have F33 : Fld Z h25 a "com/example/albatross/albatross/storage/ProducerState" "baseOffsets" "[J" (.ref ba) := ((F4.keep K15 (ninS pn1 nin0)).keep K26 (ninS pn2 nin0))
    refine Go.getF 84 rfl (v := .ref ba) 15 d11_81 rfl F33 ?_
    refine Go.aloadN 85 rfl d11_84 rfl rfl ?_
    have F34 : Fld Z h25 a "com/example/albatross/albatross/storage/ProducerState" "remembered" "I" (.int (0 : Int32)) := (F23.keep K26 (ninS pn2 nin0))
    refine Go.getF 88 rfl (v := .int (0 : Int32)) 23 d11_85 rfl F34 ?_
    refine Go.lloadN 89 rfl d11_88 rfl ?_
    have F35 : Ary Z h25 ba .long (JL zs) := ((A9.keep K15 (ninS (Ne.symm pn5) nin0)).keep K26 (ninS (Ne.symm pn6) nin0))
    refine Go.stJ 90 rfl d11_89 F35 0 rfl (by simp only [List.length_map]; rw [l12]; decide) pg4 fun h36 K37 A38 => ?_
    have A39 : Ary Z h36 ba .long ((JL zs).set 0 (.long o)) := A38
    obtain ⟨ws40, e41⟩ : ∃ q, q = zs.set 0 o := ⟨_, rfl⟩
    have l42 : ws40.length = 5 := by rw [e41]; exact own_set5 l12
    have A43 : Ary Z h36 ba .long (JL ws40) := by rw [e41]; show Ary Z _ _ _ (List.map _ _); rw [List.map_set]; exact A39
    refine Go.aloadN 91 rfl d11_90 rfl rfl ?_
    refine Go.dup 92 rfl d11_91 rfl ?_
    have F44 : Fld Z h36 a "com/example/albatross/albatross/storage/ProducerState" "remembered" "I" (.int (0 : Int32)) := (F34.keep K37 (ninS pn3 nin0))
    refine Go.getF 95 rfl (v := .int (0 : Int32)) 23 d11_92 rfl F44 ?_
    refine Go.iconst 96 rfl (1 : Int32) d11_95 rfl ?_
    refine Go.iadd 97 rfl d11_96 ?_
    refine Go.eqI (w := 1) (by decide) ?_
    have F45 : Exa Z h36 a "com/example/albatross/albatross/storage/ProducerState" := (((E1.keep K15).keep K26).keep K37)
    refine Go.putF 100 rfl (v' := .int (1 : Int32)) (ty := .int) 23 24 2 d11_97 rfl F44 F45 (Or.inl rfl) rfl (by decide) rfl rfl pg1 fun h46 K47 W48 F49 => ?_
    have F50 : Exa Z h46 a "com/example/albatross/albatross/storage/ProducerState" := (F45.keep K47)
    have F51 : Fld Z h46 a "com/example/albatross/albatross/storage/ProducerState" "firstSequences" "[I" (.ref fa) := (Fld.oth hw (((F2.keep K15 (ninS pn1 nin0)).keep K26 (ninS pn2 nin0)).keep K37 (ninS pn3 nin0)) W48 12 24 (Or.inr rfl) (Or.inl rfl) (by decide) rfl rfl)
    have F52 : Fld Z h46 a "com/example/albatross/albatross/storage/ProducerState" "lastSequences" "[I" (.ref la) := (Fld.oth hw ((F22.keep K26 (ninS pn2 nin0)).keep K37 (ninS pn3 nin0)) W48 14 24 (Or.inr rfl) (Or.inl rfl) (by decide) rfl rfl)
    have F53 : Fld Z h46 a "com/example/albatross/albatross/storage/ProducerState" "baseOffsets" "[J" (.ref ba) := (Fld.oth hw (F33.keep K37 (ninS pn3 nin0)) W48 16 24 (Or.inr rfl) (Or.inl rfl) (by decide) rfl rfl)
    have F54 : Fld Z h46 a "com/example/albatross/albatross/storage/ProducerState" "epoch" "S" (.int e0) := (Fld.oth hw (((F6.keep K15 (ninS pn1 nin0)).keep K26 (ninS pn2 nin0)).keep K37 (ninS pn3 nin0)) W48 65 24 (Or.inl rfl) (Or.inl rfl) (by decide) rfl rfl)
    have F55 : Ary Z h46 fa .int (IL ws18) := (((A21.keep K26 (ninS pn4 nin0)).keep K37 (ninS pn5 nin0)).keep K47 (ninS (Ne.symm pn1) nin0))
    have F56 : Ary Z h46 la .int (IL ws29) := ((A32.keep K37 (ninS pn6 nin0)).keep K47 (ninS (Ne.symm pn2) nin0))
    have F57 : Ary Z h46 ba .long (JL ws40) := (A43.keep K47 (ninS (Ne.symm pn3) nin0))
    subst e19 e30 e41
    exact Go.retV d11_100 rfl (by decide) (by decide) ⟨rfl, (((((Keep.refl h0 [a, fa, la, ba]).trans K15 (by simp)).trans K26 (by simp)).trans K37 (by simp)).trans K47 (by simp)), ⟨F50, F51, F52, F53, F49, F54, F55, F56, F57, l20, l31, l42⟩⟩
  · exact absurd b13 (show ¬ (0 : Int32) = (5 : Int32) from by decide)
theorem ef11r1 (mid : MethodId) (a : Addr) (f : Int32) (l : Int32) (o : Int64) : entryFrame mid (List.toArray [.ref a, .int f, .int l, .long o]) 5 = mkF mid 0 #[.val (.ref a), .val (.int f), .val (.int l), .val (.long o), .second] [] := by first | (simp [entryFrame, mkF, argsToLocals, Value.category]; done) | rfl
def Q11r1 (Z : State) (a : Addr) (fa : Addr) (la : Addr) (ba : Addr) (e0 : Int32) (xs : List Int32) (ys : List Int32) (zs : List Int64) (f : Int32) (l : Int32) (o : Int64) (h0 : Heap) (v : Option Value) (h : Heap) : Prop := v = none ∧ Keep h0 h [a, fa, la, ba] ∧ ST Z h a fa la ba 2 e0 (xs.set 1 f) (ys.set 1 l) (zs.set 1 o)
set_option maxRecDepth 65536 in
set_option maxHeartbeats 40000000 in
theorem c11r1 (Z : State) (hw : Wd Z tables_1) (h0 : Heap) (a : Addr) (f : Int32) (l : Int32) (o : Int64) (fa : Addr) (la : Addr) (ba : Addr) (e0 : Int32) (xs : List Int32) (ys : List Int32) (zs : List Int64) (P0 : Pt0 Z a fa la ba) (S : ST Z h0 a fa la ba (1 : Int32) e0 xs ys zs) : Con Z B11 (List.toArray [.ref a, .int f, .int l, .long o]) h0 (Q11r1 Z a fa la ba e0 xs ys zs f l o h0) := by
  refine Con.mk hw pn11 (fun mid => ef11r1 mid a f l o) (Go.old fun hle' => ?_)
  have hle := hle'.1
  obtain ⟨E1, F2, F3, F4, F5, F6, A7, A8, A9, l10, l11, l12⟩ := S
  obtain ⟨pg1, pg2, pg3, pg4, pn1, pn2, pn3, pn4, pn5, pn6⟩ := id P0
  refine Go.aloadN 1 rfl d11_0 rfl rfl ?_
  refine Go.getF 4 rfl (v := .int (1 : Int32)) 23 d11_1 rfl F5 ?_
  refine Go.iconst 5 rfl (5 : Int32) d11_4 rfl ?_
  refine Go.icmp_ne 60 8 d11_5 (by decide) rfl rfl (fun (b13 : ¬ (1 : Int32) = (5 : Int32)) => ?_) (fun (b13 : (1 : Int32) = (5 : Int32)) => ?_)
  · refine Go.aloadN 61 rfl d11_60 rfl rfl ?_
    refine Go.getF 64 rfl (v := .ref fa) 11 d11_61 rfl F2 ?_
    refine Go.aloadN 65 rfl d11_64 rfl rfl ?_
    refine Go.getF 68 rfl (v := .int (1 : Int32)) 23 d11_65 rfl F5 ?_
    refine Go.iloadN 69 rfl d11_68 rfl ?_
    refine Go.stI 70 rfl d11_69 A7 1 rfl (by simp only [List.length_map]; rw [l10]; decide) pg2 fun h14 K15 A16 => ?_
    have A17 : Ary Z h14 fa .int ((IL xs).set 1 (.int f)) := A16
    obtain ⟨ws18, e19⟩ : ∃ q, q = xs.set 1 f := ⟨_, rfl⟩
    have l20 : ws18.length = 5 := by rw [e19]; exact own_set5 l10
    have A21 : Ary Z h14 fa .int (IL ws18) := by rw [e19]; show Ary Z _ _ _ (List.map _ _); rw [List.map_set]; exact A17
    refine Go.aloadN 71 rfl d11_70 rfl rfl ?_
    have F22 : Fld Z h14 a "com/example/albatross/albatross/storage/ProducerState" "lastSequences" "[I" (.ref la) := (F3.keep K15 (ninS pn1 nin0))
    refine Go.getF 74 rfl (v := .ref la) 13 d11_71 rfl F22 ?_
    refine Go.aloadN 75 rfl d11_74 rfl rfl ?_
    have F23 : Fld Z h14 a "com/example/albatross/albatross/storage/ProducerState" "remembered" "I" (.int (1 : Int32)) := (F5.keep K15 (ninS pn1 nin0))
    refine Go.getF 78 rfl (v := .int (1 : Int32)) 23 d11_75 rfl F23 ?_
    refine Go.iloadN 79 rfl d11_78 rfl ?_
    have F24 : Ary Z h14 la .int (IL ys) := (A8.keep K15 (ninS (Ne.symm pn4) nin0))
    refine Go.stI 80 rfl d11_79 F24 1 rfl (by simp only [List.length_map]; rw [l11]; decide) pg3 fun h25 K26 A27 => ?_
    have A28 : Ary Z h25 la .int ((IL ys).set 1 (.int l)) := A27
    obtain ⟨ws29, e30⟩ : ∃ q, q = ys.set 1 l := ⟨_, rfl⟩
    have l31 : ws29.length = 5 := by rw [e30]; exact own_set5 l11
    have A32 : Ary Z h25 la .int (IL ws29) := by rw [e30]; show Ary Z _ _ _ (List.map _ _); rw [List.map_set]; exact A28
    refine Go.aloadN 81 rfl d11_80 rfl rfl ?_
    have F33 : Fld Z h25 a "com/example/albatross/albatross/storage/ProducerState" "baseOffsets" "[J" (.ref ba) := ((F4.keep K15 (ninS pn1 nin0)).keep K26 (ninS pn2 nin0))
    refine Go.getF 84 rfl (v := .ref ba) 15 d11_81 rfl F33 ?_
    refine Go.aloadN 85 rfl d11_84 rfl rfl ?_
    have F34 : Fld Z h25 a "com/example/albatross/albatross/storage/ProducerState" "remembered" "I" (.int (1 : Int32)) := (F23.keep K26 (ninS pn2 nin0))
    refine Go.getF 88 rfl (v := .int (1 : Int32)) 23 d11_85 rfl F34 ?_
    refine Go.lloadN 89 rfl d11_88 rfl ?_
    have F35 : Ary Z h25 ba .long (JL zs) := ((A9.keep K15 (ninS (Ne.symm pn5) nin0)).keep K26 (ninS (Ne.symm pn6) nin0))
    refine Go.stJ 90 rfl d11_89 F35 1 rfl (by simp only [List.length_map]; rw [l12]; decide) pg4 fun h36 K37 A38 => ?_
    have A39 : Ary Z h36 ba .long ((JL zs).set 1 (.long o)) := A38
    obtain ⟨ws40, e41⟩ : ∃ q, q = zs.set 1 o := ⟨_, rfl⟩
    have l42 : ws40.length = 5 := by rw [e41]; exact own_set5 l12
    have A43 : Ary Z h36 ba .long (JL ws40) := by rw [e41]; show Ary Z _ _ _ (List.map _ _); rw [List.map_set]; exact A39
    refine Go.aloadN 91 rfl d11_90 rfl rfl ?_
    refine Go.dup 92 rfl d11_91 rfl ?_
    have F44 : Fld Z h36 a "com/example/albatross/albatross/storage/ProducerState" "remembered" "I" (.int (1 : Int32)) := (F34.keep K37 (ninS pn3 nin0))
    refine Go.getF 95 rfl (v := .int (1 : Int32)) 23 d11_92 rfl F44 ?_
    refine Go.iconst 96 rfl (1 : Int32) d11_95 rfl ?_
    refine Go.iadd 97 rfl d11_96 ?_
    refine Go.eqI (w := 2) (by decide) ?_
    have F45 : Exa Z h36 a "com/example/albatross/albatross/storage/ProducerState" := (((E1.keep K15).keep K26).keep K37)
    refine Go.putF 100 rfl (v' := .int (2 : Int32)) (ty := .int) 23 24 2 d11_97 rfl F44 F45 (Or.inl rfl) rfl (by decide) rfl rfl pg1 fun h46 K47 W48 F49 => ?_
    have F50 : Exa Z h46 a "com/example/albatross/albatross/storage/ProducerState" := (F45.keep K47)
    have F51 : Fld Z h46 a "com/example/albatross/albatross/storage/ProducerState" "firstSequences" "[I" (.ref fa) := (Fld.oth hw (((F2.keep K15 (ninS pn1 nin0)).keep K26 (ninS pn2 nin0)).keep K37 (ninS pn3 nin0)) W48 12 24 (Or.inr rfl) (Or.inl rfl) (by decide) rfl rfl)
    have F52 : Fld Z h46 a "com/example/albatross/albatross/storage/ProducerState" "lastSequences" "[I" (.ref la) := (Fld.oth hw ((F22.keep K26 (ninS pn2 nin0)).keep K37 (ninS pn3 nin0)) W48 14 24 (Or.inr rfl) (Or.inl rfl) (by decide) rfl rfl)
    have F53 : Fld Z h46 a "com/example/albatross/albatross/storage/ProducerState" "baseOffsets" "[J" (.ref ba) := (Fld.oth hw (F33.keep K37 (ninS pn3 nin0)) W48 16 24 (Or.inr rfl) (Or.inl rfl) (by decide) rfl rfl)
    have F54 : Fld Z h46 a "com/example/albatross/albatross/storage/ProducerState" "epoch" "S" (.int e0) := (Fld.oth hw (((F6.keep K15 (ninS pn1 nin0)).keep K26 (ninS pn2 nin0)).keep K37 (ninS pn3 nin0)) W48 65 24 (Or.inl rfl) (Or.inl rfl) (by decide) rfl rfl)
    have F55 : Ary Z h46 fa .int (IL ws18) := (((A21.keep K26 (ninS pn4 nin0)).keep K37 (ninS pn5 nin0)).keep K47 (ninS (Ne.symm pn1) nin0))
    have F56 : Ary Z h46 la .int (IL ws29) := ((A32.keep K37 (ninS pn6 nin0)).keep K47 (ninS (Ne.symm pn2) nin0))
    have F57 : Ary Z h46 ba .long (JL ws40) := (A43.keep K47 (ninS (Ne.symm pn3) nin0))
    subst e19 e30 e41
    exact Go.retV d11_100 rfl (by decide) (by decide) ⟨rfl, (((((Keep.refl h0 [a, fa, la, ba]).trans K15 (by simp)).trans K26 (by simp)).trans K37 (by simp)).trans K47 (by simp)), ⟨F50, F51, F52, F53, F49, F54, F55, F56, F57, l20, l31, l42⟩⟩
  · exact absurd b13 (show ¬ (1 : Int32) = (5 : Int32) from by decide)
theorem ef11r2 (mid : MethodId) (a : Addr) (f : Int32) (l : Int32) (o : Int64) : entryFrame mid (List.toArray [.ref a, .int f, .int l, .long o]) 5 = mkF mid 0 #[.val (.ref a), .val (.int f), .val (.int l), .val (.long o), .second] [] := by first | (simp [entryFrame, mkF, argsToLocals, Value.category]; done) | rfl
def Q11r2 (Z : State) (a : Addr) (fa : Addr) (la : Addr) (ba : Addr) (e0 : Int32) (xs : List Int32) (ys : List Int32) (zs : List Int64) (f : Int32) (l : Int32) (o : Int64) (h0 : Heap) (v : Option Value) (h : Heap) : Prop := v = none ∧ Keep h0 h [a, fa, la, ba] ∧ ST Z h a fa la ba 3 e0 (xs.set 2 f) (ys.set 2 l) (zs.set 2 o)
set_option maxRecDepth 65536 in
set_option maxHeartbeats 40000000 in
theorem c11r2 (Z : State) (hw : Wd Z tables_1) (h0 : Heap) (a : Addr) (f : Int32) (l : Int32) (o : Int64) (fa : Addr) (la : Addr) (ba : Addr) (e0 : Int32) (xs : List Int32) (ys : List Int32) (zs : List Int64) (P0 : Pt0 Z a fa la ba) (S : ST Z h0 a fa la ba (2 : Int32) e0 xs ys zs) : Con Z B11 (List.toArray [.ref a, .int f, .int l, .long o]) h0 (Q11r2 Z a fa la ba e0 xs ys zs f l o h0) := by
  refine Con.mk hw pn11 (fun mid => ef11r2 mid a f l o) (Go.old fun hle' => ?_)
  have hle := hle'.1
  obtain ⟨E1, F2, F3, F4, F5, F6, A7, A8, A9, l10, l11, l12⟩ := S
  obtain ⟨pg1, pg2, pg3, pg4, pn1, pn2, pn3, pn4, pn5, pn6⟩ := id P0
  refine Go.aloadN 1 rfl d11_0 rfl rfl ?_
  refine Go.getF 4 rfl (v := .int (2 : Int32)) 23 d11_1 rfl F5 ?_
  refine Go.iconst 5 rfl (5 : Int32) d11_4 rfl ?_
  refine Go.icmp_ne 60 8 d11_5 (by decide) rfl rfl (fun (b13 : ¬ (2 : Int32) = (5 : Int32)) => ?_) (fun (b13 : (2 : Int32) = (5 : Int32)) => ?_)
  · refine Go.aloadN 61 rfl d11_60 rfl rfl ?_
    refine Go.getF 64 rfl (v := .ref fa) 11 d11_61 rfl F2 ?_
    refine Go.aloadN 65 rfl d11_64 rfl rfl ?_
    refine Go.getF 68 rfl (v := .int (2 : Int32)) 23 d11_65 rfl F5 ?_
    refine Go.iloadN 69 rfl d11_68 rfl ?_
    refine Go.stI 70 rfl d11_69 A7 2 rfl (by simp only [List.length_map]; rw [l10]; decide) pg2 fun h14 K15 A16 => ?_
    have A17 : Ary Z h14 fa .int ((IL xs).set 2 (.int f)) := A16
    obtain ⟨ws18, e19⟩ : ∃ q, q = xs.set 2 f := ⟨_, rfl⟩
    have l20 : ws18.length = 5 := by rw [e19]; exact own_set5 l10
    have A21 : Ary Z h14 fa .int (IL ws18) := by rw [e19]; show Ary Z _ _ _ (List.map _ _); rw [List.map_set]; exact A17
    refine Go.aloadN 71 rfl d11_70 rfl rfl ?_
    have F22 : Fld Z h14 a "com/example/albatross/albatross/storage/ProducerState" "lastSequences" "[I" (.ref la) := (F3.keep K15 (ninS pn1 nin0))
    refine Go.getF 74 rfl (v := .ref la) 13 d11_71 rfl F22 ?_
    refine Go.aloadN 75 rfl d11_74 rfl rfl ?_
    have F23 : Fld Z h14 a "com/example/albatross/albatross/storage/ProducerState" "remembered" "I" (.int (2 : Int32)) := (F5.keep K15 (ninS pn1 nin0))
    refine Go.getF 78 rfl (v := .int (2 : Int32)) 23 d11_75 rfl F23 ?_
    refine Go.iloadN 79 rfl d11_78 rfl ?_
    have F24 : Ary Z h14 la .int (IL ys) := (A8.keep K15 (ninS (Ne.symm pn4) nin0))
    refine Go.stI 80 rfl d11_79 F24 2 rfl (by simp only [List.length_map]; rw [l11]; decide) pg3 fun h25 K26 A27 => ?_
    have A28 : Ary Z h25 la .int ((IL ys).set 2 (.int l)) := A27
    obtain ⟨ws29, e30⟩ : ∃ q, q = ys.set 2 l := ⟨_, rfl⟩
    have l31 : ws29.length = 5 := by rw [e30]; exact own_set5 l11
    have A32 : Ary Z h25 la .int (IL ws29) := by rw [e30]; show Ary Z _ _ _ (List.map _ _); rw [List.map_set]; exact A28
    refine Go.aloadN 81 rfl d11_80 rfl rfl ?_
    have F33 : Fld Z h25 a "com/example/albatross/albatross/storage/ProducerState" "baseOffsets" "[J" (.ref ba) := ((F4.keep K15 (ninS pn1 nin0)).keep K26 (ninS pn2 nin0))
    refine Go.getF 84 rfl (v := .ref ba) 15 d11_81 rfl F33 ?_
    refine Go.aloadN 85 rfl d11_84 rfl rfl ?_
    have F34 : Fld Z h25 a "com/example/albatross/albatross/storage/ProducerState" "remembered" "I" (.int (2 : Int32)) := (F23.keep K26 (ninS pn2 nin0))
    refine Go.getF 88 rfl (v := .int (2 : Int32)) 23 d11_85 rfl F34 ?_
    refine Go.lloadN 89 rfl d11_88 rfl ?_
    have F35 : Ary Z h25 ba .long (JL zs) := ((A9.keep K15 (ninS (Ne.symm pn5) nin0)).keep K26 (ninS (Ne.symm pn6) nin0))
    refine Go.stJ 90 rfl d11_89 F35 2 rfl (by simp only [List.length_map]; rw [l12]; decide) pg4 fun h36 K37 A38 => ?_
    have A39 : Ary Z h36 ba .long ((JL zs).set 2 (.long o)) := A38
    obtain ⟨ws40, e41⟩ : ∃ q, q = zs.set 2 o := ⟨_, rfl⟩
    have l42 : ws40.length = 5 := by rw [e41]; exact own_set5 l12
    have A43 : Ary Z h36 ba .long (JL ws40) := by rw [e41]; show Ary Z _ _ _ (List.map _ _); rw [List.map_set]; exact A39
    refine Go.aloadN 91 rfl d11_90 rfl rfl ?_
    refine Go.dup 92 rfl d11_91 rfl ?_
    have F44 : Fld Z h36 a "com/example/albatross/albatross/storage/ProducerState" "remembered" "I" (.int (2 : Int32)) := (F34.keep K37 (ninS pn3 nin0))
    refine Go.getF 95 rfl (v := .int (2 : Int32)) 23 d11_92 rfl F44 ?_
    refine Go.iconst 96 rfl (1 : Int32) d11_95 rfl ?_
    refine Go.iadd 97 rfl d11_96 ?_
    refine Go.eqI (w := 3) (by decide) ?_
    have F45 : Exa Z h36 a "com/example/albatross/albatross/storage/ProducerState" := (((E1.keep K15).keep K26).keep K37)
    refine Go.putF 100 rfl (v' := .int (3 : Int32)) (ty := .int) 23 24 2 d11_97 rfl F44 F45 (Or.inl rfl) rfl (by decide) rfl rfl pg1 fun h46 K47 W48 F49 => ?_
    have F50 : Exa Z h46 a "com/example/albatross/albatross/storage/ProducerState" := (F45.keep K47)
    have F51 : Fld Z h46 a "com/example/albatross/albatross/storage/ProducerState" "firstSequences" "[I" (.ref fa) := (Fld.oth hw (((F2.keep K15 (ninS pn1 nin0)).keep K26 (ninS pn2 nin0)).keep K37 (ninS pn3 nin0)) W48 12 24 (Or.inr rfl) (Or.inl rfl) (by decide) rfl rfl)
    have F52 : Fld Z h46 a "com/example/albatross/albatross/storage/ProducerState" "lastSequences" "[I" (.ref la) := (Fld.oth hw ((F22.keep K26 (ninS pn2 nin0)).keep K37 (ninS pn3 nin0)) W48 14 24 (Or.inr rfl) (Or.inl rfl) (by decide) rfl rfl)
    have F53 : Fld Z h46 a "com/example/albatross/albatross/storage/ProducerState" "baseOffsets" "[J" (.ref ba) := (Fld.oth hw (F33.keep K37 (ninS pn3 nin0)) W48 16 24 (Or.inr rfl) (Or.inl rfl) (by decide) rfl rfl)
    have F54 : Fld Z h46 a "com/example/albatross/albatross/storage/ProducerState" "epoch" "S" (.int e0) := (Fld.oth hw (((F6.keep K15 (ninS pn1 nin0)).keep K26 (ninS pn2 nin0)).keep K37 (ninS pn3 nin0)) W48 65 24 (Or.inl rfl) (Or.inl rfl) (by decide) rfl rfl)
    have F55 : Ary Z h46 fa .int (IL ws18) := (((A21.keep K26 (ninS pn4 nin0)).keep K37 (ninS pn5 nin0)).keep K47 (ninS (Ne.symm pn1) nin0))
    have F56 : Ary Z h46 la .int (IL ws29) := ((A32.keep K37 (ninS pn6 nin0)).keep K47 (ninS (Ne.symm pn2) nin0))
    have F57 : Ary Z h46 ba .long (JL ws40) := (A43.keep K47 (ninS (Ne.symm pn3) nin0))
    subst e19 e30 e41
    exact Go.retV d11_100 rfl (by decide) (by decide) ⟨rfl, (((((Keep.refl h0 [a, fa, la, ba]).trans K15 (by simp)).trans K26 (by simp)).trans K37 (by simp)).trans K47 (by simp)), ⟨F50, F51, F52, F53, F49, F54, F55, F56, F57, l20, l31, l42⟩⟩
  · exact absurd b13 (show ¬ (2 : Int32) = (5 : Int32) from by decide)
theorem d10_0 : decode prog_35_method_18_code 0 = .ok (.iload_n 1, 1) := by decide +kernel
theorem d10_1 : decode prog_35_method_18_code 1 = .ok (.aload_n 0, 1) := by decide +kernel
theorem d10_2 : decode prog_35_method_18_code 2 = .ok (.getfield 32, 3) := by decide +kernel
theorem d10_5 : decode prog_35_method_18_code 5 = .ok (.if_icmp .eq 13, 3) := by decide +kernel
theorem d10_8 : decode prog_35_method_18_code 8 = .ok (.aload_n 0, 1) := by decide +kernel
theorem d10_9 : decode prog_35_method_18_code 9 = .ok (.iload_n 1, 1) := by decide +kernel
theorem d10_10 : decode prog_35_method_18_code 10 = .ok (.putfield 32, 3) := by decide +kernel
theorem d10_13 : decode prog_35_method_18_code 13 = .ok (.aload_n 0, 1) := by decide +kernel
theorem d10_14 : decode prog_35_method_18_code 14 = .ok (.iconst 0, 1) := by decide +kernel
theorem d10_15 : decode prog_35_method_18_code 15 = .ok (.putfield 28, 3) := by decide +kernel
theorem d10_18 : decode prog_35_method_18_code 18 = .ok (.aload_n 0, 1) := by decide +kernel
theorem d10_19 : decode prog_35_method_18_code 19 = .ok (.iload_n 2, 1) := by decide +kernel
theorem d10_20 : decode prog_35_method_18_code 20 = .ok (.iload_n 2, 1) := by decide +kernel
theorem d10_21 : decode prog_35_method_18_code 21 = .ok (.iload_n 3, 1) := by decide +kernel
theorem d10_22 : decode prog_35_method_18_code 22 = .ok (.invokestatic 24, 3) := by decide +kernel
theorem d10_25 : decode prog_35_method_18_code 25 = .ok (.lload 4, 2) := by decide +kernel
theorem d10_27 : decode prog_35_method_18_code 27 = .ok (.invokevirtual 90, 3) := by decide +kernel
theorem d10_30 : decode prog_35_method_18_code 30 = .ok (.return_, 1) := by decide +kernel
theorem pd10 : parseMethodDescriptor "(SIIJ)V" = some ⟨[.short, .int, .int, .long], none⟩ := by decide +kernel
theorem pn10 : plainFor (⟨"com/example/albatross/albatross/storage/ProducerState", "push", "(SIIJ)V"⟩ : MethodName) = true := by first | (refine plainFor_of_name ?_; simp [plainName, overriddenIn]; done) | (refine plainFor_of_name ?_; decide +kernel) | decide +kernel
abbrev B10 : Bd := ((⟨"com/example/albatross/albatross/storage/ProducerState", "push", "(SIIJ)V"⟩ : MethodName), prog_35_method_18_code, 6, none, ({ frames := 2, cells := 0, slots := 0, locals := 28 } : Room), tables_1)
theorem ef10r0 (mid : MethodId) (a : Addr) (e : Int32) (f : Int32) (n : Int32) (o : Int64) : entryFrame mid (List.toArray [.ref a, .int e, .int f, .int n, .long o]) 6 = mkF mid 0 #[.val (.ref a), .val (.int e), .val (.int f), .val (.int n), .val (.long o), .second] [] := by first | (simp [entryFrame, mkF, argsToLocals, Value.category]; done) | rfl
def Q10r0 (Z : State) (a : Addr) (fa : Addr) (la : Addr) (ba : Addr) (xs : List Int32) (ys : List Int32) (zs : List Int64) (f : Int32) (o : Int64) (h0 : Heap) (v : Option Value) (h : Heap) : Prop := ∃ l e1, v = none ∧ Keep h0 h [a, fa, la, ba] ∧ (ST Z h a fa la ba 1 e1 (xs.set 0 f) (ys.set 0 l) (zs.set 0 o))
set_option maxRecDepth 65536 in
set_option maxHeartbeats 40000000 in
theorem c10r0 (Z : State) (hw : Wd Z tables_1) (h0 : Heap) (a : Addr) (e : Int32) (f : Int32) (n : Int32) (o : Int64) (fa : Addr) (la : Addr) (ba : Addr) (xs : List Int32) (ys : List Int32) (zs : List Int64) (e0 : Int32) (P0 : Pt0 Z a fa la ba) (S : ST Z h0 a fa la ba (0 : Int32) e0 xs ys zs) (hn : ¬ n < 1) : Con Z B10 (List.toArray [.ref a, .int e, .int f, .int n, .long o]) h0 (Q10r0 Z a fa la ba xs ys zs f o h0) := by
  refine Con.mk hw pn10 (fun mid => ef10r0 mid a e f n o) (Go.old fun hle' => ?_)
  have hle := hle'.1
  obtain ⟨E1, F2, F3, F4, F5, F6, A7, A8, A9, l10, l11, l12⟩ := S
  obtain ⟨pg1, pg2, pg3, pg4, pn1, pn2, pn3, pn4, pn5, pn6⟩ := id P0
  refine Go.iloadN 1 rfl d10_0 rfl ?_
  refine Go.aloadN 2 rfl d10_1 rfl rfl ?_
  refine Go.getF 5 rfl (v := .int e0) 64 d10_2 rfl F6 ?_
  refine Go.icmp_eq 18 8 d10_5 (by decide) rfl rfl (fun (b13 : e = e0) => ?_) (fun (b13 : ¬ e = e0) => ?_)
  · refine Go.aloadN 19 rfl d10_18 rfl rfl ?_
    refine Go.iloadN 20 rfl d10_19 rfl ?_
    refine Go.iloadN 21 rfl d10_20 rfl ?_
    refine Go.iloadN 22 rfl d10_21 rfl ?_
    refine Go.callS 25 rfl (C := B7) [.int f, .int n] (rest := [.int f, .ref a]) 39 40 3 41 (c7 Z hw h0 f n hn) d10_22 rfl rfl rfl rfl (by decide) pd7 rfl rfl rfl (W := 2) (Nat.le_of_ble_eq_true rfl) (by decide) (by decide) (by decide) (by decide) fun v14 h15 q16 => ?_
    obtain ⟨y17, rfl, rfl⟩ := q16
    refine Go.lload 27 rfl d10_25 rfl ?_
    refine Go.callP2 30 rfl (C := B11) a [.int f, .int y17, .long o] (rest := []) 66 67 2 68 3 69 (c11r0 Z hw h0 a f y17 o fa la ba e0 xs ys zs P0 (show ST Z h0 a fa la ba (0 : Int32) e0 xs ys zs from ⟨E1, F2, F3, F4, F5, F6, A7, A8, A9, l10, l11, l12⟩)) E1 d10_27 rfl rfl rfl rfl rfl rfl (by decide) pd11 rfl rfl rfl (W := 0) (Nat.le_of_ble_eq_true rfl) (by decide) (by decide) (by decide) (by decide) fun v18 h19 q20 => ?_
    obtain ⟨rfl, K21, S22⟩ := q20
    exact Go.retV d10_30 rfl (by decide) (by decide) ⟨_, _, rfl, ((Keep.refl h0 [a, fa, la, ba]).trans K21 (by simp)), S22⟩
  · refine Go.aloadN 9 rfl d10_8 rfl rfl ?_
    refine Go.iloadN 10 rfl d10_9 rfl ?_
    refine Go.putF 13 rfl (v' := .int (nar .short e)) (ty := .short) 64 65 2 d10_10 rfl F6 E1 (Or.inl rfl) rfl (by decide) rfl (fits_nar_short e) pg1 fun h23 K24 W25 F26 => ?_
    refine Go.aloadN 14 rfl d10_13 rfl rfl ?_
    refine Go.iconst 15 rfl (0 : Int32) d10_14 rfl ?_
    have F27 : Fld Z h23 a "com/example/albatross/albatross/storage/ProducerState" "remembered" "I" (.int (0 : Int32)) := (Fld.oth hw F5 W25 24 65 (Or.inl rfl) (Or.inl rfl) (by decide) rfl rfl)
    have F28 : Exa Z h23 a "com/example/albatross/albatross/storage/ProducerState" := (E1.keep K24)
    refine Go.putF 18 rfl (v' := .int (0 : Int32)) (ty := .int) 23 24 2 d10_15 rfl F27 F28 (Or.inl rfl) rfl (by decide) rfl rfl pg1 fun h29 K30 W31 F32 => ?_
    refine Go.aloadN 19 rfl d10_18 rfl rfl ?_
    refine Go.iloadN 20 rfl d10_19 rfl ?_
    refine Go.iloadN 21 rfl d10_20 rfl ?_
    refine Go.iloadN 22 rfl d10_21 rfl ?_
    refine Go.callS 25 rfl (C := B7) [.int f, .int n] (rest := [.int f, .ref a]) 39 40 3 41 (c7 Z hw h29 f n hn) d10_22 rfl rfl rfl rfl (by decide) pd7 rfl rfl rfl (W := 2) (Nat.le_of_ble_eq_true rfl) (by decide) (by decide) (by decide) (by decide) fun v33 h34 q35 => ?_
    obtain ⟨y36, rfl, rfl⟩ := q35
    refine Go.lload 27 rfl d10_25 rfl ?_
    have F37 : Exa Z h29 a "com/example/albatross/albatross/storage/ProducerState" := (F28.keep K30)
    have F38 : Fld Z h29 a "com/example/albatross/albatross/storage/ProducerState" "firstSequences" "[I" (.ref fa) := (Fld.oth hw (Fld.oth hw F2 W25 12 65 (Or.inr rfl) (Or.inl rfl) (by decide) rfl rfl) W31 12 24 (Or.inr rfl) (Or.inl rfl) (by decide) rfl rfl)
    have F39 : Fld Z h29 a "com/example/albatross/albatross/storage/ProducerState" "lastSequences" "[I" (.ref la) := (Fld.oth hw (Fld.oth hw F3 W25 14 65 (Or.inr rfl) (Or.inl rfl) (by decide) rfl rfl) W31 14 24 (Or.inr rfl) (Or.inl rfl) (by decide) rfl rfl)
    have F40 : Fld Z h29 a "com/example/albatross/albatross/storage/ProducerState" "baseOffsets" "[J" (.ref ba) := (Fld.oth hw (Fld.oth hw F4 W25 16 65 (Or.inr rfl) (Or.inl rfl) (by decide) rfl rfl) W31 16 24 (Or.inr rfl) (Or.inl rfl) (by decide) rfl rfl)
    have F41 : Fld Z h29 a "com/example/albatross/albatross/storage/ProducerState" "epoch" "S" (.int (nar .short e)) := (Fld.oth hw F26 W31 65 24 (Or.inl rfl) (Or.inl rfl) (by decide) rfl rfl)
    have F42 : Ary Z h29 fa .int (IL xs) := ((A7.keep K24 (ninS (Ne.symm pn1) nin0)).keep K30 (ninS (Ne.symm pn1) nin0))
    have F43 : Ary Z h29 la .int (IL ys) := ((A8.keep K24 (ninS (Ne.symm pn2) nin0)).keep K30 (ninS (Ne.symm pn2) nin0))
    have F44 : Ary Z h29 ba .long (JL zs) := ((A9.keep K24 (ninS (Ne.symm pn3) nin0)).keep K30 (ninS (Ne.symm pn3) nin0))
    refine Go.callP2 30 rfl (C := B11) a [.int f, .int y36, .long o] (rest := []) 66 67 2 68 3 69 (c11r0 Z hw h29 a f y36 o fa la ba (nar .short e) xs ys zs P0 (show ST Z h29 a fa la ba (0 : Int32) (nar .short e) xs ys zs from ⟨F37, F38, F39, F40, F32, F41, F42, F43, F44, l10, l11, l12⟩)) F37 d10_27 rfl rfl rfl rfl rfl rfl (by decide) pd11 rfl rfl rfl (W := 0) (Nat.le_of_ble_eq_true rfl) (by decide) (by decide) (by decide) (by decide) fun v45 h46 q47 => ?_
    obtain ⟨rfl, K48, S49⟩ := q47
    exact Go.retV d10_30 rfl (by decide) (by decide) ⟨_, _, rfl, ((((Keep.refl h0 [a, fa, la, ba]).trans K24 (by simp)).trans K30 (by simp)).trans K48 (by simp)), S49⟩
theorem ef10r1 (mid : MethodId) (a : Addr) (e : Int32) (f : Int32) (n : Int32) (o : Int64) : entryFrame mid (List.toArray [.ref a, .int e, .int f, .int n, .long o]) 6 = mkF mid 0 #[.val (.ref a), .val (.int e), .val (.int f), .val (.int n), .val (.long o), .second] [] := by first | (simp [entryFrame, mkF, argsToLocals, Value.category]; done) | rfl
def Q10r1 (Z : State) (a : Addr) (fa : Addr) (la : Addr) (ba : Addr) (xs : List Int32) (ys : List Int32) (zs : List Int64) (f : Int32) (o : Int64) (h0 : Heap) (v : Option Value) (h : Heap) : Prop := ∃ l e1, v = none ∧ Keep h0 h [a, fa, la, ba] ∧ (ST Z h a fa la ba 2 e1 (xs.set 1 f) (ys.set 1 l) (zs.set 1 o) ∨ ST Z h a fa la ba 1 e1 (xs.set 0 f) (ys.set 0 l) (zs.set 0 o))
set_option maxRecDepth 65536 in
set_option maxHeartbeats 40000000 in
theorem c10r1 (Z : State) (hw : Wd Z tables_1) (h0 : Heap) (a : Addr) (e : Int32) (f : Int32) (n : Int32) (o : Int64) (fa : Addr) (la : Addr) (ba : Addr) (xs : List Int32) (ys : List Int32) (zs : List Int64) (e0 : Int32) (P0 : Pt0 Z a fa la ba) (S : ST Z h0 a fa la ba (1 : Int32) e0 xs ys zs) (hn : ¬ n < 1) : Con Z B10 (List.toArray [.ref a, .int e, .int f, .int n, .long o]) h0 (Q10r1 Z a fa la ba xs ys zs f o h0) := by
  refine Con.mk hw pn10 (fun mid => ef10r1 mid a e f n o) (Go.old fun hle' => ?_)
  have hle := hle'.1
  obtain ⟨E1, F2, F3, F4, F5, F6, A7, A8, A9, l10, l11, l12⟩ := S
  obtain ⟨pg1, pg2, pg3, pg4, pn1, pn2, pn3, pn4, pn5, pn6⟩ := id P0
  refine Go.iloadN 1 rfl d10_0 rfl ?_
  refine Go.aloadN 2 rfl d10_1 rfl rfl ?_
  refine Go.getF 5 rfl (v := .int e0) 64 d10_2 rfl F6 ?_
  refine Go.icmp_eq 18 8 d10_5 (by decide) rfl rfl (fun (b13 : e = e0) => ?_) (fun (b13 : ¬ e = e0) => ?_)
  · refine Go.aloadN 19 rfl d10_18 rfl rfl ?_
    refine Go.iloadN 20 rfl d10_19 rfl ?_
    refine Go.iloadN 21 rfl d10_20 rfl ?_
    refine Go.iloadN 22 rfl d10_21 rfl ?_
    refine Go.callS 25 rfl (C := B7) [.int f, .int n] (rest := [.int f, .ref a]) 39 40 3 41 (c7 Z hw h0 f n hn) d10_22 rfl rfl rfl rfl (by decide) pd7 rfl rfl rfl (W := 2) (Nat.le_of_ble_eq_true rfl) (by decide) (by decide) (by decide) (by decide) fun v14 h15 q16 => ?_
    obtain ⟨y17, rfl, rfl⟩ := q16
    refine Go.lload 27 rfl d10_25 rfl ?_
    refine Go.callP2 30 rfl (C := B11) a [.int f, .int y17, .long o] (rest := []) 66 67 2 68 3 69 (c11r1 Z hw h0 a f y17 o fa la ba e0 xs ys zs P0 (show ST Z h0 a fa la ba (1 : Int32) e0 xs ys zs from ⟨E1, F2, F3, F4, F5, F6, A7, A8, A9, l10, l11, l12⟩)) E1 d10_27 rfl rfl rfl rfl rfl rfl (by decide) pd11 rfl rfl rfl (W := 0) (Nat.le_of_ble_eq_true rfl) (by decide) (by decide) (by decide) (by decide) fun v18 h19 q20 => ?_
    obtain ⟨rfl, K21, S22⟩ := q20
    exact Go.retV d10_30 rfl (by decide) (by decide) ⟨_, _, rfl, ((Keep.refl h0 [a, fa, la, ba]).trans K21 (by simp)), Or.inl S22⟩
  · refine Go.aloadN 9 rfl d10_8 rfl rfl ?_
    refine Go.iloadN 10 rfl d10_9 rfl ?_
    refine Go.putF 13 rfl (v' := .int (nar .short e)) (ty := .short) 64 65 2 d10_10 rfl F6 E1 (Or.inl rfl) rfl (by decide) rfl (fits_nar_short e) pg1 fun h23 K24 W25 F26 => ?_
    refine Go.aloadN 14 rfl d10_13 rfl rfl ?_
    refine Go.iconst 15 rfl (0 : Int32) d10_14 rfl ?_
    have F27 : Fld Z h23 a "com/example/albatross/albatross/storage/ProducerState" "remembered" "I" (.int (1 : Int32)) := (Fld.oth hw F5 W25 24 65 (Or.inl rfl) (Or.inl rfl) (by decide) rfl rfl)
    have F28 : Exa Z h23 a "com/example/albatross/albatross/storage/ProducerState" := (E1.keep K24)
    refine Go.putF 18 rfl (v' := .int (0 : Int32)) (ty := .int) 23 24 2 d10_15 rfl F27 F28 (Or.inl rfl) rfl (by decide) rfl rfl pg1 fun h29 K30 W31 F32 => ?_
    refine Go.aloadN 19 rfl d10_18 rfl rfl ?_
    refine Go.iloadN 20 rfl d10_19 rfl ?_
    refine Go.iloadN 21 rfl d10_20 rfl ?_
    refine Go.iloadN 22 rfl d10_21 rfl ?_
    refine Go.callS 25 rfl (C := B7) [.int f, .int n] (rest := [.int f, .ref a]) 39 40 3 41 (c7 Z hw h29 f n hn) d10_22 rfl rfl rfl rfl (by decide) pd7 rfl rfl rfl (W := 2) (Nat.le_of_ble_eq_true rfl) (by decide) (by decide) (by decide) (by decide) fun v33 h34 q35 => ?_
    obtain ⟨y36, rfl, rfl⟩ := q35
    refine Go.lload 27 rfl d10_25 rfl ?_
    have F37 : Exa Z h29 a "com/example/albatross/albatross/storage/ProducerState" := (F28.keep K30)
    have F38 : Fld Z h29 a "com/example/albatross/albatross/storage/ProducerState" "firstSequences" "[I" (.ref fa) := (Fld.oth hw (Fld.oth hw F2 W25 12 65 (Or.inr rfl) (Or.inl rfl) (by decide) rfl rfl) W31 12 24 (Or.inr rfl) (Or.inl rfl) (by decide) rfl rfl)
    have F39 : Fld Z h29 a "com/example/albatross/albatross/storage/ProducerState" "lastSequences" "[I" (.ref la) := (Fld.oth hw (Fld.oth hw F3 W25 14 65 (Or.inr rfl) (Or.inl rfl) (by decide) rfl rfl) W31 14 24 (Or.inr rfl) (Or.inl rfl) (by decide) rfl rfl)
    have F40 : Fld Z h29 a "com/example/albatross/albatross/storage/ProducerState" "baseOffsets" "[J" (.ref ba) := (Fld.oth hw (Fld.oth hw F4 W25 16 65 (Or.inr rfl) (Or.inl rfl) (by decide) rfl rfl) W31 16 24 (Or.inr rfl) (Or.inl rfl) (by decide) rfl rfl)
    have F41 : Fld Z h29 a "com/example/albatross/albatross/storage/ProducerState" "epoch" "S" (.int (nar .short e)) := (Fld.oth hw F26 W31 65 24 (Or.inl rfl) (Or.inl rfl) (by decide) rfl rfl)
    have F42 : Ary Z h29 fa .int (IL xs) := ((A7.keep K24 (ninS (Ne.symm pn1) nin0)).keep K30 (ninS (Ne.symm pn1) nin0))
    have F43 : Ary Z h29 la .int (IL ys) := ((A8.keep K24 (ninS (Ne.symm pn2) nin0)).keep K30 (ninS (Ne.symm pn2) nin0))
    have F44 : Ary Z h29 ba .long (JL zs) := ((A9.keep K24 (ninS (Ne.symm pn3) nin0)).keep K30 (ninS (Ne.symm pn3) nin0))
    refine Go.callP2 30 rfl (C := B11) a [.int f, .int y36, .long o] (rest := []) 66 67 2 68 3 69 (c11r0 Z hw h29 a f y36 o fa la ba (nar .short e) xs ys zs P0 (show ST Z h29 a fa la ba (0 : Int32) (nar .short e) xs ys zs from ⟨F37, F38, F39, F40, F32, F41, F42, F43, F44, l10, l11, l12⟩)) F37 d10_27 rfl rfl rfl rfl rfl rfl (by decide) pd11 rfl rfl rfl (W := 0) (Nat.le_of_ble_eq_true rfl) (by decide) (by decide) (by decide) (by decide) fun v45 h46 q47 => ?_
    obtain ⟨rfl, K48, S49⟩ := q47
    exact Go.retV d10_30 rfl (by decide) (by decide) ⟨_, _, rfl, ((((Keep.refl h0 [a, fa, la, ba]).trans K24 (by simp)).trans K30 (by simp)).trans K48 (by simp)), Or.inr S49⟩
theorem ef10r2 (mid : MethodId) (a : Addr) (e : Int32) (f : Int32) (n : Int32) (o : Int64) : entryFrame mid (List.toArray [.ref a, .int e, .int f, .int n, .long o]) 6 = mkF mid 0 #[.val (.ref a), .val (.int e), .val (.int f), .val (.int n), .val (.long o), .second] [] := by first | (simp [entryFrame, mkF, argsToLocals, Value.category]; done) | rfl
def Q10r2 (Z : State) (a : Addr) (fa : Addr) (la : Addr) (ba : Addr) (xs : List Int32) (ys : List Int32) (zs : List Int64) (f : Int32) (o : Int64) (h0 : Heap) (v : Option Value) (h : Heap) : Prop := ∃ l e1, v = none ∧ Keep h0 h [a, fa, la, ba] ∧ (ST Z h a fa la ba 3 e1 (xs.set 2 f) (ys.set 2 l) (zs.set 2 o) ∨ ST Z h a fa la ba 1 e1 (xs.set 0 f) (ys.set 0 l) (zs.set 0 o))
set_option maxRecDepth 65536 in
set_option maxHeartbeats 40000000 in
theorem c10r2 (Z : State) (hw : Wd Z tables_1) (h0 : Heap) (a : Addr) (e : Int32) (f : Int32) (n : Int32) (o : Int64) (fa : Addr) (la : Addr) (ba : Addr) (xs : List Int32) (ys : List Int32) (zs : List Int64) (e0 : Int32) (P0 : Pt0 Z a fa la ba) (S : ST Z h0 a fa la ba (2 : Int32) e0 xs ys zs) (hn : ¬ n < 1) : Con Z B10 (List.toArray [.ref a, .int e, .int f, .int n, .long o]) h0 (Q10r2 Z a fa la ba xs ys zs f o h0) := by
  refine Con.mk hw pn10 (fun mid => ef10r2 mid a e f n o) (Go.old fun hle' => ?_)
  have hle := hle'.1
  obtain ⟨E1, F2, F3, F4, F5, F6, A7, A8, A9, l10, l11, l12⟩ := S
  obtain ⟨pg1, pg2, pg3, pg4, pn1, pn2, pn3, pn4, pn5, pn6⟩ := id P0
  refine Go.iloadN 1 rfl d10_0 rfl ?_
  refine Go.aloadN 2 rfl d10_1 rfl rfl ?_
  refine Go.getF 5 rfl (v := .int e0) 64 d10_2 rfl F6 ?_
  refine Go.icmp_eq 18 8 d10_5 (by decide) rfl rfl (fun (b13 : e = e0) => ?_) (fun (b13 : ¬ e = e0) => ?_)
  · refine Go.aloadN 19 rfl d10_18 rfl rfl ?_
    refine Go.iloadN 20 rfl d10_19 rfl ?_
    refine Go.iloadN 21 rfl d10_20 rfl ?_
    refine Go.iloadN 22 rfl d10_21 rfl ?_
    refine Go.callS 25 rfl (C := B7) [.int f, .int n] (rest := [.int f, .ref a]) 39 40 3 41 (c7 Z hw h0 f n hn) d10_22 rfl rfl rfl rfl (by decide) pd7 rfl rfl rfl (W := 2) (Nat.le_of_ble_eq_true rfl) (by decide) (by decide) (by decide) (by decide) fun v14 h15 q16 => ?_
    obtain ⟨y17, rfl, rfl⟩ := q16
    refine Go.lload 27 rfl d10_25 rfl ?_
    refine Go.callP2 30 rfl (C := B11) a [.int f, .int y17, .long o] (rest := []) 66 67 2 68 3 69 (c11r2 Z hw h0 a f y17 o fa la ba e0 xs ys zs P0 (show ST Z h0 a fa la ba (2 : Int32) e0 xs ys zs from ⟨E1, F2, F3, F4, F5, F6, A7, A8, A9, l10, l11, l12⟩)) E1 d10_27 rfl rfl rfl rfl rfl rfl (by decide) pd11 rfl rfl rfl (W := 0) (Nat.le_of_ble_eq_true rfl) (by decide) (by decide) (by decide) (by decide) fun v18 h19 q20 => ?_
    obtain ⟨rfl, K21, S22⟩ := q20
    exact Go.retV d10_30 rfl (by decide) (by decide) ⟨_, _, rfl, ((Keep.refl h0 [a, fa, la, ba]).trans K21 (by simp)), Or.inl S22⟩
  · refine Go.aloadN 9 rfl d10_8 rfl rfl ?_
    refine Go.iloadN 10 rfl d10_9 rfl ?_
    refine Go.putF 13 rfl (v' := .int (nar .short e)) (ty := .short) 64 65 2 d10_10 rfl F6 E1 (Or.inl rfl) rfl (by decide) rfl (fits_nar_short e) pg1 fun h23 K24 W25 F26 => ?_
    refine Go.aloadN 14 rfl d10_13 rfl rfl ?_
    refine Go.iconst 15 rfl (0 : Int32) d10_14 rfl ?_
    have F27 : Fld Z h23 a "com/example/albatross/albatross/storage/ProducerState" "remembered" "I" (.int (2 : Int32)) := (Fld.oth hw F5 W25 24 65 (Or.inl rfl) (Or.inl rfl) (by decide) rfl rfl)
    have F28 : Exa Z h23 a "com/example/albatross/albatross/storage/ProducerState" := (E1.keep K24)
    refine Go.putF 18 rfl (v' := .int (0 : Int32)) (ty := .int) 23 24 2 d10_15 rfl F27 F28 (Or.inl rfl) rfl (by decide) rfl rfl pg1 fun h29 K30 W31 F32 => ?_
    refine Go.aloadN 19 rfl d10_18 rfl rfl ?_
    refine Go.iloadN 20 rfl d10_19 rfl ?_
    refine Go.iloadN 21 rfl d10_20 rfl ?_
    refine Go.iloadN 22 rfl d10_21 rfl ?_
    refine Go.callS 25 rfl (C := B7) [.int f, .int n] (rest := [.int f, .ref a]) 39 40 3 41 (c7 Z hw h29 f n hn) d10_22 rfl rfl rfl rfl (by decide) pd7 rfl rfl rfl (W := 2) (Nat.le_of_ble_eq_true rfl) (by decide) (by decide) (by decide) (by decide) fun v33 h34 q35 => ?_
    obtain ⟨y36, rfl, rfl⟩ := q35
    refine Go.lload 27 rfl d10_25 rfl ?_
    have F37 : Exa Z h29 a "com/example/albatross/albatross/storage/ProducerState" := (F28.keep K30)
    have F38 : Fld Z h29 a "com/example/albatross/albatross/storage/ProducerState" "firstSequences" "[I" (.ref fa) := (Fld.oth hw (Fld.oth hw F2 W25 12 65 (Or.inr rfl) (Or.inl rfl) (by decide) rfl rfl) W31 12 24 (Or.inr rfl) (Or.inl rfl) (by decide) rfl rfl)
    have F39 : Fld Z h29 a "com/example/albatross/albatross/storage/ProducerState" "lastSequences" "[I" (.ref la) := (Fld.oth hw (Fld.oth hw F3 W25 14 65 (Or.inr rfl) (Or.inl rfl) (by decide) rfl rfl) W31 14 24 (Or.inr rfl) (Or.inl rfl) (by decide) rfl rfl)
    have F40 : Fld Z h29 a "com/example/albatross/albatross/storage/ProducerState" "baseOffsets" "[J" (.ref ba) := (Fld.oth hw (Fld.oth hw F4 W25 16 65 (Or.inr rfl) (Or.inl rfl) (by decide) rfl rfl) W31 16 24 (Or.inr rfl) (Or.inl rfl) (by decide) rfl rfl)
    have F41 : Fld Z h29 a "com/example/albatross/albatross/storage/ProducerState" "epoch" "S" (.int (nar .short e)) := (Fld.oth hw F26 W31 65 24 (Or.inl rfl) (Or.inl rfl) (by decide) rfl rfl)
    have F42 : Ary Z h29 fa .int (IL xs) := ((A7.keep K24 (ninS (Ne.symm pn1) nin0)).keep K30 (ninS (Ne.symm pn1) nin0))
    have F43 : Ary Z h29 la .int (IL ys) := ((A8.keep K24 (ninS (Ne.symm pn2) nin0)).keep K30 (ninS (Ne.symm pn2) nin0))
    have F44 : Ary Z h29 ba .long (JL zs) := ((A9.keep K24 (ninS (Ne.symm pn3) nin0)).keep K30 (ninS (Ne.symm pn3) nin0))
    refine Go.callP2 30 rfl (C := B11) a [.int f, .int y36, .long o] (rest := []) 66 67 2 68 3 69 (c11r0 Z hw h29 a f y36 o fa la ba (nar .short e) xs ys zs P0 (show ST Z h29 a fa la ba (0 : Int32) (nar .short e) xs ys zs from ⟨F37, F38, F39, F40, F32, F41, F42, F43, F44, l10, l11, l12⟩)) F37 d10_27 rfl rfl rfl rfl rfl rfl (by decide) pd11 rfl rfl rfl (W := 0) (Nat.le_of_ble_eq_true rfl) (by decide) (by decide) (by decide) (by decide) fun v45 h46 q47 => ?_
    obtain ⟨rfl, K48, S49⟩ := q47
    exact Go.retV d10_30 rfl (by decide) (by decide) ⟨_, _, rfl, ((((Keep.refl h0 [a, fa, la, ba]).trans K24 (by simp)).trans K30 (by simp)).trans K48 (by simp)), Or.inr S49⟩
theorem d12_0 : decode prog_35_method_22_code 0 = .ok (.ldc2_w 171, 3) := by decide +kernel
theorem d12_3 : decode prog_35_method_22_code 3 = .ok (.lstore_n 3, 1) := by decide +kernel
theorem d12_4 : decode prog_35_method_22_code 4 = .ok (.aload_n 0, 1) := by decide +kernel
theorem d12_5 : decode prog_35_method_22_code 5 = .ok (.getfield 28, 3) := by decide +kernel
theorem d12_8 : decode prog_35_method_22_code 8 = .ok (.iconst 1, 1) := by decide +kernel
theorem d12_9 : decode prog_35_method_22_code 9 = .ok (.isub, 1) := by decide +kernel
theorem d12_10 : decode prog_35_method_22_code 10 = .ok (.istore 5, 2) := by decide +kernel
theorem d12_12 : decode prog_35_method_22_code 12 = .ok (.iload 5, 2) := by decide +kernel
theorem d12_14 : decode prog_35_method_22_code 14 = .ok (.ifCond .lt 42, 3) := by decide +kernel
theorem d12_17 : decode prog_35_method_22_code 17 = .ok (.aload_n 0, 1) := by decide +kernel
theorem d12_18 : decode prog_35_method_22_code 18 = .ok (.getfield 13, 3) := by decide +kernel
theorem d12_21 : decode prog_35_method_22_code 21 = .ok (.iload 5, 2) := by decide +kernel
theorem d12_23 : decode prog_35_method_22_code 23 = .ok (.iaload, 1) := by decide +kernel
theorem d12_24 : decode prog_35_method_22_code 24 = .ok (.iload_n 1, 1) := by decide +kernel
theorem d12_25 : decode prog_35_method_22_code 25 = .ok (.if_icmp .ne 25, 3) := by decide +kernel
theorem d12_28 : decode prog_35_method_22_code 28 = .ok (.aload_n 0, 1) := by decide +kernel
theorem d12_29 : decode prog_35_method_22_code 29 = .ok (.getfield 17, 3) := by decide +kernel
theorem d12_32 : decode prog_35_method_22_code 32 = .ok (.iload 5, 2) := by decide +kernel
theorem d12_34 : decode prog_35_method_22_code 34 = .ok (.iaload, 1) := by decide +kernel
theorem d12_35 : decode prog_35_method_22_code 35 = .ok (.iload_n 2, 1) := by decide +kernel
theorem d12_36 : decode prog_35_method_22_code 36 = .ok (.if_icmp .ne 14, 3) := by decide +kernel
theorem d12_39 : decode prog_35_method_22_code 39 = .ok (.aload_n 0, 1) := by decide +kernel
theorem d12_40 : decode prog_35_method_22_code 40 = .ok (.getfield 20, 3) := by decide +kernel
theorem d12_43 : decode prog_35_method_22_code 43 = .ok (.iload 5, 2) := by decide +kernel
theorem d12_45 : decode prog_35_method_22_code 45 = .ok (.laload, 1) := by decide +kernel
theorem d12_46 : decode prog_35_method_22_code 46 = .ok (.lstore_n 3, 1) := by decide +kernel
theorem d12_47 : decode prog_35_method_22_code 47 = .ok (.goto 9, 3) := by decide +kernel
theorem d12_50 : decode prog_35_method_22_code 50 = .ok (.iinc 5 (-1), 3) := by decide +kernel
theorem d12_53 : decode prog_35_method_22_code 53 = .ok (.goto (-41), 3) := by decide +kernel
theorem d12_56 : decode prog_35_method_22_code 56 = .ok (.lload_n 3, 1) := by decide +kernel
theorem d12_57 : decode prog_35_method_22_code 57 = .ok (.lconst 0, 1) := by decide +kernel
theorem d12_58 : decode prog_35_method_22_code 58 = .ok (.lcmp, 1) := by decide +kernel
theorem d12_59 : decode prog_35_method_22_code 59 = .ok (.ifCond .lt 12, 3) := by decide +kernel
theorem d12_71 : decode prog_35_method_22_code 71 = .ok (.iload_n 1, 1) := by decide +kernel
theorem d12_72 : decode prog_35_method_22_code 72 = .ok (.aload_n 0, 1) := by decide +kernel
theorem d12_73 : decode prog_35_method_22_code 73 = .ok (.getfield 17, 3) := by decide +kernel
theorem d12_76 : decode prog_35_method_22_code 76 = .ok (.aload_n 0, 1) := by decide +kernel
theorem d12_77 : decode prog_35_method_22_code 77 = .ok (.getfield 28, 3) := by decide +kernel
theorem d12_80 : decode prog_35_method_22_code 80 = .ok (.iconst 1, 1) := by decide +kernel
theorem d12_81 : decode prog_35_method_22_code 81 = .ok (.isub, 1) := by decide +kernel
theorem d12_82 : decode prog_35_method_22_code 82 = .ok (.iaload, 1) := by decide +kernel
theorem d12_83 : decode prog_35_method_22_code 83 = .ok (.iconst 1, 1) := by decide +kernel
theorem d12_84 : decode prog_35_method_22_code 84 = .ok (.invokestatic 98, 3) := by decide +kernel
theorem d12_87 : decode prog_35_method_22_code 87 = .ok (.if_icmp .ne 11, 3) := by decide +kernel
theorem d12_90 : decode prog_35_method_22_code 90 = .ok (.getstatic 36, 3) := by decide +kernel
theorem d12_93 : decode prog_35_method_22_code 93 = .ok (.astore 5, 2) := by decide +kernel
theorem d12_95 : decode prog_35_method_22_code 95 = .ok (.goto 8, 3) := by decide +kernel
theorem d12_98 : decode prog_35_method_22_code 98 = .ok (.getstatic 42, 3) := by decide +kernel
theorem d12_101 : decode prog_35_method_22_code 101 = .ok (.astore 5, 2) := by decide +kernel
theorem d12_103 : decode prog_35_method_22_code 103 = .ok (.aload 5, 2) := by decide +kernel
theorem d12_105 : decode prog_35_method_22_code 105 = .ok (.areturn, 1) := by decide +kernel
theorem pd12 : parseMethodDescriptor "(II)Lcom/example/albatross/albatross/storage/SequenceCheck;" = some ⟨[.int, .int], some (.object "com/example/albatross/albatross/storage/SequenceCheck")⟩ := by decide +kernel
theorem pn12 : plainFor (⟨"com/example/albatross/albatross/storage/ProducerState", "checkCurrentEpoch", "(II)Lcom/example/albatross/albatross/storage/SequenceCheck;"⟩ : MethodName) = true := by first | (refine plainFor_of_name ?_; simp [plainName, overriddenIn]; done) | (refine plainFor_of_name ?_; decide +kernel) | decide +kernel
abbrev B12 : Bd := ((⟨"com/example/albatross/albatross/storage/ProducerState", "checkCurrentEpoch", "(II)Lcom/example/albatross/albatross/storage/SequenceCheck;"⟩ : MethodName), prog_35_method_22_code, 6, (some (.object "com/example/albatross/albatross/storage/SequenceCheck")), ({ frames := 1, cells := 0, slots := 0, locals := 14 } : Room), tables_1)
theorem ef12r1 (mid : MethodId) (a : Addr) (f : Int32) (l : Int32) : entryFrame mid (List.toArray [.ref a, .int f, .int l]) 6 = mkF mid 0 #[.val (.ref a), .val (.int f), .val (.int l), .unset, .unset, .unset] [] := by first | (simp [entryFrame, mkF, argsToLocals, Value.category]; done) | rfl
def Q12r1 (Z : State) (h0 : Heap) (v : Option Value) (h : Heap) : Prop := ∃ r o, v = some (.ref r) ∧ h0 = h ∧ Exa Z h r "com/example/albatross/albatross/storage/SequenceCheck" ∧ Fld Z h r "com/example/albatross/albatross/storage/SequenceCheck" "outcome" "Lcom/example/albatross/albatross/storage/SequenceCheck$Outcome;" (.ref o)
set_option maxRecDepth 65536 in
set_option maxHeartbeats 40000000 in
theorem c12r1 (Z : State) (hw : Wd Z tables_1) (h0 : Heap) (a : Addr) (f : Int32) (l : Int32)  (fa : Addr) (la : Addr) (ba : Addr) (e0 : Int32) (xs : List Int32) (ys : List Int32) (zs : List Int64) (P0 : Pt0 Z a fa la ba) (S : ST Z h0 a fa la ba (1 : Int32) e0 xs ys zs) (sa : Addr) (so : Addr) (si : Addr) (oa : Addr) (oo : Addr) (oi : Addr) (hv : Ev1 Z sa so si oa oo oi) (nd0 : ¬ xs.getD 0 0 = f) : Con Z B12 (List.toArray [.ref a, .int f, .int l]) h0 (Q12r1 Z h0) := by
  refine Con.mk hw pn12 (fun mid => ef12r1 mid a f l) (Go.old fun hle' => ?_)
  have hle := hle'.1
  obtain ⟨E1, F2, F3, F4, F5, F6, A7, A8, A9, l10, l11, l12⟩ := S
  obtain ⟨pg1, pg2, pg3, pg4, pn1, pn2, pn3, pn4, pn5, pn6⟩ := id P0
  obtain ⟨vS1, vE1, vF1, vS2, vE2, vF2, vS3, vE3, vF3, vS4⟩ := id hv
  refine Go.ldc2J 3 rfl (v := (-1 : Int64)) 74 d12_0 rfl ?_
  refine Go.lstoreN 4 rfl d12_3 (Ls' := #[.val (.ref a), .val (.int f), .val (.int l), .val (.long (-1 : Int64)), .second, .unset]) rfl ?_
  refine Go.aloadN 5 rfl d12_4 rfl rfl ?_
  refine Go.getF 8 rfl (v := .int (1 : Int32)) 23 d12_5 rfl F5 ?_
  refine Go.iconst 9 rfl (1 : Int32) d12_8 rfl ?_
  refine Go.isub 10 rfl d12_9 ?_
  refine Go.eqI (w := 0) (by decide) ?_
  refine Go.istore 12 rfl d12_10 (Ls' := #[.val (.ref a), .val (.int f), .val (.int l), .val (.long (-1 : Int64)), .second, .val (.int (0 : Int32))]) rfl ?_
  refine Go.iload 14 rfl d12_12 rfl ?_
  refine Go.if_lt 56 17 d12_14 (by decide) rfl rfl (fun (b13 : (0 : Int32) < 0) => ?_) (fun (b13 : ¬ (0 : Int32) < 0) => ?_)
  · exact absurd b13 (show ¬ (0 : Int32) < 0 from by decide)
  · refine Go.aloadN 18 rfl d12_17 rfl rfl ?_
    refine Go.getF 21 rfl (v := .ref fa) 11 d12_18 rfl F2 ?_
    refine Go.iload 23 rfl d12_21 rfl ?_
    refine Go.iaload 24 rfl (xs.getD 0 0) d12_23 A7 0 rfl (IL.get l10 (by decide)) ?_
    refine Go.iloadN 25 rfl d12_24 rfl ?_
    refine Go.icmp_ne 50 28 d12_25 (by decide) rfl rfl (fun (b14 : ¬ (xs.getD 0 0) = f) => ?_) (fun (b14 : (xs.getD 0 0) = f) => ?_)
    · refine Go.iinc 53 rfl (-1 : Int32) d12_50 rfl rfl (Ls' := #[.val (.ref a), .val (.int f), .val (.int l), .val (.long (-1 : Int64)), .second, .val (.int ((0 : Int32) + (-1 : Int32)))]) rfl ?_
      refine Go.goto 12 d12_53 (by decide) (by decide) ?_
      refine Go.iload 14 rfl d12_12 rfl ?_
      refine Go.if_lt 56 17 d12_14 (by decide) rfl rfl (fun (b15 : ((0 : Int32) + (-1 : Int32)) < 0) => ?_) (fun (b15 : ¬ ((0 : Int32) + (-1 : Int32)) < 0) => ?_)
      · refine Go.lloadN 57 rfl d12_56 rfl ?_
        refine Go.lconst 58 rfl (0 : Int64) d12_57 rfl ?_
        refine Go.lcmp 59 rfl d12_58 ?_
        refine Go.eqI (w := -1) (by decide) ?_
        refine Go.if_lt 71 62 d12_59 (by decide) rfl rfl (fun (b16 : (-1 : Int32) < 0) => ?_) (fun (b16 : ¬ (-1 : Int32) < 0) => ?_)
        · refine Go.iloadN 72 rfl d12_71 rfl ?_
          refine Go.aloadN 73 rfl d12_72 rfl rfl ?_
          refine Go.getF 76 rfl (v := .ref la) 13 d12_73 rfl F3 ?_
          refine Go.aloadN 77 rfl d12_76 rfl rfl ?_
          refine Go.getF 80 rfl (v := .int (1 : Int32)) 23 d12_77 rfl F5 ?_
          refine Go.iconst 81 rfl (1 : Int32) d12_80 rfl ?_
          refine Go.isub 82 rfl d12_81 ?_
          refine Go.iaload 83 rfl (ys.getD 0 0) d12_82 A8 0 rfl (IL.get l11 (by decide)) ?_
          refine Go.iconst 84 rfl (1 : Int32) d12_83 rfl ?_
          refine Go.callS 87 rfl (C := B8) [.int (ys.getD 0 0), .int (1 : Int32)] (rest := [.int f]) 42 43 3 44 (c8 Z hw h0 (ys.getD 0 0) (1 : Int32) ) d12_84 rfl rfl rfl rfl (by decide) pd8 rfl rfl rfl (W := 1) (Nat.le_of_ble_eq_true rfl) (by decide) (by decide) (by decide) (by decide) fun v17 h18 q19 => ?_
          obtain ⟨y20, rfl, rfl⟩ := q19
          refine Go.icmp_ne 98 90 d12_87 (by decide) rfl rfl (fun (b21 : ¬ f = y20) => ?_) (fun (b21 : f = y20) => ?_)
          · refine Go.getS 101 rfl (v := .ref so) 46 d12_98 rfl vS2 ?_
            refine Go.astore 103 rfl d12_101 rfl (Ls' := #[.val (.ref a), .val (.int f), .val (.int l), .val (.long (-1 : Int64)), .second, .val (.ref so)]) rfl ?_
            refine Go.aload 105 rfl d12_103 rfl rfl ?_
            refine Go.old fun x22 => ?_
            exact Go.retA d12_105 rfl rfl rfl (by decide) (by decide) ⟨so, oo, rfl, rfl, vE2.ext x22, vF2.ext x22⟩
          · refine Go.getS 93 rfl (v := .ref sa) 75 d12_90 rfl vS1 ?_
            refine Go.astore 95 rfl d12_93 rfl (Ls' := #[.val (.ref a), .val (.int f), .val (.int l), .val (.long (-1 : Int64)), .second, .val (.ref sa)]) rfl ?_
            refine Go.goto 103 d12_95 (by decide) (by decide) ?_
            refine Go.aload 105 rfl d12_103 rfl rfl ?_
            refine Go.old fun x23 => ?_
            exact Go.retA d12_105 rfl rfl rfl (by decide) (by decide) ⟨sa, oa, rfl, rfl, vE1.ext x23, vF1.ext x23⟩
        · exact absurd (show (-1 : Int32) < 0 from by decide) b16
      · exact absurd (show ((0 : Int32) + (-1 : Int32)) < 0 from by decide) b15
    · exact absurd b14 nd0
theorem ef12r2 (mid : MethodId) (a : Addr) (f : Int32) (l : Int32) : entryFrame mid (List.toArray [.ref a, .int f, .int l]) 6 = mkF mid 0 #[.val (.ref a), .val (.int f), .val (.int l), .unset, .unset, .unset] [] := by first | (simp [entryFrame, mkF, argsToLocals, Value.category]; done) | rfl
def Q12r2 (Z : State) (h0 : Heap) (v : Option Value) (h : Heap) : Prop := ∃ r o, v = some (.ref r) ∧ h0 = h ∧ Exa Z h r "com/example/albatross/albatross/storage/SequenceCheck" ∧ Fld Z h r "com/example/albatross/albatross/storage/SequenceCheck" "outcome" "Lcom/example/albatross/albatross/storage/SequenceCheck$Outcome;" (.ref o)
set_option maxRecDepth 65536 in
set_option maxHeartbeats 40000000 in
theorem c12r2 (Z : State) (hw : Wd Z tables_1) (h0 : Heap) (a : Addr) (f : Int32) (l : Int32)  (fa : Addr) (la : Addr) (ba : Addr) (e0 : Int32) (xs : List Int32) (ys : List Int32) (zs : List Int64) (P0 : Pt0 Z a fa la ba) (S : ST Z h0 a fa la ba (2 : Int32) e0 xs ys zs) (sa : Addr) (so : Addr) (si : Addr) (oa : Addr) (oo : Addr) (oi : Addr) (hv : Ev1 Z sa so si oa oo oi) (nd0 : ¬ xs.getD 0 0 = f) (nd1 : ¬ xs.getD 1 0 = f) : Con Z B12 (List.toArray [.ref a, .int f, .int l]) h0 (Q12r2 Z h0) := by
  refine Con.mk hw pn12 (fun mid => ef12r2 mid a f l) (Go.old fun hle' => ?_)
  have hle := hle'.1
  obtain ⟨E1, F2, F3, F4, F5, F6, A7, A8, A9, l10, l11, l12⟩ := S
  obtain ⟨pg1, pg2, pg3, pg4, pn1, pn2, pn3, pn4, pn5, pn6⟩ := id P0
  obtain ⟨vS1, vE1, vF1, vS2, vE2, vF2, vS3, vE3, vF3, vS4⟩ := id hv
  refine Go.ldc2J 3 rfl (v := (-1 : Int64)) 74 d12_0 rfl ?_
  refine Go.lstoreN 4 rfl d12_3 (Ls' := #[.val (.ref a), .val (.int f), .val (.int l), .val (.long (-1 : Int64)), .second, .unset]) rfl ?_
  refine Go.aloadN 5 rfl d12_4 rfl rfl ?_
  refine Go.getF 8 rfl (v := .int (2 : Int32)) 23 d12_5 rfl F5 ?_
  refine Go.iconst 9 rfl (1 : Int32) d12_8 rfl ?_
  refine Go.isub 10 rfl d12_9 ?_
  refine Go.eqI (w := 1) (by decide) ?_
  refine Go.istore 12 rfl d12_10 (Ls' := #[.val (.ref a), .val (.int f), .val (.int l), .val (.long (-1 : Int64)), .second, .val (.int (1 : Int32))]) rfl ?_
  refine Go.iload 14 rfl d12_12 rfl ?_
  refine Go.if_lt 56 17 d12_14 (by decide) rfl rfl (fun (b13 : (1 : Int32) < 0) => ?_) (fun (b13 : ¬ (1 : Int32) < 0) => ?_)
  · exact absurd b13 (show ¬ (1 : Int32) < 0 from by decide)
  · refine Go.aloadN 18 rfl d12_17 rfl rfl ?_
    refine Go.getF 21 rfl (v := .ref fa) 11 d12_18 rfl F2 ?_
    refine Go.iload 23 rfl d12_21 rfl ?_
    refine Go.iaload 24 rfl (xs.getD 1 0) d12_23 A7 1 rfl (IL.get l10 (by decide)) ?_
    refine Go.iloadN 25 rfl d12_24 rfl ?_
    refine Go.icmp_ne 50 28 d12_25 (by decide) rfl rfl (fun (b14 : ¬ (xs.getD 1 0) = f) => ?_) (fun (b14 : (xs.getD 1 0) = f) => ?_)
    · refine Go.iinc 53 rfl (-1 : Int32) d12_50 rfl rfl (Ls' := #[.val (.ref a), .val (.int f), .val (.int l), .val (.long (-1 : Int64)), .second, .val (.int ((1 : Int32) + (-1 : Int32)))]) rfl ?_
      refine Go.goto 12 d12_53 (by decide) (by decide) ?_
      refine Go.iload 14 rfl d12_12 rfl ?_
      refine Go.if_lt 56 17 d12_14 (by decide) rfl rfl (fun (b15 : ((1 : Int32) + (-1 : Int32)) < 0) => ?_) (fun (b15 : ¬ ((1 : Int32) + (-1 : Int32)) < 0) => ?_)
      · exact absurd b15 (show ¬ ((1 : Int32) + (-1 : Int32)) < 0 from by decide)
      · refine Go.aloadN 18 rfl d12_17 rfl rfl ?_
        refine Go.getF 21 rfl (v := .ref fa) 11 d12_18 rfl F2 ?_
        refine Go.iload 23 rfl d12_21 rfl ?_
        refine Go.iaload 24 rfl (xs.getD 0 0) d12_23 A7 0 rfl (IL.get l10 (by decide)) ?_
        refine Go.iloadN 25 rfl d12_24 rfl ?_
        refine Go.icmp_ne 50 28 d12_25 (by decide) rfl rfl (fun (b16 : ¬ (xs.getD 0 0) = f) => ?_) (fun (b16 : (xs.getD 0 0) = f) => ?_)
        · refine Go.iinc 53 rfl (-1 : Int32) d12_50 rfl rfl (Ls' := #[.val (.ref a), .val (.int f), .val (.int l), .val (.long (-1 : Int64)), .second, .val (.int (((1 : Int32) + (-1 : Int32)) + (-1 : Int32)))]) rfl ?_
          refine Go.goto 12 d12_53 (by decide) (by decide) ?_
          refine Go.iload 14 rfl d12_12 rfl ?_
          refine Go.if_lt 56 17 d12_14 (by decide) rfl rfl (fun (b17 : (((1 : Int32) + (-1 : Int32)) + (-1 : Int32)) < 0) => ?_) (fun (b17 : ¬ (((1 : Int32) + (-1 : Int32)) + (-1 : Int32)) < 0) => ?_)
          · refine Go.lloadN 57 rfl d12_56 rfl ?_
            refine Go.lconst 58 rfl (0 : Int64) d12_57 rfl ?_
            refine Go.lcmp 59 rfl d12_58 ?_
            refine Go.eqI (w := -1) (by decide) ?_
            refine Go.if_lt 71 62 d12_59 (by decide) rfl rfl (fun (b18 : (-1 : Int32) < 0) => ?_) (fun (b18 : ¬ (-1 : Int32) < 0) => ?_)
            · refine Go.iloadN 72 rfl d12_71 rfl ?_
              refine Go.aloadN 73 rfl d12_72 rfl rfl ?_
              refine Go.getF 76 rfl (v := .ref la) 13 d12_73 rfl F3 ?_
              refine Go.aloadN 77 rfl d12_76 rfl rfl ?_
              refine Go.getF 80 rfl (v := .int (2 : Int32)) 23 d12_77 rfl F5 ?_
              refine Go.iconst 81 rfl (1 : Int32) d12_80 rfl ?_
              refine Go.isub 82 rfl d12_81 ?_
              refine Go.iaload 83 rfl (ys.getD 1 0) d12_82 A8 1 rfl (IL.get l11 (by decide)) ?_
              refine Go.iconst 84 rfl (1 : Int32) d12_83 rfl ?_
              refine Go.callS 87 rfl (C := B8) [.int (ys.getD 1 0), .int (1 : Int32)] (rest := [.int f]) 42 43 3 44 (c8 Z hw h0 (ys.getD 1 0) (1 : Int32) ) d12_84 rfl rfl rfl rfl (by decide) pd8 rfl rfl rfl (W := 1) (Nat.le_of_ble_eq_true rfl) (by decide) (by decide) (by decide) (by decide) fun v19 h20 q21 => ?_
              obtain ⟨y22, rfl, rfl⟩ := q21
              refine Go.icmp_ne 98 90 d12_87 (by decide) rfl rfl (fun (b23 : ¬ f = y22) => ?_) (fun (b23 : f = y22) => ?_)
              · refine Go.getS 101 rfl (v := .ref so) 46 d12_98 rfl vS2 ?_
                refine Go.astore 103 rfl d12_101 rfl (Ls' := #[.val (.ref a), .val (.int f), .val (.int l), .val (.long (-1 : Int64)), .second, .val (.ref so)]) rfl ?_
                refine Go.aload 105 rfl d12_103 rfl rfl ?_
                refine Go.old fun x24 => ?_
                exact Go.retA d12_105 rfl rfl rfl (by decide) (by decide) ⟨so, oo, rfl, rfl, vE2.ext x24, vF2.ext x24⟩
              · refine Go.getS 93 rfl (v := .ref sa) 75 d12_90 rfl vS1 ?_
                refine Go.astore 95 rfl d12_93 rfl (Ls' := #[.val (.ref a), .val (.int f), .val (.int l), .val (.long (-1 : Int64)), .second, .val (.ref sa)]) rfl ?_
                refine Go.goto 103 d12_95 (by decide) (by decide) ?_
                refine Go.aload 105 rfl d12_103 rfl rfl ?_
                refine Go.old fun x25 => ?_
                exact Go.retA d12_105 rfl rfl rfl (by decide) (by decide) ⟨sa, oa, rfl, rfl, vE1.ext x25, vF1.ext x25⟩
            · exact absurd (show (-1 : Int32) < 0 from by decide) b18
          · exact absurd (show (((1 : Int32) + (-1 : Int32)) + (-1 : Int32)) < 0 from by decide) b17
        · exact absurd b16 nd0
    · exact absurd b14 nd1
theorem d6_0 : decode prog_35_method_2_code 0 = .ok (.iload_n 2, 1) := by decide +kernel
theorem d6_1 : decode prog_35_method_2_code 1 = .ok (.iload_n 3, 1) := by decide +kernel
theorem d6_2 : decode prog_35_method_2_code 2 = .ok (.invokestatic 24, 3) := by decide +kernel
theorem d6_5 : decode prog_35_method_2_code 5 = .ok (.istore 4, 2) := by decide +kernel
theorem d6_7 : decode prog_35_method_2_code 7 = .ok (.aload_n 0, 1) := by decide +kernel
theorem d6_8 : decode prog_35_method_2_code 8 = .ok (.getfield 28, 3) := by decide +kernel
theorem d6_11 : decode prog_35_method_2_code 11 = .ok (.ifCond .eq 11, 3) := by decide +kernel
theorem d6_14 : decode prog_35_method_2_code 14 = .ok (.iload_n 1, 1) := by decide +kernel
theorem d6_15 : decode prog_35_method_2_code 15 = .ok (.aload_n 0, 1) := by decide +kernel
theorem d6_16 : decode prog_35_method_2_code 16 = .ok (.getfield 32, 3) := by decide +kernel
theorem d6_19 : decode prog_35_method_2_code 19 = .ok (.if_icmp .le 21, 3) := by decide +kernel
theorem d6_22 : decode prog_35_method_2_code 22 = .ok (.iload_n 2, 1) := by decide +kernel
theorem d6_23 : decode prog_35_method_2_code 23 = .ok (.ifCond .ne 9, 3) := by decide +kernel
theorem d6_26 : decode prog_35_method_2_code 26 = .ok (.getstatic 36, 3) := by decide +kernel
theorem d6_29 : decode prog_35_method_2_code 29 = .ok (.goto 6, 3) := by decide +kernel
theorem d6_32 : decode prog_35_method_2_code 32 = .ok (.getstatic 42, 3) := by decide +kernel
theorem d6_35 : decode prog_35_method_2_code 35 = .ok (.astore 5, 2) := by decide +kernel
theorem d6_37 : decode prog_35_method_2_code 37 = .ok (.goto 28, 3) := by decide +kernel
theorem d6_40 : decode prog_35_method_2_code 40 = .ok (.iload_n 1, 1) := by decide +kernel
theorem d6_41 : decode prog_35_method_2_code 41 = .ok (.aload_n 0, 1) := by decide +kernel
theorem d6_42 : decode prog_35_method_2_code 42 = .ok (.getfield 32, 3) := by decide +kernel
theorem d6_45 : decode prog_35_method_2_code 45 = .ok (.if_icmp .ge 11, 3) := by decide +kernel
theorem d6_48 : decode prog_35_method_2_code 48 = .ok (.getstatic 45, 3) := by decide +kernel
theorem d6_51 : decode prog_35_method_2_code 51 = .ok (.astore 5, 2) := by decide +kernel
theorem d6_53 : decode prog_35_method_2_code 53 = .ok (.goto 12, 3) := by decide +kernel
theorem d6_56 : decode prog_35_method_2_code 56 = .ok (.aload_n 0, 1) := by decide +kernel
theorem d6_57 : decode prog_35_method_2_code 57 = .ok (.iload_n 2, 1) := by decide +kernel
theorem d6_58 : decode prog_35_method_2_code 58 = .ok (.iload 4, 2) := by decide +kernel
theorem d6_60 : decode prog_35_method_2_code 60 = .ok (.invokevirtual 48, 3) := by decide +kernel
theorem d6_63 : decode prog_35_method_2_code 63 = .ok (.astore 5, 2) := by decide +kernel
theorem d6_65 : decode prog_35_method_2_code 65 = .ok (.aload 5, 2) := by decide +kernel
theorem d6_67 : decode prog_35_method_2_code 67 = .ok (.areturn, 1) := by decide +kernel
theorem pd6 : parseMethodDescriptor "(SII)Lcom/example/albatross/albatross/storage/SequenceCheck;" = some ⟨[.short, .int, .int], some (.object "com/example/albatross/albatross/storage/SequenceCheck")⟩ := by decide +kernel
theorem pn6 : plainFor (⟨"com/example/albatross/albatross/storage/ProducerState", "check", "(SII)Lcom/example/albatross/albatross/storage/SequenceCheck;"⟩ : MethodName) = true := by first | (refine plainFor_of_name ?_; simp [plainName, overriddenIn]; done) | (refine plainFor_of_name ?_; decide +kernel) | decide +kernel
abbrev B6 : Bd := ((⟨"com/example/albatross/albatross/storage/ProducerState", "check", "(SII)Lcom/example/albatross/albatross/storage/SequenceCheck;"⟩ : MethodName), prog_35_method_2_code, 6, (some (.object "com/example/albatross/albatross/storage/SequenceCheck")), ({ frames := 2, cells := 0, slots := 0, locals := 31 } : Room), tables_1)
theorem ef6r2 (mid : MethodId) (a : Addr) (e : Int32) (f : Int32) (n : Int32) : entryFrame mid (List.toArray [.ref a, .int e, .int f, .int n]) 6 = mkF mid 0 #[.val (.ref a), .val (.int e), .val (.int f), .val (.int n), .unset, .unset] [] := by first | (simp [entryFrame, mkF, argsToLocals, Value.category]; done) | rfl
def Q6r2 (Z : State) (h0 : Heap) (v : Option Value) (h : Heap) : Prop := ∃ r o, v = some (.ref r) ∧ h0 = h ∧ Exa Z h r "com/example/albatross/albatross/storage/SequenceCheck" ∧ Fld Z h r "com/example/albatross/albatross/storage/SequenceCheck" "outcome" "Lcom/example/albatross/albatross/storage/SequenceCheck$Outcome;" (.ref o)
set_option maxRecDepth 65536 in
set_option maxHeartbeats 40000000 in
theorem c6r2 (Z : State) (hw : Wd Z tables_1) (h0 : Heap) (a : Addr) (e : Int32) (f : Int32) (n : Int32)  (fa : Addr) (la : Addr) (ba : Addr) (e0 : Int32) (xs : List Int32) (ys : List Int32) (zs : List Int64) (P0 : Pt0 Z a fa la ba) (S : ST Z h0 a fa la ba (2 : Int32) e0 xs ys zs) (sa : Addr) (so : Addr) (si : Addr) (oa : Addr) (oo : Addr) (oi : Addr) (hv : Ev1 Z sa so si oa oo oi) (nd0 : ¬ xs.getD 0 0 = f) (nd1 : ¬ xs.getD 1 0 = f) (hn : ¬ n < 1) : Con Z B6 (List.toArray [.ref a, .int e, .int f, .int n]) h0 (Q6r2 Z h0) := by
  refine Con.mk hw pn6 (fun mid => ef6r2 mid a e f n) (Go.old fun hle' => ?_)
  have hle := hle'.1
  obtain ⟨E1, F2, F3, F4, F5, F6, A7, A8, A9, l10, l11, l12⟩ := id S
  obtain ⟨pg1, pg2, pg3, pg4, pn1, pn2, pn3, pn4, pn5, pn6⟩ := id P0
  obtain ⟨vS1, vE1, vF1, vS2, vE2, vF2, vS3, vE3, vF3, vS4⟩ := id hv
  refine Go.iloadN 1 rfl d6_0 rfl ?_
  refine Go.iloadN 2 rfl d6_1 rfl ?_
  refine Go.callS 5 rfl (C := B7) [.int f, .int n] (rest := []) 39 40 3 41 (c7 Z hw h0 f n hn) d6_2 rfl rfl rfl rfl (by decide) pd7 rfl rfl rfl (W := 0) (Nat.le_of_ble_eq_true rfl) (by decide) (by decide) (by decide) (by decide) fun v13 h14 q15 => ?_
  obtain ⟨y16, rfl, rfl⟩ := q15
  refine Go.istore 7 rfl d6_5 (Ls' := #[.val (.ref a), .val (.int e), .val (.int f), .val (.int n), .val (.int y16), .unset]) rfl ?_
  refine Go.aloadN 8 rfl d6_7 rfl rfl ?_
  refine Go.getF 11 rfl (v := .int (2 : Int32)) 23 d6_8 rfl F5 ?_
  refine Go.if_eq 22 14 d6_11 (by decide) rfl rfl (fun (b17 : (2 : Int32) = 0) => ?_) (fun (b17 : ¬ (2 : Int32) = 0) => ?_)
  · exact absurd b17 (show ¬ (2 : Int32) = 0 from by decide)
  · refine Go.iloadN 15 rfl d6_14 rfl ?_
    refine Go.aloadN 16 rfl d6_15 rfl rfl ?_
    refine Go.getF 19 rfl (v := .int e0) 64 d6_16 rfl F6 ?_
    refine Go.icmp_le 40 22 d6_19 (by decide) rfl rfl (fun (b18 : ¬ e0 < e) => ?_) (fun (b18 : e0 < e) => ?_)
    · refine Go.iloadN 41 rfl d6_40 rfl ?_
      refine Go.aloadN 42 rfl d6_41 rfl rfl ?_
      refine Go.getF 45 rfl (v := .int e0) 64 d6_42 rfl F6 ?_
      refine Go.icmp_ge 56 48 d6_45 (by decide) rfl rfl (fun (b22 : ¬ e < e0) => ?_) (fun (b22 : e < e0) => ?_)
      · refine Go.aloadN 57 rfl d6_56 rfl rfl ?_
        refine Go.iloadN 58 rfl d6_57 rfl ?_
        refine Go.iload 60 rfl d6_58 rfl ?_
        refine Go.callP2 63 rfl (C := B12) a [.int f, .int y16] (rest := []) 70 71 2 72 3 73 (c12r2 Z hw h0 a f y16 fa la ba e0 xs ys zs P0 S sa so si oa oo oi hv nd0 nd1) E1 d6_60 rfl rfl rfl rfl rfl rfl (by decide) pd12 rfl rfl rfl (W := 0) (Nat.le_of_ble_eq_true rfl) (by decide) (by decide) (by decide) (by decide) fun v24 h25 q26 => ?_
        obtain ⟨r, o, rfl, rfl, rE, rF⟩ := q26
        refine Go.astore 65 rfl d6_63 rfl (Ls' := #[.val (.ref a), .val (.int e), .val (.int f), .val (.int n), .val (.int y16), .val (.ref r)]) rfl ?_
        refine Go.aload 67 rfl d6_65 rfl rfl ?_
        exact Go.retA d6_67 rfl rfl rfl (by decide) (by decide) ⟨r, o, rfl, rfl, rE, rF⟩
      · refine Go.getS 51 rfl (v := .ref si) 141 d6_48 rfl vS3 ?_
        refine Go.astore 53 rfl d6_51 rfl (Ls' := #[.val (.ref a), .val (.int e), .val (.int f), .val (.int n), .val (.int y16), .val (.ref si)]) rfl ?_
        refine Go.goto 65 d6_53 (by decide) (by decide) ?_
        refine Go.aload 67 rfl d6_65 rfl rfl ?_
        refine Go.old fun x23 => ?_
        exact Go.retA d6_67 rfl rfl rfl (by decide) (by decide) ⟨si, oi, rfl, rfl, vE3.ext x23, vF3.ext x23⟩
    · refine Go.iloadN 23 rfl d6_22 rfl ?_
      refine Go.if_ne 32 26 d6_23 (by decide) rfl rfl (fun (b19 : ¬ f = 0) => ?_) (fun (b19 : f = 0) => ?_)
      · refine Go.getS 35 rfl (v := .ref so) 46 d6_32 rfl vS2 ?_
        refine Go.astore 37 rfl d6_35 rfl (Ls' := #[.val (.ref a), .val (.int e), .val (.int f), .val (.int n), .val (.int y16), .val (.ref so)]) rfl ?_
        refine Go.goto 65 d6_37 (by decide) (by decide) ?_
        refine Go.aload 67 rfl d6_65 rfl rfl ?_
        refine Go.old fun x20 => ?_
        exact Go.retA d6_67 rfl rfl rfl (by decide) (by decide) ⟨so, oo, rfl, rfl, vE2.ext x20, vF2.ext x20⟩
      · refine Go.getS 29 rfl (v := .ref sa) 75 d6_26 rfl vS1 ?_
        refine Go.goto 35 d6_29 (by decide) (by decide) ?_
        refine Go.astore 37 rfl d6_35 rfl (Ls' := #[.val (.ref a), .val (.int e), .val (.int f), .val (.int n), .val (.int y16), .val (.ref sa)]) rfl ?_
        refine Go.goto 65 d6_37 (by decide) (by decide) ?_
        refine Go.aload 67 rfl d6_65 rfl rfl ?_
        refine Go.old fun x21 => ?_
        exact Go.retA d6_67 rfl rfl rfl (by decide) (by decide) ⟨sa, oa, rfl, rfl, vE1.ext x21, vF1.ext x21⟩
theorem ef6r1 (mid : MethodId) (a : Addr) (e : Int32) (f : Int32) (n : Int32) : entryFrame mid (List.toArray [.ref a, .int e, .int f, .int n]) 6 = mkF mid 0 #[.val (.ref a), .val (.int e), .val (.int f), .val (.int n), .unset, .unset] [] := by first | (simp [entryFrame, mkF, argsToLocals, Value.category]; done) | rfl
def Q6r1 (Z : State) (h0 : Heap) (v : Option Value) (h : Heap) : Prop := ∃ r o, v = some (.ref r) ∧ h0 = h ∧ Exa Z h r "com/example/albatross/albatross/storage/SequenceCheck" ∧ Fld Z h r "com/example/albatross/albatross/storage/SequenceCheck" "outcome" "Lcom/example/albatross/albatross/storage/SequenceCheck$Outcome;" (.ref o)
set_option maxRecDepth 65536 in
set_option maxHeartbeats 40000000 in
theorem c6r1 (Z : State) (hw : Wd Z tables_1) (h0 : Heap) (a : Addr) (e : Int32) (f : Int32) (n : Int32)  (fa : Addr) (la : Addr) (ba : Addr) (e0 : Int32) (xs : List Int32) (ys : List Int32) (zs : List Int64) (P0 : Pt0 Z a fa la ba) (S : ST Z h0 a fa la ba (1 : Int32) e0 xs ys zs) (sa : Addr) (so : Addr) (si : Addr) (oa : Addr) (oo : Addr) (oi : Addr) (hv : Ev1 Z sa so si oa oo oi) (nd0 : ¬ xs.getD 0 0 = f) (hn : ¬ n < 1) : Con Z B6 (List.toArray [.ref a, .int e, .int f, .int n]) h0 (Q6r1 Z h0) := by
  refine Con.mk hw pn6 (fun mid => ef6r1 mid a e f n) (Go.old fun hle' => ?_)
  have hle := hle'.1
  obtain ⟨E1, F2, F3, F4, F5, F6, A7, A8, A9, l10, l11, l12⟩ := id S
  obtain ⟨pg1, pg2, pg3, pg4, pn1, pn2, pn3, pn4, pn5, pn6⟩ := id P0
  obtain ⟨vS1, vE1, vF1, vS2, vE2, vF2, vS3, vE3, vF3, vS4⟩ := id hv
  refine Go.iloadN 1 rfl d6_0 rfl ?_
  refine Go.iloadN 2 rfl d6_1 rfl ?_
  refine Go.callS 5 rfl (C := B7) [.int f, .int n] (rest := []) 39 40 3 41 (c7 Z hw h0 f n hn) d6_2 rfl rfl rfl rfl (by decide) pd7 rfl rfl rfl (W := 0) (Nat.le_of_ble_eq_true rfl) (by decide) (by decide) (by decide) (by decide) fun v13 h14 q15 => ?_
  obtain ⟨y16, rfl, rfl⟩ := q15
  refine Go.istore 7 rfl d6_5 (Ls' := #[.val (.ref a), .val (.int e), .val (.int f), .val (.int n), .val (.int y16), .unset]) rfl ?_
  refine Go.aloadN 8 rfl d6_7 rfl rfl ?_
  refine Go.getF 11 rfl (v := .int (1 : Int32)) 23 d6_8 rfl F5 ?_
  refine Go.if_eq 22 14 d6_11 (by decide) rfl rfl (fun (b17 : (1 : Int32) = 0) => ?_) (fun (b17 : ¬ (1 : Int32) = 0) => ?_)
  · exact absurd b17 (show ¬ (1 : Int32) = 0 from by decide)
  · refine Go.iloadN 15 rfl d6_14 rfl ?_
    refine Go.aloadN 16 rfl d6_15 rfl rfl ?_
    refine Go.getF 19 rfl (v := .int e0) 64 d6_16 rfl F6 ?_
    refine Go.icmp_le 40 22 d6_19 (by decide) rfl rfl (fun (b18 : ¬ e0 < e) => ?_) (fun (b18 : e0 < e) => ?_)
    · refine Go.iloadN 41 rfl d6_40 rfl ?_
      refine Go.aloadN 42 rfl d6_41 rfl rfl ?_
      refine Go.getF 45 rfl (v := .int e0) 64 d6_42 rfl F6 ?_
      refine Go.icmp_ge 56 48 d6_45 (by decide) rfl rfl (fun (b22 : ¬ e < e0) => ?_) (fun (b22 : e < e0) => ?_)
      · refine Go.aloadN 57 rfl d6_56 rfl rfl ?_
        refine Go.iloadN 58 rfl d6_57 rfl ?_
        refine Go.iload 60 rfl d6_58 rfl ?_
        refine Go.callP2 63 rfl (C := B12) a [.int f, .int y16] (rest := []) 70 71 2 72 3 73 (c12r1 Z hw h0 a f y16 fa la ba e0 xs ys zs P0 S sa so si oa oo oi hv nd0) E1 d6_60 rfl rfl rfl rfl rfl rfl (by decide) pd12 rfl rfl rfl (W := 0) (Nat.le_of_ble_eq_true rfl) (by decide) (by decide) (by decide) (by decide) fun v24 h25 q26 => ?_
        obtain ⟨r, o, rfl, rfl, rE, rF⟩ := q26
        refine Go.astore 65 rfl d6_63 rfl (Ls' := #[.val (.ref a), .val (.int e), .val (.int f), .val (.int n), .val (.int y16), .val (.ref r)]) rfl ?_
        refine Go.aload 67 rfl d6_65 rfl rfl ?_
        exact Go.retA d6_67 rfl rfl rfl (by decide) (by decide) ⟨r, o, rfl, rfl, rE, rF⟩
      · refine Go.getS 51 rfl (v := .ref si) 141 d6_48 rfl vS3 ?_
        refine Go.astore 53 rfl d6_51 rfl (Ls' := #[.val (.ref a), .val (.int e), .val (.int f), .val (.int n), .val (.int y16), .val (.ref si)]) rfl ?_
        refine Go.goto 65 d6_53 (by decide) (by decide) ?_
        refine Go.aload 67 rfl d6_65 rfl rfl ?_
        refine Go.old fun x23 => ?_
        exact Go.retA d6_67 rfl rfl rfl (by decide) (by decide) ⟨si, oi, rfl, rfl, vE3.ext x23, vF3.ext x23⟩
    · refine Go.iloadN 23 rfl d6_22 rfl ?_
      refine Go.if_ne 32 26 d6_23 (by decide) rfl rfl (fun (b19 : ¬ f = 0) => ?_) (fun (b19 : f = 0) => ?_)
      · refine Go.getS 35 rfl (v := .ref so) 46 d6_32 rfl vS2 ?_
        refine Go.astore 37 rfl d6_35 rfl (Ls' := #[.val (.ref a), .val (.int e), .val (.int f), .val (.int n), .val (.int y16), .val (.ref so)]) rfl ?_
        refine Go.goto 65 d6_37 (by decide) (by decide) ?_
        refine Go.aload 67 rfl d6_65 rfl rfl ?_
        refine Go.old fun x20 => ?_
        exact Go.retA d6_67 rfl rfl rfl (by decide) (by decide) ⟨so, oo, rfl, rfl, vE2.ext x20, vF2.ext x20⟩
      · refine Go.getS 29 rfl (v := .ref sa) 75 d6_26 rfl vS1 ?_
        refine Go.goto 35 d6_29 (by decide) (by decide) ?_
        refine Go.astore 37 rfl d6_35 rfl (Ls' := #[.val (.ref a), .val (.int e), .val (.int f), .val (.int n), .val (.int y16), .val (.ref sa)]) rfl ?_
        refine Go.goto 65 d6_37 (by decide) (by decide) ?_
        refine Go.aload 67 rfl d6_65 rfl rfl ?_
        refine Go.old fun x21 => ?_
        exact Go.retA d6_67 rfl rfl rfl (by decide) (by decide) ⟨sa, oa, rfl, rfl, vE1.ext x21, vF1.ext x21⟩
theorem ef6r0 (mid : MethodId) (a : Addr) (e : Int32) (f : Int32) (n : Int32) : entryFrame mid (List.toArray [.ref a, .int e, .int f, .int n]) 6 = mkF mid 0 #[.val (.ref a), .val (.int e), .val (.int f), .val (.int n), .unset, .unset] [] := by first | (simp [entryFrame, mkF, argsToLocals, Value.category]; done) | rfl
def Q6r0 (Z : State) (h0 : Heap) (v : Option Value) (h : Heap) : Prop := ∃ r o, v = some (.ref r) ∧ h0 = h ∧ Exa Z h r "com/example/albatross/albatross/storage/SequenceCheck" ∧ Fld Z h r "com/example/albatross/albatross/storage/SequenceCheck" "outcome" "Lcom/example/albatross/albatross/storage/SequenceCheck$Outcome;" (.ref o)
set_option maxRecDepth 65536 in
set_option maxHeartbeats 40000000 in
theorem c6r0 (Z : State) (hw : Wd Z tables_1) (h0 : Heap) (a : Addr) (e : Int32) (f : Int32) (n : Int32)  (fa : Addr) (la : Addr) (ba : Addr) (e0 : Int32) (xs : List Int32) (ys : List Int32) (zs : List Int64) (P0 : Pt0 Z a fa la ba) (S : ST Z h0 a fa la ba (0 : Int32) e0 xs ys zs) (sa : Addr) (so : Addr) (si : Addr) (oa : Addr) (oo : Addr) (oi : Addr) (hv : Ev1 Z sa so si oa oo oi) (hn : ¬ n < 1) : Con Z B6 (List.toArray [.ref a, .int e, .int f, .int n]) h0 (Q6r0 Z h0) := by
  refine Con.mk hw pn6 (fun mid => ef6r0 mid a e f n) (Go.old fun hle' => ?_)
  have hle := hle'.1
  obtain ⟨E1, F2, F3, F4, F5, F6, A7, A8, A9, l10, l11, l12⟩ := id S
  obtain ⟨pg1, pg2, pg3, pg4, pn1, pn2, pn3, pn4, pn5, pn6⟩ := id P0
  obtain ⟨vS1, vE1, vF1, vS2, vE2, vF2, vS3, vE3, vF3, vS4⟩ := id hv
  refine Go.iloadN 1 rfl d6_0 rfl ?_
  refine Go.iloadN 2 rfl d6_1 rfl ?_
  refine Go.callS 5 rfl (C := B7) [.int f, .int n] (rest := []) 39 40 3 41 (c7 Z hw h0 f n hn) d6_2 rfl rfl rfl rfl (by decide) pd7 rfl rfl rfl (W := 0) (Nat.le_of_ble_eq_true rfl) (by decide) (by decide) (by decide) (by decide) fun v13 h14 q15 => ?_
  obtain ⟨y16, rfl, rfl⟩ := q15
  refine Go.istore 7 rfl d6_5 (Ls' := #[.val (.ref a), .val (.int e), .val (.int f), .val (.int n), .val (.int y16), .unset]) rfl ?_
  refine Go.aloadN 8 rfl d6_7 rfl rfl ?_
  refine Go.getF 11 rfl (v := .int (0 : Int32)) 23 d6_8 rfl F5 ?_
  refine Go.if_eq 22 14 d6_11 (by decide) rfl rfl (fun (b17 : (0 : Int32) = 0) => ?_) (fun (b17 : ¬ (0 : Int32) = 0) => ?_)
  · refine Go.iloadN 23 rfl d6_22 rfl ?_
    refine Go.if_ne 32 26 d6_23 (by decide) rfl rfl (fun (b18 : ¬ f = 0) => ?_) (fun (b18 : f = 0) => ?_)
    · refine Go.getS 35 rfl (v := .ref so) 46 d6_32 rfl vS2 ?_
      refine Go.astore 37 rfl d6_35 rfl (Ls' := #[.val (.ref a), .val (.int e), .val (.int f), .val (.int n), .val (.int y16), .val (.ref so)]) rfl ?_
      refine Go.goto 65 d6_37 (by decide) (by decide) ?_
      refine Go.aload 67 rfl d6_65 rfl rfl ?_
      refine Go.old fun x19 => ?_
      exact Go.retA d6_67 rfl rfl rfl (by decide) (by decide) ⟨so, oo, rfl, rfl, vE2.ext x19, vF2.ext x19⟩
    · refine Go.getS 29 rfl (v := .ref sa) 75 d6_26 rfl vS1 ?_
      refine Go.goto 35 d6_29 (by decide) (by decide) ?_
      refine Go.astore 37 rfl d6_35 rfl (Ls' := #[.val (.ref a), .val (.int e), .val (.int f), .val (.int n), .val (.int y16), .val (.ref sa)]) rfl ?_
      refine Go.goto 65 d6_37 (by decide) (by decide) ?_
      refine Go.aload 67 rfl d6_65 rfl rfl ?_
      refine Go.old fun x20 => ?_
      exact Go.retA d6_67 rfl rfl rfl (by decide) (by decide) ⟨sa, oa, rfl, rfl, vE1.ext x20, vF1.ext x20⟩
  · exact absurd (show (0 : Int32) = 0 from by decide) b17
theorem d9_0 : decode prog_38_method_3_code 0 = .ok (.aload_n 0, 1) := by decide +kernel
theorem d9_1 : decode prog_38_method_3_code 1 = .ok (.getfield 7, 3) := by decide +kernel
theorem d9_4 : decode prog_38_method_3_code 4 = .ok (.areturn, 1) := by decide +kernel
theorem pd9 : parseMethodDescriptor "()Lcom/example/albatross/albatross/storage/SequenceCheck$Outcome;" = some ⟨[], some (.object "com/example/albatross/albatross/storage/SequenceCheck$Outcome")⟩ := by decide +kernel
theorem pn9 : plainFor (⟨"com/example/albatross/albatross/storage/SequenceCheck", "outcome", "()Lcom/example/albatross/albatross/storage/SequenceCheck$Outcome;"⟩ : MethodName) = true := by first | (refine plainFor_of_name ?_; simp [plainName, overriddenIn]; done) | (refine plainFor_of_name ?_; decide +kernel) | decide +kernel
abbrev B9 : Bd := ((⟨"com/example/albatross/albatross/storage/SequenceCheck", "outcome", "()Lcom/example/albatross/albatross/storage/SequenceCheck$Outcome;"⟩ : MethodName), prog_38_method_3_code, 1, (some (.object "com/example/albatross/albatross/storage/SequenceCheck$Outcome")), ({ frames := 0, cells := 0, slots := 0, locals := 0 } : Room), tables_1)
theorem ef9 (mid : MethodId) (a : Addr) : entryFrame mid (List.toArray [.ref a]) 1 = mkF mid 0 #[.val (.ref a)] [] := by first | (simp [entryFrame, mkF, argsToLocals, Value.category]; done) | rfl
def Q9 (r : Addr) (h0 : Heap) (v : Option Value) (h : Heap) : Prop := v = some (.ref r) ∧ h0 = h
set_option maxRecDepth 65536 in
set_option maxHeartbeats 40000000 in
theorem c9 (Z : State) (hw : Wd Z tables_1) (h0 : Heap) (a : Addr) (r : Addr) (hF : Fld Z h0 a "com/example/albatross/albatross/storage/SequenceCheck" "outcome" "Lcom/example/albatross/albatross/storage/SequenceCheck$Outcome;" (.ref r)) : Con Z B9 (List.toArray [.ref a]) h0 (Q9 r h0) := by
  refine Con.mk hw pn9 (fun mid => ef9 mid a) (Go.old fun hle' => ?_)
  have hle := hle'.1
  refine Go.aloadN 1 rfl d9_0 rfl rfl ?_
  refine Go.getF 4 rfl (v := .ref r) 54 d9_1 rfl hF ?_
  exact Go.retA d9_4 rfl rfl rfl (by decide) (by decide) ⟨rfl, rfl⟩
theorem d5_0 : decode prog_35_method_4_code 0 = .ok (.aload_n 0, 1) := by decide +kernel
theorem d5_1 : decode prog_35_method_4_code 1 = .ok (.iload_n 1, 1) := by decide +kernel
theorem d5_2 : decode prog_35_method_4_code 2 = .ok (.iload_n 2, 1) := by decide +kernel
theorem d5_3 : decode prog_35_method_4_code 3 = .ok (.iload_n 3, 1) := by decide +kernel
theorem d5_4 : decode prog_35_method_4_code 4 = .ok (.invokevirtual 61, 3) := by decide +kernel
theorem d5_7 : decode prog_35_method_4_code 7 = .ok (.invokevirtual 65, 3) := by decide +kernel
theorem d5_10 : decode prog_35_method_4_code 10 = .ok (.getstatic 69, 3) := by decide +kernel
theorem d5_13 : decode prog_35_method_4_code 13 = .ok (.if_acmp .eq 8, 3) := by decide +kernel
theorem d5_16 : decode prog_35_method_4_code 16 = .ok (.aload_n 0, 1) := by decide +kernel
theorem d5_17 : decode prog_35_method_4_code 17 = .ok (.iconst 0, 1) := by decide +kernel
theorem d5_18 : decode prog_35_method_4_code 18 = .ok (.putfield 28, 3) := by decide +kernel
theorem d5_21 : decode prog_35_method_4_code 21 = .ok (.aload_n 0, 1) := by decide +kernel
theorem d5_22 : decode prog_35_method_4_code 22 = .ok (.iload_n 1, 1) := by decide +kernel
theorem d5_23 : decode prog_35_method_4_code 23 = .ok (.iload_n 2, 1) := by decide +kernel
theorem d5_24 : decode prog_35_method_4_code 24 = .ok (.iload_n 3, 1) := by decide +kernel
theorem d5_25 : decode prog_35_method_4_code 25 = .ok (.lload 4, 2) := by decide +kernel
theorem d5_27 : decode prog_35_method_4_code 27 = .ok (.invokevirtual 86, 3) := by decide +kernel
theorem d5_30 : decode prog_35_method_4_code 30 = .ok (.return_, 1) := by decide +kernel
theorem pd5 : parseMethodDescriptor "(SIIJ)V" = some ⟨[.short, .int, .int, .long], none⟩ := by decide +kernel
theorem pn5 : plainFor (⟨"com/example/albatross/albatross/storage/ProducerState", "replay", "(SIIJ)V"⟩ : MethodName) = true := by first | (refine plainFor_of_name ?_; simp [plainName, overriddenIn]; done) | (refine plainFor_of_name ?_; decide +kernel) | decide +kernel
abbrev B5 : Bd := ((⟨"com/example/albatross/albatross/storage/ProducerState", "replay", "(SIIJ)V"⟩ : MethodName), prog_35_method_4_code, 6, none, ({ frames := 3, cells := 0, slots := 0, locals := 48 } : Room), tables_1)
theorem ef5r2 (mid : MethodId) (a : Addr) (e : Int32) (f : Int32) (n : Int32) (o : Int64) : entryFrame mid (List.toArray [.ref a, .int e, .int f, .int n, .long o]) 6 = mkF mid 0 #[.val (.ref a), .val (.int e), .val (.int f), .val (.int n), .val (.long o), .second] [] := by first | (simp [entryFrame, mkF, argsToLocals, Value.category]; done) | rfl
def Q5r2 (Z : State) (a : Addr) (fa : Addr) (la : Addr) (ba : Addr) (xs : List Int32) (ys : List Int32) (zs : List Int64) (f : Int32) (o : Int64) (h0 : Heap) (v : Option Value) (h : Heap) : Prop := ∃ l e1, v = none ∧ Keep h0 h [a, fa, la, ba] ∧ (ST Z h a fa la ba 3 e1 (xs.set 2 f) (ys.set 2 l) (zs.set 2 o) ∨ ST Z h a fa la ba 1 e1 (xs.set 0 f) (ys.set 0 l) (zs.set 0 o))
set_option maxRecDepth 65536 in
set_option maxHeartbeats 40000000 in
theorem c5r2 (Z : State) (hw : Wd Z tables_1) (h0 : Heap) (a : Addr) (e : Int32) (f : Int32) (n : Int32) (o : Int64) (fa : Addr) (la : Addr) (ba : Addr) (xs : List Int32) (ys : List Int32) (zs : List Int64) (e0 : Int32) (P0 : Pt0 Z a fa la ba) (S : ST Z h0 a fa la ba (2 : Int32) e0 xs ys zs) (sa : Addr) (so : Addr) (si : Addr) (oa : Addr) (oo : Addr) (oi : Addr) (hv : Ev1 Z sa so si oa oo oi) (nd0 : ¬ xs.getD 0 0 = f) (nd1 : ¬ xs.getD 1 0 = f) (hn : ¬ n < 1) : Con Z B5 (List.toArray [.ref a, .int e, .int f, .int n, .long o]) h0 (Q5r2 Z a fa la ba xs ys zs f o h0) := by
  refine Con.mk hw pn5 (fun mid => ef5r2 mid a e f n o) (Go.old fun hle' => ?_)
  have hle := hle'.1
  obtain ⟨E1, F2, F3, F4, F5, F6, A7, A8, A9, l10, l11, l12⟩ := id S
  obtain ⟨pg1, pg2, pg3, pg4, pn1, pn2, pn3, pn4, pn5, pn6⟩ := id P0
  obtain ⟨vS1, vE1, vF1, vS2, vE2, vF2, vS3, vE3, vF3, vS4⟩ := id hv
  refine Go.aloadN 1 rfl d5_0 rfl rfl ?_
  refine Go.iloadN 2 rfl d5_1 rfl ?_
  refine Go.iloadN 3 rfl d5_2 rfl ?_
  refine Go.iloadN 4 rfl d5_3 rfl ?_
  refine Go.callV 7 rfl (C := B6) a [.int e, .int f, .int n] (rest := []) 34 35 37 36 3 38 (c6r2 Z hw h0 a e f n fa la ba e0 xs ys zs P0 S sa so si oa oo oi hv nd0 nd1 hn) E1 d5_4 rfl rfl rfl rfl rfl rfl (by decide) pd6 rfl rfl rfl (W := 0) (Nat.le_of_ble_eq_true rfl) (by decide) (by decide) (by decide) (by decide) fun v13 h14 q15 => ?_
  obtain ⟨r, oc, rfl, rfl, rE, rF⟩ := q15
  refine Go.callV 10 rfl (C := B9) r [] (rest := []) 49 50 52 51 47 53 (c9 Z hw h0 r oc rF) rE d5_7 rfl rfl rfl rfl rfl rfl (by decide) pd9 rfl rfl rfl (W := 0) (Nat.le_of_ble_eq_true rfl) (by decide) (by decide) (by decide) (by decide) fun v16 h17 q18 => ?_
  obtain ⟨rfl, rfl⟩ := q18
  refine Go.getS 13 rfl (v := .ref oa) 58 d5_10 rfl vS4 ?_
  refine Go.acmp_eq 21 16 d5_13 (by decide) rfl rfl rfl rfl (fun (b19 : (.ref oc : Value) = .ref oa) => ?_) (fun (b19 : ¬ (.ref oc : Value) = .ref oa) => ?_)
  · refine Go.aloadN 22 rfl d5_21 rfl rfl ?_
    refine Go.iloadN 23 rfl d5_22 rfl ?_
    refine Go.iloadN 24 rfl d5_23 rfl ?_
    refine Go.iloadN 25 rfl d5_24 rfl ?_
    refine Go.lload 27 rfl d5_25 rfl ?_
    refine Go.callP2 30 rfl (C := B10) a [.int e, .int f, .int n, .long o] (rest := []) 60 61 2 62 3 63 (c10r2 Z hw h0 a e f n o fa la ba xs ys zs e0 P0 S hn) E1 d5_27 rfl rfl rfl rfl rfl rfl (by decide) pd10 rfl rfl rfl (W := 0) (Nat.le_of_ble_eq_true rfl) (by decide) (by decide) (by decide) (by decide) fun v20 h21 q22 => ?_
    obtain ⟨l23, e24, rfl, K25, Q26⟩ := q22
    exact Go.retV d5_30 rfl (by decide) (by decide) ⟨_, _, rfl, ((Keep.refl h0 [a, fa, la, ba]).trans K25 (by simp)), Q26⟩
  · refine Go.aloadN 17 rfl d5_16 rfl rfl ?_
    refine Go.iconst 18 rfl (0 : Int32) d5_17 rfl ?_
    refine Go.putF 21 rfl (v' := .int (0 : Int32)) (ty := .int) 23 24 2 d5_18 rfl F5 E1 (Or.inl rfl) rfl (by decide) rfl rfl pg1 fun h27 K28 W29 F30 => ?_
    have F31 : Exa Z h27 a "com/example/albatross/albatross/storage/ProducerState" := (E1.keep K28)
    have F32 : Fld Z h27 a "com/example/albatross/albatross/storage/ProducerState" "firstSequences" "[I" (.ref fa) := (Fld.oth hw F2 W29 12 24 (Or.inr rfl) (Or.inl rfl) (by decide) rfl rfl)
    have F33 : Fld Z h27 a "com/example/albatross/albatross/storage/ProducerState" "lastSequences" "[I" (.ref la) := (Fld.oth hw F3 W29 14 24 (Or.inr rfl) (Or.inl rfl) (by decide) rfl rfl)
    have F34 : Fld Z h27 a "com/example/albatross/albatross/storage/ProducerState" "baseOffsets" "[J" (.ref ba) := (Fld.oth hw F4 W29 16 24 (Or.inr rfl) (Or.inl rfl) (by decide) rfl rfl)
    have F35 : Fld Z h27 a "com/example/albatross/albatross/storage/ProducerState" "epoch" "S" (.int e0) := (Fld.oth hw F6 W29 65 24 (Or.inl rfl) (Or.inl rfl) (by decide) rfl rfl)
    have F36 : Ary Z h27 fa .int (IL xs) := (A7.keep K28 (ninS (Ne.symm pn1) nin0))
    have F37 : Ary Z h27 la .int (IL ys) := (A8.keep K28 (ninS (Ne.symm pn2) nin0))
    have F38 : Ary Z h27 ba .long (JL zs) := (A9.keep K28 (ninS (Ne.symm pn3) nin0))
    refine Go.aloadN 22 rfl d5_21 rfl rfl ?_
    refine Go.iloadN 23 rfl d5_22 rfl ?_
    refine Go.iloadN 24 rfl d5_23 rfl ?_
    refine Go.iloadN 25 rfl d5_24 rfl ?_
    refine Go.lload 27 rfl d5_25 rfl ?_
    refine Go.callP2 30 rfl (C := B10) a [.int e, .int f, .int n, .long o] (rest := []) 60 61 2 62 3 63 (c10r0 Z hw h27 a e f n o fa la ba xs ys zs e0 P0 (show ST Z h27 a fa la ba (0 : Int32) e0 xs ys zs from ⟨F31, F32, F33, F34, F30, F35, F36, F37, F38, l10, l11, l12⟩) hn) F31 d5_27 rfl rfl rfl rfl rfl rfl (by decide) pd10 rfl rfl rfl (W := 0) (Nat.le_of_ble_eq_true rfl) (by decide) (by decide) (by decide) (by decide) fun v39 h40 q41 => ?_
    obtain ⟨l42, e43, rfl, K44, Q45⟩ := q41
    exact Go.retV d5_30 rfl (by decide) (by decide) ⟨_, _, rfl, (((Keep.refl h0 [a, fa, la, ba]).trans K28 (by simp)).trans K44 (by simp)), Or.inr Q45⟩
theorem ef5r1 (mid : MethodId) (a : Addr) (e : Int32) (f : Int32) (n : Int32) (o : Int64) : entryFrame mid (List.toArray [.ref a, .int e, .int f, .int n, .long o]) 6 = mkF mid 0 #[.val (.ref a), .val (.int e), .val (.int f), .val (.int n), .val (.long o), .second] [] := by first | (simp [entryFrame, mkF, argsToLocals, Value.category]; done) | rfl
def Q5r1 (Z : State) (a : Addr) (fa : Addr) (la : Addr) (ba : Addr) (xs : List Int32) (ys : List Int32) (zs : List Int64) (f : Int32) (o : Int64) (h0 : Heap) (v : Option Value) (h : Heap) : Prop := ∃ l e1, v = none ∧ Keep h0 h [a, fa, la, ba] ∧ (ST Z h a fa la ba 2 e1 (xs.set 1 f) (ys.set 1 l) (zs.set 1 o) ∨ ST Z h a fa la ba 1 e1 (xs.set 0 f) (ys.set 0 l) (zs.set 0 o))
set_option maxRecDepth 65536 in
set_option maxHeartbeats 40000000 in
theorem c5r1 (Z : State) (hw : Wd Z tables_1) (h0 : Heap) (a : Addr) (e : Int32) (f : Int32) (n : Int32) (o : Int64) (fa : Addr) (la : Addr) (ba : Addr) (xs : List Int32) (ys : List Int32) (zs : List Int64) (e0 : Int32) (P0 : Pt0 Z a fa la ba) (S : ST Z h0 a fa la ba (1 : Int32) e0 xs ys zs) (sa : Addr) (so : Addr) (si : Addr) (oa : Addr) (oo : Addr) (oi : Addr) (hv : Ev1 Z sa so si oa oo oi) (nd0 : ¬ xs.getD 0 0 = f) (hn : ¬ n < 1) : Con Z B5 (List.toArray [.ref a, .int e, .int f, .int n, .long o]) h0 (Q5r1 Z a fa la ba xs ys zs f o h0) := by
  refine Con.mk hw pn5 (fun mid => ef5r1 mid a e f n o) (Go.old fun hle' => ?_)
  have hle := hle'.1
  obtain ⟨E1, F2, F3, F4, F5, F6, A7, A8, A9, l10, l11, l12⟩ := id S
  obtain ⟨pg1, pg2, pg3, pg4, pn1, pn2, pn3, pn4, pn5, pn6⟩ := id P0
  obtain ⟨vS1, vE1, vF1, vS2, vE2, vF2, vS3, vE3, vF3, vS4⟩ := id hv
  refine Go.aloadN 1 rfl d5_0 rfl rfl ?_
  refine Go.iloadN 2 rfl d5_1 rfl ?_
  refine Go.iloadN 3 rfl d5_2 rfl ?_
  refine Go.iloadN 4 rfl d5_3 rfl ?_
  refine Go.callV 7 rfl (C := B6) a [.int e, .int f, .int n] (rest := []) 34 35 37 36 3 38 (c6r1 Z hw h0 a e f n fa la ba e0 xs ys zs P0 S sa so si oa oo oi hv nd0 hn) E1 d5_4 rfl rfl rfl rfl rfl rfl (by decide) pd6 rfl rfl rfl (W := 0) (Nat.le_of_ble_eq_true rfl) (by decide) (by decide) (by decide) (by decide) fun v13 h14 q15 => ?_
  obtain ⟨r, oc, rfl, rfl, rE, rF⟩ := q15
  refine Go.callV 10 rfl (C := B9) r [] (rest := []) 49 50 52 51 47 53 (c9 Z hw h0 r oc rF) rE d5_7 rfl rfl rfl rfl rfl rfl (by decide) pd9 rfl rfl rfl (W := 0) (Nat.le_of_ble_eq_true rfl) (by decide) (by decide) (by decide) (by decide) fun v16 h17 q18 => ?_
  obtain ⟨rfl, rfl⟩ := q18
  refine Go.getS 13 rfl (v := .ref oa) 58 d5_10 rfl vS4 ?_
  refine Go.acmp_eq 21 16 d5_13 (by decide) rfl rfl rfl rfl (fun (b19 : (.ref oc : Value) = .ref oa) => ?_) (fun (b19 : ¬ (.ref oc : Value) = .ref oa) => ?_)
  · refine Go.aloadN 22 rfl d5_21 rfl rfl ?_
    refine Go.iloadN 23 rfl d5_22 rfl ?_
    refine Go.iloadN 24 rfl d5_23 rfl ?_
    refine Go.iloadN 25 rfl d5_24 rfl ?_
    refine Go.lload 27 rfl d5_25 rfl ?_
    refine Go.callP2 30 rfl (C := B10) a [.int e, .int f, .int n, .long o] (rest := []) 60 61 2 62 3 63 (c10r1 Z hw h0 a e f n o fa la ba xs ys zs e0 P0 S hn) E1 d5_27 rfl rfl rfl rfl rfl rfl (by decide) pd10 rfl rfl rfl (W := 0) (Nat.le_of_ble_eq_true rfl) (by decide) (by decide) (by decide) (by decide) fun v20 h21 q22 => ?_
    obtain ⟨l23, e24, rfl, K25, Q26⟩ := q22
    exact Go.retV d5_30 rfl (by decide) (by decide) ⟨_, _, rfl, ((Keep.refl h0 [a, fa, la, ba]).trans K25 (by simp)), Q26⟩
  · refine Go.aloadN 17 rfl d5_16 rfl rfl ?_
    refine Go.iconst 18 rfl (0 : Int32) d5_17 rfl ?_
    refine Go.putF 21 rfl (v' := .int (0 : Int32)) (ty := .int) 23 24 2 d5_18 rfl F5 E1 (Or.inl rfl) rfl (by decide) rfl rfl pg1 fun h27 K28 W29 F30 => ?_
    have F31 : Exa Z h27 a "com/example/albatross/albatross/storage/ProducerState" := (E1.keep K28)
    have F32 : Fld Z h27 a "com/example/albatross/albatross/storage/ProducerState" "firstSequences" "[I" (.ref fa) := (Fld.oth hw F2 W29 12 24 (Or.inr rfl) (Or.inl rfl) (by decide) rfl rfl)
    have F33 : Fld Z h27 a "com/example/albatross/albatross/storage/ProducerState" "lastSequences" "[I" (.ref la) := (Fld.oth hw F3 W29 14 24 (Or.inr rfl) (Or.inl rfl) (by decide) rfl rfl)
    have F34 : Fld Z h27 a "com/example/albatross/albatross/storage/ProducerState" "baseOffsets" "[J" (.ref ba) := (Fld.oth hw F4 W29 16 24 (Or.inr rfl) (Or.inl rfl) (by decide) rfl rfl)
    have F35 : Fld Z h27 a "com/example/albatross/albatross/storage/ProducerState" "epoch" "S" (.int e0) := (Fld.oth hw F6 W29 65 24 (Or.inl rfl) (Or.inl rfl) (by decide) rfl rfl)
    have F36 : Ary Z h27 fa .int (IL xs) := (A7.keep K28 (ninS (Ne.symm pn1) nin0))
    have F37 : Ary Z h27 la .int (IL ys) := (A8.keep K28 (ninS (Ne.symm pn2) nin0))
    have F38 : Ary Z h27 ba .long (JL zs) := (A9.keep K28 (ninS (Ne.symm pn3) nin0))
    refine Go.aloadN 22 rfl d5_21 rfl rfl ?_
    refine Go.iloadN 23 rfl d5_22 rfl ?_
    refine Go.iloadN 24 rfl d5_23 rfl ?_
    refine Go.iloadN 25 rfl d5_24 rfl ?_
    refine Go.lload 27 rfl d5_25 rfl ?_
    refine Go.callP2 30 rfl (C := B10) a [.int e, .int f, .int n, .long o] (rest := []) 60 61 2 62 3 63 (c10r0 Z hw h27 a e f n o fa la ba xs ys zs e0 P0 (show ST Z h27 a fa la ba (0 : Int32) e0 xs ys zs from ⟨F31, F32, F33, F34, F30, F35, F36, F37, F38, l10, l11, l12⟩) hn) F31 d5_27 rfl rfl rfl rfl rfl rfl (by decide) pd10 rfl rfl rfl (W := 0) (Nat.le_of_ble_eq_true rfl) (by decide) (by decide) (by decide) (by decide) fun v39 h40 q41 => ?_
    obtain ⟨l42, e43, rfl, K44, Q45⟩ := q41
    exact Go.retV d5_30 rfl (by decide) (by decide) ⟨_, _, rfl, (((Keep.refl h0 [a, fa, la, ba]).trans K28 (by simp)).trans K44 (by simp)), Or.inr Q45⟩
theorem ef5r0 (mid : MethodId) (a : Addr) (e : Int32) (f : Int32) (n : Int32) (o : Int64) : entryFrame mid (List.toArray [.ref a, .int e, .int f, .int n, .long o]) 6 = mkF mid 0 #[.val (.ref a), .val (.int e), .val (.int f), .val (.int n), .val (.long o), .second] [] := by first | (simp [entryFrame, mkF, argsToLocals, Value.category]; done) | rfl
def Q5r0 (Z : State) (a : Addr) (fa : Addr) (la : Addr) (ba : Addr) (xs : List Int32) (ys : List Int32) (zs : List Int64) (f : Int32) (o : Int64) (h0 : Heap) (v : Option Value) (h : Heap) : Prop := ∃ l e1, v = none ∧ Keep h0 h [a, fa, la, ba] ∧ (ST Z h a fa la ba 1 e1 (xs.set 0 f) (ys.set 0 l) (zs.set 0 o))
set_option maxRecDepth 65536 in
set_option maxHeartbeats 40000000 in
theorem c5r0 (Z : State) (hw : Wd Z tables_1) (h0 : Heap) (a : Addr) (e : Int32) (f : Int32) (n : Int32) (o : Int64) (fa : Addr) (la : Addr) (ba : Addr) (xs : List Int32) (ys : List Int32) (zs : List Int64) (e0 : Int32) (P0 : Pt0 Z a fa la ba) (S : ST Z h0 a fa la ba (0 : Int32) e0 xs ys zs) (sa : Addr) (so : Addr) (si : Addr) (oa : Addr) (oo : Addr) (oi : Addr) (hv : Ev1 Z sa so si oa oo oi) (hn : ¬ n < 1) : Con Z B5 (List.toArray [.ref a, .int e, .int f, .int n, .long o]) h0 (Q5r0 Z a fa la ba xs ys zs f o h0) := by
  refine Con.mk hw pn5 (fun mid => ef5r0 mid a e f n o) (Go.old fun hle' => ?_)
  have hle := hle'.1
  obtain ⟨E1, F2, F3, F4, F5, F6, A7, A8, A9, l10, l11, l12⟩ := id S
  obtain ⟨pg1, pg2, pg3, pg4, pn1, pn2, pn3, pn4, pn5, pn6⟩ := id P0
  obtain ⟨vS1, vE1, vF1, vS2, vE2, vF2, vS3, vE3, vF3, vS4⟩ := id hv
  refine Go.aloadN 1 rfl d5_0 rfl rfl ?_
  refine Go.iloadN 2 rfl d5_1 rfl ?_
  refine Go.iloadN 3 rfl d5_2 rfl ?_
  refine Go.iloadN 4 rfl d5_3 rfl ?_
  refine Go.callV 7 rfl (C := B6) a [.int e, .int f, .int n] (rest := []) 34 35 37 36 3 38 (c6r0 Z hw h0 a e f n fa la ba e0 xs ys zs P0 S sa so si oa oo oi hv  hn) E1 d5_4 rfl rfl rfl rfl rfl rfl (by decide) pd6 rfl rfl rfl (W := 0) (Nat.le_of_ble_eq_true rfl) (by decide) (by decide) (by decide) (by decide) fun v13 h14 q15 => ?_
  obtain ⟨r, oc, rfl, rfl, rE, rF⟩ := q15
  refine Go.callV 10 rfl (C := B9) r [] (rest := []) 49 50 52 51 47 53 (c9 Z hw h0 r oc rF) rE d5_7 rfl rfl rfl rfl rfl rfl (by decide) pd9 rfl rfl rfl (W := 0) (Nat.le_of_ble_eq_true rfl) (by decide) (by decide) (by decide) (by decide) fun v16 h17 q18 => ?_
  obtain ⟨rfl, rfl⟩ := q18
  refine Go.getS 13 rfl (v := .ref oa) 58 d5_10 rfl vS4 ?_
  refine Go.acmp_eq 21 16 d5_13 (by decide) rfl rfl rfl rfl (fun (b19 : (.ref oc : Value) = .ref oa) => ?_) (fun (b19 : ¬ (.ref oc : Value) = .ref oa) => ?_)
  · refine Go.aloadN 22 rfl d5_21 rfl rfl ?_
    refine Go.iloadN 23 rfl d5_22 rfl ?_
    refine Go.iloadN 24 rfl d5_23 rfl ?_
    refine Go.iloadN 25 rfl d5_24 rfl ?_
    refine Go.lload 27 rfl d5_25 rfl ?_
    refine Go.callP2 30 rfl (C := B10) a [.int e, .int f, .int n, .long o] (rest := []) 60 61 2 62 3 63 (c10r0 Z hw h0 a e f n o fa la ba xs ys zs e0 P0 S hn) E1 d5_27 rfl rfl rfl rfl rfl rfl (by decide) pd10 rfl rfl rfl (W := 0) (Nat.le_of_ble_eq_true rfl) (by decide) (by decide) (by decide) (by decide) fun v20 h21 q22 => ?_
    obtain ⟨l23, e24, rfl, K25, Q26⟩ := q22
    exact Go.retV d5_30 rfl (by decide) (by decide) ⟨_, _, rfl, ((Keep.refl h0 [a, fa, la, ba]).trans K25 (by simp)), Q26⟩
  · refine Go.aloadN 17 rfl d5_16 rfl rfl ?_
    refine Go.iconst 18 rfl (0 : Int32) d5_17 rfl ?_
    refine Go.putF 21 rfl (v' := .int (0 : Int32)) (ty := .int) 23 24 2 d5_18 rfl F5 E1 (Or.inl rfl) rfl (by decide) rfl rfl pg1 fun h27 K28 W29 F30 => ?_
    have F31 : Exa Z h27 a "com/example/albatross/albatross/storage/ProducerState" := (E1.keep K28)
    have F32 : Fld Z h27 a "com/example/albatross/albatross/storage/ProducerState" "firstSequences" "[I" (.ref fa) := (Fld.oth hw F2 W29 12 24 (Or.inr rfl) (Or.inl rfl) (by decide) rfl rfl)
    have F33 : Fld Z h27 a "com/example/albatross/albatross/storage/ProducerState" "lastSequences" "[I" (.ref la) := (Fld.oth hw F3 W29 14 24 (Or.inr rfl) (Or.inl rfl) (by decide) rfl rfl)
    have F34 : Fld Z h27 a "com/example/albatross/albatross/storage/ProducerState" "baseOffsets" "[J" (.ref ba) := (Fld.oth hw F4 W29 16 24 (Or.inr rfl) (Or.inl rfl) (by decide) rfl rfl)
    have F35 : Fld Z h27 a "com/example/albatross/albatross/storage/ProducerState" "epoch" "S" (.int e0) := (Fld.oth hw F6 W29 65 24 (Or.inl rfl) (Or.inl rfl) (by decide) rfl rfl)
    have F36 : Ary Z h27 fa .int (IL xs) := (A7.keep K28 (ninS (Ne.symm pn1) nin0))
    have F37 : Ary Z h27 la .int (IL ys) := (A8.keep K28 (ninS (Ne.symm pn2) nin0))
    have F38 : Ary Z h27 ba .long (JL zs) := (A9.keep K28 (ninS (Ne.symm pn3) nin0))
    refine Go.aloadN 22 rfl d5_21 rfl rfl ?_
    refine Go.iloadN 23 rfl d5_22 rfl ?_
    refine Go.iloadN 24 rfl d5_23 rfl ?_
    refine Go.iloadN 25 rfl d5_24 rfl ?_
    refine Go.lload 27 rfl d5_25 rfl ?_
    refine Go.callP2 30 rfl (C := B10) a [.int e, .int f, .int n, .long o] (rest := []) 60 61 2 62 3 63 (c10r0 Z hw h27 a e f n o fa la ba xs ys zs e0 P0 (show ST Z h27 a fa la ba (0 : Int32) e0 xs ys zs from ⟨F31, F32, F33, F34, F30, F35, F36, F37, F38, l10, l11, l12⟩) hn) F31 d5_27 rfl rfl rfl rfl rfl rfl (by decide) pd10 rfl rfl rfl (W := 0) (Nat.le_of_ble_eq_true rfl) (by decide) (by decide) (by decide) (by decide) fun v39 h40 q41 => ?_
    obtain ⟨l42, e43, rfl, K44, Q45⟩ := q41
    exact Go.retV d5_30 rfl (by decide) (by decide) ⟨_, _, rfl, (((Keep.refl h0 [a, fa, la, ba]).trans K28 (by simp)).trans K44 (by simp)), Q45⟩
theorem d4_0 : decode prog_35_method_15_code 0 = .ok (.aload_n 0, 1) := by decide +kernel
theorem d4_1 : decode prog_35_method_15_code 1 = .ok (.iload_n 1, 1) := by decide +kernel
theorem d4_2 : decode prog_35_method_15_code 2 = .ok (.laload, 1) := by decide +kernel
theorem d4_3 : decode prog_35_method_15_code 3 = .ok (.ldc2_w 150, 3) := by decide +kernel
theorem d4_6 : decode prog_35_method_15_code 6 = .ok (.land, 1) := by decide +kernel
theorem d4_7 : decode prog_35_method_15_code 7 = .ok (.lconst 0, 1) := by decide +kernel
theorem d4_8 : decode prog_35_method_15_code 8 = .ok (.lcmp, 1) := by decide +kernel
theorem d4_9 : decode prog_35_method_15_code 9 = .ok (.ifCond .eq 7, 3) := by decide +kernel
theorem d4_12 : decode prog_35_method_15_code 12 = .ok (.iconst 1, 1) := by decide +kernel
theorem d4_13 : decode prog_35_method_15_code 13 = .ok (.goto 4, 3) := by decide +kernel
theorem d4_16 : decode prog_35_method_15_code 16 = .ok (.iconst 0, 1) := by decide +kernel
theorem d4_17 : decode prog_35_method_15_code 17 = .ok (.ireturn, 1) := by decide +kernel
theorem pd4 : parseMethodDescriptor "([JI)Z" = some ⟨[(.array .long), .int], some .boolean⟩ := by decide +kernel
theorem pn4 : plainFor (⟨"com/example/albatross/albatross/storage/ProducerState", "isPacked", "([JI)Z"⟩ : MethodName) = true := by first | (refine plainFor_of_name ?_; simp [plainName, overriddenIn]; done) | (refine plainFor_of_name ?_; decide +kernel) | decide +kernel
abbrev B4 : Bd := ((⟨"com/example/albatross/albatross/storage/ProducerState", "isPacked", "([JI)Z"⟩ : MethodName), prog_35_method_15_code, 2, (some .boolean), ({ frames := 0, cells := 0, slots := 0, locals := 0 } : Room), tables_1)
theorem ef4 (mid : MethodId) (t : Addr) (ix : Int32) : entryFrame mid (List.toArray [.ref t, .int ix]) 2 = mkF mid 0 #[.val (.ref t), .val (.int ix)] [] := by first | (simp [entryFrame, mkF, argsToLocals, Value.category]; done) | rfl
def Q4 (us : List Int64) (N : Nat) (h0 : Heap) (v : Option Value) (h : Heap) : Prop := v = some (.int (if us.getD N 0 &&& 7 = 0 then 0 else 1)) ∧ h0 = h
set_option maxRecDepth 65536 in
set_option maxHeartbeats 40000000 in
theorem c4 (Z : State) (hw : Wd Z tables_1) (h0 : Heap) (t : Addr) (ix : Int32) (us : List Int64) (N : Nat) (hN : ix.toInt = N) (hN3 : N ≤ 3) (hl : us.length = 8) (hA : Ary Z h0 t .long (JL us)) : Con Z B4 (List.toArray [.ref t, .int ix]) h0 (Q4 us N h0) := by
  refine Con.mk hw pn4 (fun mid => ef4 mid t ix) (Go.old fun hle' => ?_)
  have hle := hle'.1
  refine Go.aloadN 1 rfl d4_0 rfl rfl ?_
  refine Go.iloadN 2 rfl d4_1 rfl ?_
  refine Go.laload 3 rfl (us.getD N 0) d4_2 hA N hN (JL.get hl (by omega)) ?_
  refine Go.ldc2J 6 rfl (v := (7 : Int64)) 28 d4_3 rfl ?_
  refine Go.land 7 rfl d4_6 ?_
  refine Go.lconst 8 rfl (0 : Int64) d4_7 rfl ?_
  refine Go.lcmp 9 rfl d4_8 ?_
  refine Go.if_eq 16 12 d4_9 (by decide) rfl rfl (fun (b1 : (XT.cmpL ((us.getD N 0) &&& (7 : Int64)) (0 : Int64)) = 0) => ?_) (fun (b1 : ¬ (XT.cmpL ((us.getD N 0) &&& (7 : Int64)) (0 : Int64)) = 0) => ?_)
  · refine Go.iconst 17 rfl (0 : Int32) d4_16 rfl ?_
    exact Go.retN (t := .boolean) (z' := 0) d4_17 rfl (by decide) (by decide) (by decide) (by decide) ⟨by rw [if_pos ((own_cmp0 _).mp b1)], rfl⟩
  · refine Go.iconst 13 rfl (1 : Int32) d4_12 rfl ?_
    refine Go.goto 17 d4_13 (by decide) (by decide) ?_
    exact Go.retN (t := .boolean) (z' := 1) d4_17 rfl (by decide) (by decide) (by decide) (by decide) ⟨by rw [if_neg (fun q => b1 ((own_cmp0 _).mpr q))], rfl⟩
theorem d22_0 : decode prog_35_method_17_code 0 = .ok (.aload_n 0, 1) := by decide +kernel
theorem d22_1 : decode prog_35_method_17_code 1 = .ok (.iload_n 1, 1) := by decide +kernel
theorem d22_2 : decode prog_35_method_17_code 2 = .ok (.laload, 1) := by decide +kernel
theorem d22_3 : decode prog_35_method_17_code 3 = .ok (.lstore 5, 2) := by decide +kernel
theorem d22_5 : decode prog_35_method_17_code 5 = .ok (.aload_n 0, 1) := by decide +kernel
theorem d22_6 : decode prog_35_method_17_code 6 = .ok (.iload_n 1, 1) := by decide +kernel
theorem d22_7 : decode prog_35_method_17_code 7 = .ok (.iconst 1, 1) := by decide +kernel
theorem d22_8 : decode prog_35_method_17_code 8 = .ok (.iadd, 1) := by decide +kernel
theorem d22_9 : decode prog_35_method_17_code 9 = .ok (.laload, 1) := by decide +kernel
theorem d22_10 : decode prog_35_method_17_code 10 = .ok (.lstore 7, 2) := by decide +kernel
theorem d22_12 : decode prog_35_method_17_code 12 = .ok (.aload_n 0, 1) := by decide +kernel
theorem d22_13 : decode prog_35_method_17_code 13 = .ok (.iload_n 1, 1) := by decide +kernel
theorem d22_14 : decode prog_35_method_17_code 14 = .ok (.iconst 2, 1) := by decide +kernel
theorem d22_15 : decode prog_35_method_17_code 15 = .ok (.iadd, 1) := by decide +kernel
theorem d22_16 : decode prog_35_method_17_code 16 = .ok (.laload, 1) := by decide +kernel
theorem d22_17 : decode prog_35_method_17_code 17 = .ok (.lstore 9, 2) := by decide +kernel
theorem d22_19 : decode prog_35_method_17_code 19 = .ok (.aload_n 0, 1) := by decide +kernel
theorem d22_20 : decode prog_35_method_17_code 20 = .ok (.iload_n 1, 1) := by decide +kernel
theorem d22_21 : decode prog_35_method_17_code 21 = .ok (.iconst 3, 1) := by decide +kernel
theorem d22_22 : decode prog_35_method_17_code 22 = .ok (.iadd, 1) := by decide +kernel
theorem d22_23 : decode prog_35_method_17_code 23 = .ok (.laload, 1) := by decide +kernel
theorem d22_24 : decode prog_35_method_17_code 24 = .ok (.lstore 11, 2) := by decide +kernel
theorem d22_26 : decode prog_35_method_17_code 26 = .ok (.lload 5, 2) := by decide +kernel
theorem d22_28 : decode prog_35_method_17_code 28 = .ok (.l2i, 1) := by decide +kernel
theorem d22_29 : decode prog_35_method_17_code 29 = .ok (.bipush 7, 2) := by decide +kernel
theorem d22_31 : decode prog_35_method_17_code 31 = .ok (.iand, 1) := by decide +kernel
theorem d22_32 : decode prog_35_method_17_code 32 = .ok (.istore 13, 2) := by decide +kernel
theorem d22_34 : decode prog_35_method_17_code 34 = .ok (.lload 5, 2) := by decide +kernel
theorem d22_36 : decode prog_35_method_17_code 36 = .ok (.invokestatic 129, 3) := by decide +kernel
theorem d22_39 : decode prog_35_method_17_code 39 = .ok (.istore 14, 2) := by decide +kernel
theorem d22_41 : decode prog_35_method_17_code 41 = .ok (.lload 5, 2) := by decide +kernel
theorem d22_43 : decode prog_35_method_17_code 43 = .ok (.invokestatic 132, 3) := by decide +kernel
theorem d22_46 : decode prog_35_method_17_code 46 = .ok (.istore 15, 2) := by decide +kernel
theorem d22_48 : decode prog_35_method_17_code 48 = .ok (.lload 5, 2) := by decide +kernel
theorem d22_50 : decode prog_35_method_17_code 50 = .ok (.invokestatic 135, 3) := by decide +kernel
theorem d22_53 : decode prog_35_method_17_code 53 = .ok (.istore 16, 2) := by decide +kernel
theorem d22_55 : decode prog_35_method_17_code 55 = .ok (.lload 7, 2) := by decide +kernel
theorem d22_57 : decode prog_35_method_17_code 57 = .ok (.iload 14, 2) := by decide +kernel
theorem d22_59 : decode prog_35_method_17_code 59 = .ok (.invokestatic 156, 3) := by decide +kernel
theorem d22_62 : decode prog_35_method_17_code 62 = .ok (.land, 1) := by decide +kernel
theorem d22_63 : decode prog_35_method_17_code 63 = .ok (.l2i, 1) := by decide +kernel
theorem d22_64 : decode prog_35_method_17_code 64 = .ok (.istore 17, 2) := by decide +kernel
theorem d22_66 : decode prog_35_method_17_code 66 = .ok (.lload 7, 2) := by decide +kernel
theorem d22_68 : decode prog_35_method_17_code 68 = .ok (.lload 9, 2) := by decide +kernel
theorem d22_70 : decode prog_35_method_17_code 70 = .ok (.lload 11, 2) := by decide +kernel
theorem d22_72 : decode prog_35_method_17_code 72 = .ok (.iload 13, 2) := by decide +kernel
theorem d22_74 : decode prog_35_method_17_code 74 = .ok (.iload 14, 2) := by decide +kernel
theorem d22_76 : decode prog_35_method_17_code 76 = .ok (.iload 15, 2) := by decide +kernel
theorem d22_78 : decode prog_35_method_17_code 78 = .ok (.iload 16, 2) := by decide +kernel
theorem d22_80 : decode prog_35_method_17_code 80 = .ok (.invokestatic 109, 3) := by decide +kernel
theorem d22_83 : decode prog_35_method_17_code 83 = .ok (.invokestatic 146, 3) := by decide +kernel
theorem d22_86 : decode prog_35_method_17_code 86 = .ok (.lstore 18, 2) := by decide +kernel
theorem d22_88 : decode prog_35_method_17_code 88 = .ok (.lload_n 3, 1) := by decide +kernel
theorem d22_89 : decode prog_35_method_17_code 89 = .ok (.lload 18, 2) := by decide +kernel
theorem d22_91 : decode prog_35_method_17_code 91 = .ok (.lsub, 1) := by decide +kernel
theorem d22_92 : decode prog_35_method_17_code 92 = .ok (.iload 17, 2) := by decide +kernel
theorem d22_94 : decode prog_35_method_17_code 94 = .ok (.i2l, 1) := by decide +kernel
theorem d22_95 : decode prog_35_method_17_code 95 = .ok (.lsub, 1) := by decide +kernel
theorem d22_96 : decode prog_35_method_17_code 96 = .ok (.lconst 1, 1) := by decide +kernel
theorem d22_97 : decode prog_35_method_17_code 97 = .ok (.lsub, 1) := by decide +kernel
theorem d22_98 : decode prog_35_method_17_code 98 = .ok (.lstore 20, 2) := by decide +kernel
theorem d22_100 : decode prog_35_method_17_code 100 = .ok (.iload 13, 2) := by decide +kernel
theorem d22_102 : decode prog_35_method_17_code 102 = .ok (.iconst 1, 1) := by decide +kernel
theorem d22_103 : decode prog_35_method_17_code 103 = .ok (.iadd, 1) := by decide +kernel
theorem d22_104 : decode prog_35_method_17_code 104 = .ok (.iconst 5, 1) := by decide +kernel
theorem d22_105 : decode prog_35_method_17_code 105 = .ok (.invokestatic 159, 3) := by decide +kernel
theorem d22_108 : decode prog_35_method_17_code 108 = .ok (.istore 22, 2) := by decide +kernel
theorem d22_110 : decode prog_35_method_17_code 110 = .ok (.iload 22, 2) := by decide +kernel
theorem d22_112 : decode prog_35_method_17_code 112 = .ok (.iconst 2, 1) := by decide +kernel
theorem d22_113 : decode prog_35_method_17_code 113 = .ok (.if_icmp .ne 37, 3) := by decide +kernel
theorem d22_116 : decode prog_35_method_17_code 116 = .ok (.lload 7, 2) := by decide +kernel
theorem d22_118 : decode prog_35_method_17_code 118 = .ok (.iload 14, 2) := by decide +kernel
theorem d22_120 : decode prog_35_method_17_code 120 = .ok (.invokestatic 156, 3) := by decide +kernel
theorem d22_123 : decode prog_35_method_17_code 123 = .ok (.land, 1) := by decide +kernel
theorem d22_124 : decode prog_35_method_17_code 124 = .ok (.lstore 7, 2) := by decide +kernel
theorem d22_126 : decode prog_35_method_17_code 126 = .ok (.iload 14, 2) := by decide +kernel
theorem d22_128 : decode prog_35_method_17_code 128 = .ok (.iload_n 2, 1) := by decide +kernel
theorem d22_129 : decode prog_35_method_17_code 129 = .ok (.i2l, 1) := by decide +kernel
theorem d22_130 : decode prog_35_method_17_code 130 = .ok (.invokestatic 105, 3) := by decide +kernel
theorem d22_133 : decode prog_35_method_17_code 133 = .ok (.invokestatic 164, 3) := by decide +kernel
theorem d22_136 : decode prog_35_method_17_code 136 = .ok (.istore 14, 2) := by decide +kernel
theorem d22_138 : decode prog_35_method_17_code 138 = .ok (.iload 15, 2) := by decide +kernel
theorem d22_140 : decode prog_35_method_17_code 140 = .ok (.lload 20, 2) := by decide +kernel
theorem d22_142 : decode prog_35_method_17_code 142 = .ok (.invokestatic 105, 3) := by decide +kernel
theorem d22_145 : decode prog_35_method_17_code 145 = .ok (.invokestatic 164, 3) := by decide +kernel
theorem d22_148 : decode prog_35_method_17_code 148 = .ok (.istore 15, 2) := by decide +kernel
theorem d22_150 : decode prog_35_method_17_code 150 = .ok (.iload 22, 2) := by decide +kernel
theorem d22_152 : decode prog_35_method_17_code 152 = .ok (.iload 14, 2) := by decide +kernel
theorem d22_154 : decode prog_35_method_17_code 154 = .ok (.iload 15, 2) := by decide +kernel
theorem d22_156 : decode prog_35_method_17_code 156 = .ok (.iload 16, 2) := by decide +kernel
theorem d22_158 : decode prog_35_method_17_code 158 = .ok (.invokestatic 109, 3) := by decide +kernel
theorem d22_161 : decode prog_35_method_17_code 161 = .ok (.istore 23, 2) := by decide +kernel
theorem d22_163 : decode prog_35_method_17_code 163 = .ok (.lload_n 3, 1) := by decide +kernel
theorem d22_164 : decode prog_35_method_17_code 164 = .ok (.lload 18, 2) := by decide +kernel
theorem d22_166 : decode prog_35_method_17_code 166 = .ok (.lcmp, 1) := by decide +kernel
theorem d22_167 : decode prog_35_method_17_code 167 = .ok (.ifCond .lt 53, 3) := by decide +kernel
theorem d22_170 : decode prog_35_method_17_code 170 = .ok (.lload 20, 2) := by decide +kernel
theorem d22_172 : decode prog_35_method_17_code 172 = .ok (.lconst 0, 1) := by decide +kernel
theorem d22_173 : decode prog_35_method_17_code 173 = .ok (.lcmp, 1) := by decide +kernel
theorem d22_174 : decode prog_35_method_17_code 174 = .ok (.ifCond .lt 46, 3) := by decide +kernel
theorem d22_177 : decode prog_35_method_17_code 177 = .ok (.lload 20, 2) := by decide +kernel
theorem d22_179 : decode prog_35_method_17_code 179 = .ok (.invokestatic 105, 3) := by decide +kernel
theorem d22_182 : decode prog_35_method_17_code 182 = .ok (.iload 15, 2) := by decide +kernel
theorem d22_184 : decode prog_35_method_17_code 184 = .ok (.if_icmp .gt 36, 3) := by decide +kernel
theorem d22_187 : decode prog_35_method_17_code 187 = .ok (.iload_n 2, 1) := by decide +kernel
theorem d22_188 : decode prog_35_method_17_code 188 = .ok (.i2l, 1) := by decide +kernel
theorem d22_189 : decode prog_35_method_17_code 189 = .ok (.invokestatic 105, 3) := by decide +kernel
theorem d22_192 : decode prog_35_method_17_code 192 = .ok (.iload 14, 2) := by decide +kernel
theorem d22_194 : decode prog_35_method_17_code 194 = .ok (.if_icmp .gt 26, 3) := by decide +kernel
theorem d22_197 : decode prog_35_method_17_code 197 = .ok (.iload 16, 2) := by decide +kernel
theorem d22_199 : decode prog_35_method_17_code 199 = .ok (.ifCond .eq 9, 3) := by decide +kernel
theorem d22_202 : decode prog_35_method_17_code 202 = .ok (.iload_n 2, 1) := by decide +kernel
theorem d22_203 : decode prog_35_method_17_code 203 = .ok (.iload 17, 2) := by decide +kernel
theorem d22_205 : decode prog_35_method_17_code 205 = .ok (.if_icmp .ne 15, 3) := by decide +kernel
theorem d22_208 : decode prog_35_method_17_code 208 = .ok (.iload 23, 2) := by decide +kernel
theorem d22_210 : decode prog_35_method_17_code 210 = .ok (.lload_n 3, 1) := by decide +kernel
theorem d22_211 : decode prog_35_method_17_code 211 = .ok (.invokestatic 105, 3) := by decide +kernel
theorem d22_214 : decode prog_35_method_17_code 214 = .ok (.invokestatic 113, 3) := by decide +kernel
theorem d22_217 : decode prog_35_method_17_code 217 = .ok (.ifCond .ne 5, 3) := by decide +kernel
theorem d22_220 : decode prog_35_method_17_code 220 = .ok (.iconst 0, 1) := by decide +kernel
theorem d22_221 : decode prog_35_method_17_code 221 = .ok (.ireturn, 1) := by decide +kernel
theorem d22_222 : decode prog_35_method_17_code 222 = .ok (.iload 14, 2) := by decide +kernel
theorem d22_224 : decode prog_35_method_17_code 224 = .ok (.iload 15, 2) := by decide +kernel
theorem d22_226 : decode prog_35_method_17_code 226 = .ok (.iload 16, 2) := by decide +kernel
theorem d22_228 : decode prog_35_method_17_code 228 = .ok (.invokestatic 167, 3) := by decide +kernel
theorem d22_231 : decode prog_35_method_17_code 231 = .ok (.istore 24, 2) := by decide +kernel
theorem d22_233 : decode prog_35_method_17_code 233 = .ok (.iload 24, 2) := by decide +kernel
theorem d22_235 : decode prog_35_method_17_code 235 = .ok (.bipush 64, 2) := by decide +kernel
theorem d22_237 : decode prog_35_method_17_code 237 = .ok (.if_icmp .ge 49, 3) := by decide +kernel
theorem d22_240 : decode prog_35_method_17_code 240 = .ok (.lload 11, 2) := by decide +kernel
theorem d22_242 : decode prog_35_method_17_code 242 = .ok (.iload 24, 2) := by decide +kernel
theorem d22_244 : decode prog_35_method_17_code 244 = .ok (.lshl, 1) := by decide +kernel
theorem d22_245 : decode prog_35_method_17_code 245 = .ok (.lload 9, 2) := by decide +kernel
theorem d22_247 : decode prog_35_method_17_code 247 = .ok (.iconst 1, 1) := by decide +kernel
theorem d22_248 : decode prog_35_method_17_code 248 = .ok (.lushr, 1) := by decide +kernel
theorem d22_249 : decode prog_35_method_17_code 249 = .ok (.bipush 63, 2) := by decide +kernel
theorem d22_251 : decode prog_35_method_17_code 251 = .ok (.iload 24, 2) := by decide +kernel
theorem d22_253 : decode prog_35_method_17_code 253 = .ok (.isub, 1) := by decide +kernel
theorem d22_254 : decode prog_35_method_17_code 254 = .ok (.lushr, 1) := by decide +kernel
theorem d22_255 : decode prog_35_method_17_code 255 = .ok (.lor, 1) := by decide +kernel
theorem d22_256 : decode prog_35_method_17_code 256 = .ok (.lstore 11, 2) := by decide +kernel
theorem d22_258 : decode prog_35_method_17_code 258 = .ok (.lload 9, 2) := by decide +kernel
theorem d22_260 : decode prog_35_method_17_code 260 = .ok (.iload 24, 2) := by decide +kernel
theorem d22_262 : decode prog_35_method_17_code 262 = .ok (.lshl, 1) := by decide +kernel
theorem d22_263 : decode prog_35_method_17_code 263 = .ok (.lload 7, 2) := by decide +kernel
theorem d22_265 : decode prog_35_method_17_code 265 = .ok (.iconst 1, 1) := by decide +kernel
theorem d22_266 : decode prog_35_method_17_code 266 = .ok (.lushr, 1) := by decide +kernel
theorem d22_267 : decode prog_35_method_17_code 267 = .ok (.bipush 63, 2) := by decide +kernel
theorem d22_269 : decode prog_35_method_17_code 269 = .ok (.iload 24, 2) := by decide +kernel
theorem d22_271 : decode prog_35_method_17_code 271 = .ok (.isub, 1) := by decide +kernel
theorem d22_272 : decode prog_35_method_17_code 272 = .ok (.lushr, 1) := by decide +kernel
theorem d22_273 : decode prog_35_method_17_code 273 = .ok (.lor, 1) := by decide +kernel
theorem d22_274 : decode prog_35_method_17_code 274 = .ok (.lstore 9, 2) := by decide +kernel
theorem d22_276 : decode prog_35_method_17_code 276 = .ok (.lload 7, 2) := by decide +kernel
theorem d22_278 : decode prog_35_method_17_code 278 = .ok (.iload 24, 2) := by decide +kernel
theorem d22_280 : decode prog_35_method_17_code 280 = .ok (.lshl, 1) := by decide +kernel
theorem d22_281 : decode prog_35_method_17_code 281 = .ok (.lstore 7, 2) := by decide +kernel
theorem d22_283 : decode prog_35_method_17_code 283 = .ok (.goto 38, 3) := by decide +kernel
theorem d22_286 : decode prog_35_method_17_code 286 = .ok (.iload 24, 2) := by decide +kernel
theorem d22_288 : decode prog_35_method_17_code 288 = .ok (.bipush 64, 2) := by decide +kernel
theorem d22_290 : decode prog_35_method_17_code 290 = .ok (.isub, 1) := by decide +kernel
theorem d22_291 : decode prog_35_method_17_code 291 = .ok (.istore 25, 2) := by decide +kernel
theorem d22_293 : decode prog_35_method_17_code 293 = .ok (.lload 9, 2) := by decide +kernel
theorem d22_295 : decode prog_35_method_17_code 295 = .ok (.iload 25, 2) := by decide +kernel
theorem d22_297 : decode prog_35_method_17_code 297 = .ok (.lshl, 1) := by decide +kernel
theorem d22_298 : decode prog_35_method_17_code 298 = .ok (.lload 7, 2) := by decide +kernel
theorem d22_300 : decode prog_35_method_17_code 300 = .ok (.iconst 1, 1) := by decide +kernel
theorem d22_301 : decode prog_35_method_17_code 301 = .ok (.lushr, 1) := by decide +kernel
theorem d22_302 : decode prog_35_method_17_code 302 = .ok (.bipush 63, 2) := by decide +kernel
theorem d22_304 : decode prog_35_method_17_code 304 = .ok (.iload 25, 2) := by decide +kernel
theorem d22_306 : decode prog_35_method_17_code 306 = .ok (.isub, 1) := by decide +kernel
theorem d22_307 : decode prog_35_method_17_code 307 = .ok (.lushr, 1) := by decide +kernel
theorem d22_308 : decode prog_35_method_17_code 308 = .ok (.lor, 1) := by decide +kernel
theorem d22_309 : decode prog_35_method_17_code 309 = .ok (.lstore 11, 2) := by decide +kernel
theorem d22_311 : decode prog_35_method_17_code 311 = .ok (.lload 7, 2) := by decide +kernel
theorem d22_313 : decode prog_35_method_17_code 313 = .ok (.iload 25, 2) := by decide +kernel
theorem d22_315 : decode prog_35_method_17_code 315 = .ok (.lshl, 1) := by decide +kernel
theorem d22_316 : decode prog_35_method_17_code 316 = .ok (.lstore 9, 2) := by decide +kernel
theorem d22_318 : decode prog_35_method_17_code 318 = .ok (.lconst 0, 1) := by decide +kernel
theorem d22_319 : decode prog_35_method_17_code 319 = .ok (.lstore 7, 2) := by decide +kernel
theorem d22_321 : decode prog_35_method_17_code 321 = .ok (.iload 23, 2) := by decide +kernel
theorem d22_323 : decode prog_35_method_17_code 323 = .ok (.bipush 64, 2) := by decide +kernel
theorem d22_325 : decode prog_35_method_17_code 325 = .ok (.if_icmp .ge 35, 3) := by decide +kernel
theorem d22_328 : decode prog_35_method_17_code 328 = .ok (.lload 7, 2) := by decide +kernel
theorem d22_330 : decode prog_35_method_17_code 330 = .ok (.iload 23, 2) := by decide +kernel
theorem d22_332 : decode prog_35_method_17_code 332 = .ok (.invokestatic 156, 3) := by decide +kernel
theorem d22_335 : decode prog_35_method_17_code 335 = .ok (.land, 1) := by decide +kernel
theorem d22_336 : decode prog_35_method_17_code 336 = .ok (.lload_n 3, 1) := by decide +kernel
theorem d22_337 : decode prog_35_method_17_code 337 = .ok (.iload 23, 2) := by decide +kernel
theorem d22_339 : decode prog_35_method_17_code 339 = .ok (.lshl, 1) := by decide +kernel
theorem d22_340 : decode prog_35_method_17_code 340 = .ok (.lor, 1) := by decide +kernel
theorem d22_341 : decode prog_35_method_17_code 341 = .ok (.lstore 7, 2) := by decide +kernel
theorem d22_343 : decode prog_35_method_17_code 343 = .ok (.lload_n 3, 1) := by decide +kernel
theorem d22_344 : decode prog_35_method_17_code 344 = .ok (.iconst 1, 1) := by decide +kernel
theorem d22_345 : decode prog_35_method_17_code 345 = .ok (.lushr, 1) := by decide +kernel
theorem d22_346 : decode prog_35_method_17_code 346 = .ok (.bipush 63, 2) := by decide +kernel
theorem d22_348 : decode prog_35_method_17_code 348 = .ok (.iload 23, 2) := by decide +kernel
theorem d22_350 : decode prog_35_method_17_code 350 = .ok (.isub, 1) := by decide +kernel
theorem d22_351 : decode prog_35_method_17_code 351 = .ok (.lushr, 1) := by decide +kernel
theorem d22_352 : decode prog_35_method_17_code 352 = .ok (.lstore 9, 2) := by decide +kernel
theorem d22_354 : decode prog_35_method_17_code 354 = .ok (.lconst 0, 1) := by decide +kernel
theorem d22_355 : decode prog_35_method_17_code 355 = .ok (.lstore 11, 2) := by decide +kernel
theorem d22_357 : decode prog_35_method_17_code 357 = .ok (.goto 69, 3) := by decide +kernel
theorem d22_360 : decode prog_35_method_17_code 360 = .ok (.iload 23, 2) := by decide +kernel
theorem d22_362 : decode prog_35_method_17_code 362 = .ok (.sipush 128, 3) := by decide +kernel
theorem d22_365 : decode prog_35_method_17_code 365 = .ok (.if_icmp .ge 38, 3) := by decide +kernel
theorem d22_368 : decode prog_35_method_17_code 368 = .ok (.lload 9, 2) := by decide +kernel
theorem d22_370 : decode prog_35_method_17_code 370 = .ok (.iload 23, 2) := by decide +kernel
theorem d22_372 : decode prog_35_method_17_code 372 = .ok (.bipush 64, 2) := by decide +kernel
theorem d22_374 : decode prog_35_method_17_code 374 = .ok (.isub, 1) := by decide +kernel
theorem d22_375 : decode prog_35_method_17_code 375 = .ok (.invokestatic 156, 3) := by decide +kernel
theorem d22_378 : decode prog_35_method_17_code 378 = .ok (.land, 1) := by decide +kernel
theorem d22_379 : decode prog_35_method_17_code 379 = .ok (.lload_n 3, 1) := by decide +kernel
theorem d22_380 : decode prog_35_method_17_code 380 = .ok (.iload 23, 2) := by decide +kernel
theorem d22_382 : decode prog_35_method_17_code 382 = .ok (.bipush 64, 2) := by decide +kernel
theorem d22_384 : decode prog_35_method_17_code 384 = .ok (.isub, 1) := by decide +kernel
theorem d22_385 : decode prog_35_method_17_code 385 = .ok (.lshl, 1) := by decide +kernel
theorem d22_386 : decode prog_35_method_17_code 386 = .ok (.lor, 1) := by decide +kernel
theorem d22_387 : decode prog_35_method_17_code 387 = .ok (.lstore 9, 2) := by decide +kernel
theorem d22_389 : decode prog_35_method_17_code 389 = .ok (.lload_n 3, 1) := by decide +kernel
theorem d22_390 : decode prog_35_method_17_code 390 = .ok (.iconst 1, 1) := by decide +kernel
theorem d22_391 : decode prog_35_method_17_code 391 = .ok (.lushr, 1) := by decide +kernel
theorem d22_392 : decode prog_35_method_17_code 392 = .ok (.bipush 127, 2) := by decide +kernel
theorem d22_394 : decode prog_35_method_17_code 394 = .ok (.iload 23, 2) := by decide +kernel
theorem d22_396 : decode prog_35_method_17_code 396 = .ok (.isub, 1) := by decide +kernel
theorem d22_397 : decode prog_35_method_17_code 397 = .ok (.lushr, 1) := by decide +kernel
theorem d22_398 : decode prog_35_method_17_code 398 = .ok (.lstore 11, 2) := by decide +kernel
theorem d22_400 : decode prog_35_method_17_code 400 = .ok (.goto 26, 3) := by decide +kernel
theorem d22_403 : decode prog_35_method_17_code 403 = .ok (.lload 11, 2) := by decide +kernel
theorem d22_405 : decode prog_35_method_17_code 405 = .ok (.iload 23, 2) := by decide +kernel
theorem d22_407 : decode prog_35_method_17_code 407 = .ok (.sipush 128, 3) := by decide +kernel
theorem d22_410 : decode prog_35_method_17_code 410 = .ok (.isub, 1) := by decide +kernel
theorem d22_411 : decode prog_35_method_17_code 411 = .ok (.invokestatic 156, 3) := by decide +kernel
theorem d22_414 : decode prog_35_method_17_code 414 = .ok (.land, 1) := by decide +kernel
theorem d22_415 : decode prog_35_method_17_code 415 = .ok (.lload_n 3, 1) := by decide +kernel
theorem d22_416 : decode prog_35_method_17_code 416 = .ok (.iload 23, 2) := by decide +kernel
theorem d22_418 : decode prog_35_method_17_code 418 = .ok (.sipush 128, 3) := by decide +kernel
theorem d22_421 : decode prog_35_method_17_code 421 = .ok (.isub, 1) := by decide +kernel
theorem d22_422 : decode prog_35_method_17_code 422 = .ok (.lshl, 1) := by decide +kernel
theorem d22_423 : decode prog_35_method_17_code 423 = .ok (.lor, 1) := by decide +kernel
theorem d22_424 : decode prog_35_method_17_code 424 = .ok (.lstore 11, 2) := by decide +kernel
theorem d22_426 : decode prog_35_method_17_code 426 = .ok (.iload 14, 2) := by decide +kernel
theorem d22_428 : decode prog_35_method_17_code 428 = .ok (.iload 15, 2) := by decide +kernel
theorem d22_430 : decode prog_35_method_17_code 430 = .ok (.iadd, 1) := by decide +kernel
theorem d22_431 : decode prog_35_method_17_code 431 = .ok (.istore 25, 2) := by decide +kernel
theorem d22_433 : decode prog_35_method_17_code 433 = .ok (.iload 25, 2) := by decide +kernel
theorem d22_435 : decode prog_35_method_17_code 435 = .ok (.bipush 64, 2) := by decide +kernel
theorem d22_437 : decode prog_35_method_17_code 437 = .ok (.if_icmp .ge 29, 3) := by decide +kernel
theorem d22_440 : decode prog_35_method_17_code 440 = .ok (.lload 7, 2) := by decide +kernel
theorem d22_442 : decode prog_35_method_17_code 442 = .ok (.iload 25, 2) := by decide +kernel
theorem d22_444 : decode prog_35_method_17_code 444 = .ok (.invokestatic 156, 3) := by decide +kernel
theorem d22_447 : decode prog_35_method_17_code 447 = .ok (.ldc2_w 171, 3) := by decide +kernel
theorem d22_450 : decode prog_35_method_17_code 450 = .ok (.lxor, 1) := by decide +kernel
theorem d22_451 : decode prog_35_method_17_code 451 = .ok (.land, 1) := by decide +kernel
theorem d22_452 : decode prog_35_method_17_code 452 = .ok (.iload_n 2, 1) := by decide +kernel
theorem d22_453 : decode prog_35_method_17_code 453 = .ok (.i2l, 1) := by decide +kernel
theorem d22_454 : decode prog_35_method_17_code 454 = .ok (.lor, 1) := by decide +kernel
theorem d22_455 : decode prog_35_method_17_code 455 = .ok (.lload 20, 2) := by decide +kernel
theorem d22_457 : decode prog_35_method_17_code 457 = .ok (.iload 14, 2) := by decide +kernel
theorem d22_459 : decode prog_35_method_17_code 459 = .ok (.lshl, 1) := by decide +kernel
theorem d22_460 : decode prog_35_method_17_code 460 = .ok (.lor, 1) := by decide +kernel
theorem d22_461 : decode prog_35_method_17_code 461 = .ok (.lstore 7, 2) := by decide +kernel
theorem d22_463 : decode prog_35_method_17_code 463 = .ok (.goto 39, 3) := by decide +kernel
theorem d22_466 : decode prog_35_method_17_code 466 = .ok (.iload_n 2, 1) := by decide +kernel
theorem d22_467 : decode prog_35_method_17_code 467 = .ok (.i2l, 1) := by decide +kernel
theorem d22_468 : decode prog_35_method_17_code 468 = .ok (.lload 20, 2) := by decide +kernel
theorem d22_470 : decode prog_35_method_17_code 470 = .ok (.iload 14, 2) := by decide +kernel
theorem d22_472 : decode prog_35_method_17_code 472 = .ok (.lshl, 1) := by decide +kernel
theorem d22_473 : decode prog_35_method_17_code 473 = .ok (.lor, 1) := by decide +kernel
theorem d22_474 : decode prog_35_method_17_code 474 = .ok (.lstore 7, 2) := by decide +kernel
theorem d22_476 : decode prog_35_method_17_code 476 = .ok (.lload 9, 2) := by decide +kernel
theorem d22_478 : decode prog_35_method_17_code 478 = .ok (.iload 25, 2) := by decide +kernel
theorem d22_480 : decode prog_35_method_17_code 480 = .ok (.bipush 64, 2) := by decide +kernel
theorem d22_482 : decode prog_35_method_17_code 482 = .ok (.isub, 1) := by decide +kernel
theorem d22_483 : decode prog_35_method_17_code 483 = .ok (.invokestatic 156, 3) := by decide +kernel
theorem d22_486 : decode prog_35_method_17_code 486 = .ok (.ldc2_w 171, 3) := by decide +kernel
theorem d22_489 : decode prog_35_method_17_code 489 = .ok (.lxor, 1) := by decide +kernel
theorem d22_490 : decode prog_35_method_17_code 490 = .ok (.land, 1) := by decide +kernel
theorem d22_491 : decode prog_35_method_17_code 491 = .ok (.lload 20, 2) := by decide +kernel
theorem d22_493 : decode prog_35_method_17_code 493 = .ok (.bipush 64, 2) := by decide +kernel
theorem d22_495 : decode prog_35_method_17_code 495 = .ok (.iload 14, 2) := by decide +kernel
theorem d22_497 : decode prog_35_method_17_code 497 = .ok (.isub, 1) := by decide +kernel
theorem d22_498 : decode prog_35_method_17_code 498 = .ok (.lushr, 1) := by decide +kernel
theorem d22_499 : decode prog_35_method_17_code 499 = .ok (.lor, 1) := by decide +kernel
theorem d22_500 : decode prog_35_method_17_code 500 = .ok (.lstore 9, 2) := by decide +kernel
theorem d22_502 : decode prog_35_method_17_code 502 = .ok (.lload 5, 2) := by decide +kernel
theorem d22_504 : decode prog_35_method_17_code 504 = .ok (.invokestatic 143, 3) := by decide +kernel
theorem d22_507 : decode prog_35_method_17_code 507 = .ok (.iload_n 2, 1) := by decide +kernel
theorem d22_508 : decode prog_35_method_17_code 508 = .ok (.iconst 1, 1) := by decide +kernel
theorem d22_509 : decode prog_35_method_17_code 509 = .ok (.iadd, 1) := by decide +kernel
theorem d22_510 : decode prog_35_method_17_code 510 = .ok (.invokestatic 98, 3) := by decide +kernel
theorem d22_513 : decode prog_35_method_17_code 513 = .ok (.istore 26, 2) := by decide +kernel
theorem d22_515 : decode prog_35_method_17_code 515 = .ok (.aload_n 0, 1) := by decide +kernel
theorem d22_516 : decode prog_35_method_17_code 516 = .ok (.iload_n 1, 1) := by decide +kernel
theorem d22_517 : decode prog_35_method_17_code 517 = .ok (.iload 22, 2) := by decide +kernel
theorem d22_519 : decode prog_35_method_17_code 519 = .ok (.lload 5, 2) := by decide +kernel
theorem d22_521 : decode prog_35_method_17_code 521 = .ok (.invokestatic 125, 3) := by decide +kernel
theorem d22_524 : decode prog_35_method_17_code 524 = .ok (.iload 26, 2) := by decide +kernel
theorem d22_526 : decode prog_35_method_17_code 526 = .ok (.iload 14, 2) := by decide +kernel
theorem d22_528 : decode prog_35_method_17_code 528 = .ok (.iload 15, 2) := by decide +kernel
theorem d22_530 : decode prog_35_method_17_code 530 = .ok (.iload 16, 2) := by decide +kernel
theorem d22_532 : decode prog_35_method_17_code 532 = .ok (.invokestatic 117, 3) := by decide +kernel
theorem d22_535 : decode prog_35_method_17_code 535 = .ok (.lastore, 1) := by decide +kernel
theorem d22_536 : decode prog_35_method_17_code 536 = .ok (.aload_n 0, 1) := by decide +kernel
theorem d22_537 : decode prog_35_method_17_code 537 = .ok (.iload_n 1, 1) := by decide +kernel
theorem d22_538 : decode prog_35_method_17_code 538 = .ok (.iconst 1, 1) := by decide +kernel
theorem d22_539 : decode prog_35_method_17_code 539 = .ok (.iadd, 1) := by decide +kernel
theorem d22_540 : decode prog_35_method_17_code 540 = .ok (.lload 7, 2) := by decide +kernel
theorem d22_542 : decode prog_35_method_17_code 542 = .ok (.lastore, 1) := by decide +kernel
theorem d22_543 : decode prog_35_method_17_code 543 = .ok (.aload_n 0, 1) := by decide +kernel
theorem d22_544 : decode prog_35_method_17_code 544 = .ok (.iload_n 1, 1) := by decide +kernel
theorem d22_545 : decode prog_35_method_17_code 545 = .ok (.iconst 2, 1) := by decide +kernel
theorem d22_546 : decode prog_35_method_17_code 546 = .ok (.iadd, 1) := by decide +kernel
theorem d22_547 : decode prog_35_method_17_code 547 = .ok (.lload 9, 2) := by decide +kernel
theorem d22_549 : decode prog_35_method_17_code 549 = .ok (.lastore, 1) := by decide +kernel
theorem d22_550 : decode prog_35_method_17_code 550 = .ok (.aload_n 0, 1) := by decide +kernel
theorem d22_551 : decode prog_35_method_17_code 551 = .ok (.iload_n 1, 1) := by decide +kernel
theorem d22_552 : decode prog_35_method_17_code 552 = .ok (.iconst 3, 1) := by decide +kernel
theorem d22_553 : decode prog_35_method_17_code 553 = .ok (.iadd, 1) := by decide +kernel
theorem d22_554 : decode prog_35_method_17_code 554 = .ok (.lload 11, 2) := by decide +kernel
theorem d22_556 : decode prog_35_method_17_code 556 = .ok (.lastore, 1) := by decide +kernel
theorem d22_557 : decode prog_35_method_17_code 557 = .ok (.iconst 1, 1) := by decide +kernel
theorem d22_558 : decode prog_35_method_17_code 558 = .ok (.ireturn, 1) := by decide +kernel
theorem pd22 : parseMethodDescriptor "([JIIJ)Z" = some ⟨[(.array .long), .int, .int, .long], some .boolean⟩ := by decide +kernel
theorem pn22 : plainFor (⟨"com/example/albatross/albatross/storage/ProducerState", "pushPacked", "([JIIJ)Z"⟩ : MethodName) = true := by first | (refine plainFor_of_name ?_; simp [plainName, overriddenIn]; done) | (refine plainFor_of_name ?_; decide +kernel) | decide +kernel
abbrev B22 : Bd := ((⟨"com/example/albatross/albatross/storage/ProducerState", "pushPacked", "([JIIJ)Z"⟩ : MethodName), prog_35_method_17_code, 27, (some .boolean), ({ frames := 3, cells := 0, slots := 0, locals := 43 } : Room), tables_1)
theorem ef22 (mid : MethodId) (t : Addr) (ix : Int32) (q : Int32) (o : Int64) : entryFrame mid (List.toArray [.ref t, .int ix, .int q, .long o]) 27 = mkF mid 0 #[.val (.ref t), .val (.int ix), .val (.int q), .val (.long o), .second, .unset, .unset, .unset, .unset, .unset, .unset, .unset, .unset, .unset, .unset, .unset, .unset, .unset, .unset, .unset, .unset, .unset, .unset, .unset, .unset, .unset, .unset] [] := by first | (simp [entryFrame, mkF, argsToLocals, Value.category]; done) | rfl
def Q22 (Z : State) (t : Addr) (us : List Int64) (N : Nat) (h0 : Heap) (v : Option Value) (h : Heap) : Prop := ∃ r us', v = some (.int r) ∧ Keep h0 h [t] ∧ Ary Z h t .long (JL us') ∧ us'.length = 8 ∧ (us'.getD N 0 = us.getD N 0 ∨ ¬ us'.getD N 0 &&& 7 = 0)
set_option maxRecDepth 65536 in
set_option maxHeartbeats 40000000 in
theorem c22 (Z : State) (hw : Wd Z tables_1) (h0 : Heap) (t : Addr) (ix : Int32) (q : Int32) (o : Int64) (us : List Int64) (N : Nat) (hN : ix.toInt = N) (hN3 : N ≤ 3) (hl : us.length = 8) (hA : Ary Z h0 t .long (JL us)) (hgt : Z.heap.size ≤ t) : Con Z B22 (List.toArray [.ref t, .int ix, .int q, .long o]) h0 (Q22 Z t us N h0) := by
  refine Con.mk hw pn22 (fun mid => ef22 mid t ix q o) (Go.old fun hle' => ?_)
  have hle := hle'.1
  refine Go.aloadN 1 rfl d22_0 rfl rfl ?_
  refine Go.iloadN 2 rfl d22_1 rfl ?_
  refine Go.laload 3 rfl (us.getD N 0) d22_2 hA N hN (JL.get hl (by omega)) ?_
  refine Go.nameJ fun v1 hv1 => ?_
  refine Go.lstore 5 rfl d22_3 (Ls' := #[.val (.ref t), .val (.int ix), .val (.int q), .val (.long o), .second, .val (.long v1), .second, .unset, .unset, .unset, .unset, .unset, .unset, .unset, .unset, .unset, .unset, .unset, .unset, .unset, .unset, .unset, .unset, .unset, .unset, .unset, .unset]) rfl ?_
  refine Go.aloadN 6 rfl d22_5 rfl rfl ?_
  refine Go.iloadN 7 rfl d22_6 rfl ?_
  refine Go.iconst 8 rfl (1 : Int32) d22_7 rfl ?_
  refine Go.iadd 9 rfl d22_8 ?_
  refine Go.laload 10 rfl (us.getD (N + 1) 0) d22_9 hA (N + 1) (own_sm hN (k := 1) rfl (by omega) (by decide)) (JL.get hl (by omega)) ?_
  refine Go.nameJ fun v2 hv2 => ?_
  refine Go.lstore 12 rfl d22_10 (Ls' := #[.val (.ref t), .val (.int ix), .val (.int q), .val (.long o), .second, .val (.long v1), .second, .val (.long v2), .second, .unset, .unset, .unset, .unset, .unset, .unset, .unset, .unset, .unset, .unset, .unset, .unset, .unset, .unset, .unset, .unset, .unset, .unset]) rfl ?_
  refine Go.aloadN 13 rfl d22_12 rfl rfl ?_
  refine Go.iloadN 14 rfl d22_13 rfl ?_
  refine Go.iconst 15 rfl (2 : Int32) d22_14 rfl ?_
  refine Go.iadd 16 rfl d22_15 ?_
  refine Go.laload 17 rfl (us.getD (N + 2) 0) d22_16 hA (N + 2) (own_sm hN (k := 2) rfl (by omega) (by decide)) (JL.get hl (by omega)) ?_
  refine Go.nameJ fun v3 hv3 => ?_
  refine Go.lstore 19 rfl d22_17 (Ls' := #[.val (.ref t), .val (.int ix), .val (.int q), .val (.long o), .second, .val (.long v1), .second, .val (.long v2), .second, .val (.long v3), .second, .unset, .unset, .unset, .unset, .unset, .unset, .unset, .unset, .unset, .unset, .unset, .unset, .unset, .unset, .unset, .unset]) rfl ?_
  refine Go.aloadN 20 rfl d22_19 rfl rfl ?_
  refine Go.iloadN 21 rfl d22_20 rfl ?_
  refine Go.iconst 22 rfl (3 : Int32) d22_21 rfl ?_
  refine Go.iadd 23 rfl d22_22 ?_
  refine Go.laload 24 rfl (us.getD (N + 3) 0) d22_23 hA (N + 3) (own_sm hN (k := 3) rfl (by omega) (by decide)) (JL.get hl (by omega)) ?_
  refine Go.nameJ fun v4 hv4 => ?_
  refine Go.lstore 26 rfl d22_24 (Ls' := #[.val (.ref t), .val (.int ix), .val (.int q), .val (.long o), .second, .val (.long v1), .second, .val (.long v2), .second, .val (.long v3), .second, .val (.long v4), .second, .unset, .unset, .unset, .unset, .unset, .unset, .unset, .unset, .unset, .unset, .unset, .unset, .unset, .unset]) rfl ?_
  refine Go.lload 28 rfl d22_26 rfl ?_
  refine Go.l2i 29 rfl d22_28 ?_
  refine Go.bipush 31 rfl (7 : Int32) d22_29 rfl ?_
  refine Go.iand 32 rfl d22_31 ?_
  refine Go.nameI fun v5 hv5 => ?_
  refine Go.istore 34 rfl d22_32 (Ls' := #[.val (.ref t), .val (.int ix), .val (.int q), .val (.long o), .second, .val (.long v1), .second, .val (.long v2), .second, .val (.long v3), .second, .val (.long v4), .second, .val (.int v5), .unset, .unset, .unset, .unset, .unset, .unset, .unset, .unset, .unset, .unset, .unset, .unset, .unset]) rfl ?_
  refine Go.lload 36 rfl d22_34 rfl ?_
  refine Go.callS 39 rfl (C := B23) [.long v1] (rest := []) 113 114 3 115 (c23 Z hw h0 v1 ) d22_36 rfl rfl rfl rfl (by decide) pd23 rfl rfl rfl (W := 0) (Nat.le_of_ble_eq_true rfl) (by decide) (by decide) (by decide) (by decide) fun v6 h7 q8 => ?_
  obtain ⟨y9, rfl, rfl⟩ := q8
  refine Go.istore 41 rfl d22_39 (Ls' := #[.val (.ref t), .val (.int ix), .val (.int q), .val (.long o), .second, .val (.long v1), .second, .val (.long v2), .second, .val (.long v3), .second, .val (.long v4), .second, .val (.int v5), .val (.int y9), .unset, .unset, .unset, .unset, .unset, .unset, .unset, .unset, .unset, .unset, .unset, .unset]) rfl ?_
  refine Go.lload 43 rfl d22_41 rfl ?_
  refine Go.callS 46 rfl (C := B24) [.long v1] (rest := []) 116 117 3 118 (c24 Z hw h0 v1 ) d22_43 rfl rfl rfl rfl (by decide) pd24 rfl rfl rfl (W := 0) (Nat.le_of_ble_eq_true rfl) (by decide) (by decide) (by decide) (by decide) fun v10 h11 q12 => ?_
  obtain ⟨y13, rfl, rfl⟩ := q12
  refine Go.istore 48 rfl d22_46 (Ls' := #[.val (.ref t), .val (.int ix), .val (.int q), .val (.long o), .second, .val (.long v1), .second, .val (.long v2), .second, .val (.long v3), .second, .val (.long v4), .second, .val (.int v5), .val (.int y9), .val (.int y13), .unset, .unset, .unset, .unset, .unset, .unset, .unset, .unset, .unset, .unset, .unset]) rfl ?_
  refine Go.lload 50 rfl d22_48 rfl ?_
  refine Go.callS 53 rfl (C := B25) [.long v1] (rest := []) 119 120 3 121 (c25 Z hw h0 v1 ) d22_50 rfl rfl rfl rfl (by decide) pd25 rfl rfl rfl (W := 0) (Nat.le_of_ble_eq_true rfl) (by decide) (by decide) (by decide) (by decide) fun v14 h15 q16 => ?_
  obtain ⟨y17, rfl, rfl⟩ := q16
  refine Go.istore 55 rfl d22_53 (Ls' := #[.val (.ref t), .val (.int ix), .val (.int q), .val (.long o), .second, .val (.long v1), .second, .val (.long v2), .second, .val (.long v3), .second, .val (.long v4), .second, .val (.int v5), .val (.int y9), .val (.int y13), .val (.int y17), .unset, .unset, .unset, .unset, .unset, .unset, .unset, .unset, .unset, .unset]) rfl ?_
  refine Go.lload 57 rfl d22_55 rfl ?_
  refine Go.iload 59 rfl d22_57 rfl ?_
  refine Go.callS 62 rfl (C := B26) [.int y9] (rest := [.long v2]) 122 123 3 124 (c26 Z hw h0 y9 ) d22_59 rfl rfl rfl rfl (by decide) pd26 rfl rfl rfl (W := 2) (Nat.le_of_ble_eq_true rfl) (by decide) (by decide) (by decide) (by decide) fun v18 h19 q20 => ?_
  obtain ⟨y21, rfl, rfl⟩ := q20
  refine Go.land 63 rfl d22_62 ?_
  refine Go.l2i 64 rfl d22_63 ?_
  refine Go.nameI fun v22 hv22 => ?_
  refine Go.istore 66 rfl d22_64 (Ls' := #[.val (.ref t), .val (.int ix), .val (.int q), .val (.long o), .second, .val (.long v1), .second, .val (.long v2), .second, .val (.long v3), .second, .val (.long v4), .second, .val (.int v5), .val (.int y9), .val (.int y13), .val (.int y17), .val (.int v22), .unset, .unset, .unset, .unset, .unset, .unset, .unset, .unset, .unset]) rfl ?_
  refine Go.lload 68 rfl d22_66 rfl ?_
  refine Go.lload 70 rfl d22_68 rfl ?_
  refine Go.lload 72 rfl d22_70 rfl ?_
  refine Go.iload 74 rfl d22_72 rfl ?_
  refine Go.iload 76 rfl d22_74 rfl ?_
  refine Go.iload 78 rfl d22_76 rfl ?_
  refine Go.iload 80 rfl d22_78 rfl ?_
  refine Go.callS 83 rfl (C := B18) [.int v5, .int y9, .int y13, .int y17] (rest := [.long v4, .long v3, .long v2]) 97 98 3 99 (c18 Z hw h0 v5 y9 y13 y17 ) d22_80 rfl rfl rfl rfl (by decide) pd18 rfl rfl rfl (W := 6) (Nat.le_of_ble_eq_true rfl) (by decide) (by decide) (by decide) (by decide) fun v23 h24 q25 => ?_
  obtain ⟨y26, rfl, rfl⟩ := q25
  refine Go.callS 86 rfl (C := B27) [.long v2, .long v3, .long v4, .int y26] (rest := []) 125 126 3 127 (c27 Z hw h0 v2 v3 v4 y26 ) d22_83 rfl rfl rfl rfl (by decide) pd27 rfl rfl rfl (W := 0) (Nat.le_of_ble_eq_true rfl) (by decide) (by decide) (by decide) (by decide) fun v27 h28 q29 => ?_
  obtain ⟨y30, rfl, rfl⟩ := q29
  refine Go.lstore 88 rfl d22_86 (Ls' := #[.val (.ref t), .val (.int ix), .val (.int q), .val (.long o), .second, .val (.long v1), .second, .val (.long v2), .second, .val (.long v3), .second, .val (.long v4), .second, .val (.int v5), .val (.int y9), .val (.int y13), .val (.int y17), .val (.int v22), .val (.long y30), .second, .unset, .unset, .unset, .unset, .unset, .unset, .unset]) rfl ?_
  refine Go.lloadN 89 rfl d22_88 rfl ?_
  refine Go.lload 91 rfl d22_89 rfl ?_
  refine Go.lsub 92 rfl d22_91 ?_
  refine Go.iload 94 rfl d22_92 rfl ?_
  refine Go.i2l 95 rfl d22_94 ?_
  refine Go.lsub 96 rfl d22_95 ?_
  refine Go.lconst 97 rfl (1 : Int64) d22_96 rfl ?_
  refine Go.lsub 98 rfl d22_97 ?_
  refine Go.nameJ fun v31 hv31 => ?_
  refine Go.lstore 100 rfl d22_98 (Ls' := #[.val (.ref t), .val (.int ix), .val (.int q), .val (.long o), .second, .val (.long v1), .second, .val (.long v2), .second, .val (.long v3), .second, .val (.long v4), .second, .val (.int v5), .val (.int y9), .val (.int y13), .val (.int y17), .val (.int v22), .val (.long y30), .second, .val (.long v31), .second, .unset, .unset, .unset, .unset, .unset]) rfl ?_
  refine Go.iload 102 rfl d22_100 rfl ?_
  refine Go.iconst 103 rfl (1 : Int32) d22_102 rfl ?_
  refine Go.iadd 104 rfl d22_103 ?_
  refine Go.iconst 105 rfl (5 : Int32) d22_104 rfl ?_
  refine Go.callS 108 rfl (C := B28) [.int (v5 + (1 : Int32)), .int (5 : Int32)] (rest := []) 128 129 130 131 (c28 Z hw h0 (v5 + (1 : Int32)) (own_c8 hv5)) d22_105 rfl rfl rfl rfl (by decide) pd28 rfl rfl rfl (W := 0) (Nat.le_of_ble_eq_true rfl) (by decide) (by decide) (by decide) (by decide) fun v32 h33 q34 => ?_
  obtain ⟨y35, rfl, rfl, p36, p37⟩ := q34
  refine Go.istore 110 rfl d22_108 (Ls' := #[.val (.ref t), .val (.int ix), .val (.int q), .val (.long o), .second, .val (.long v1), .second, .val (.long v2), .second, .val (.long v3), .second, .val (.long v4), .second, .val (.int v5), .val (.int y9), .val (.int y13), .val (.int y17), .val (.int v22), .val (.long y30), .second, .val (.long v31), .second, .val (.int y35), .unset, .unset, .unset, .unset]) rfl ?_
  refine Go.iload 112 rfl d22_110 rfl ?_
  refine Go.iconst 113 rfl (2 : Int32) d22_112 rfl ?_
  refine cut (∀ (j7_150 : Int64) (j14_150 : Int32) (j15_150 : Int32), Go (Q22 Z t us N h0) Z B22 0 0 h0 150 #[.val (.ref t), .val (.int ix), .val (.int q), .val (.long o), .second, .val (.long v1), .second, .val (.long j7_150), .second, .val (.long v3), .second, .val (.long v4), .second, .val (.int v5), .val (.int j14_150), .val (.int j15_150), .val (.int y17), .val (.int v22), .val (.long y30), .second, .val (.long v31), .second, .val (.int y35), .unset, .unset, .unset, .unset] []) (fun J150 => ?_) (fun j7_150 j14_150 j15_150 => ?_)
  · refine Go.icmp_ne 150 116 d22_113 (by decide) rfl rfl (fun (b38 : ¬ y35 = (2 : Int32)) => ?_) (fun (b38 : y35 = (2 : Int32)) => ?_)
    · exact J150 _ _ _
    · refine Go.lload 118 rfl d22_116 rfl ?_
      refine Go.iload 120 rfl d22_118 rfl ?_
      refine Go.callS 123 rfl (C := B26) [.int y9] (rest := [.long v2]) 122 123 3 124 (c26 Z hw h0 y9 ) d22_120 rfl rfl rfl rfl (by decide) pd26 rfl rfl rfl (W := 2) (Nat.le_of_ble_eq_true rfl) (by decide) (by decide) (by decide) (by decide) fun v39 h40 q41 => ?_
      obtain ⟨y42, rfl, rfl⟩ := q41
      refine Go.land 124 rfl d22_123 ?_
      refine Go.nameJ fun v43 hv43 => ?_
      refine Go.lstore 126 rfl d22_124 (Ls' := #[.val (.ref t), .val (.int ix), .val (.int q), .val (.long o), .second, .val (.long v1), .second, .val (.long v43), .second, .val (.long v3), .second, .val (.long v4), .second, .val (.int v5), .val (.int y9), .val (.int y13), .val (.int y17), .val (.int v22), .val (.long y30), .second, .val (.long v31), .second, .val (.int y35), .unset, .unset, .unset, .unset]) rfl ?_
      refine Go.iload 128 rfl d22_126 rfl ?_
      refine Go.iloadN 129 rfl d22_128 rfl ?_
      refine Go.i2l 130 rfl d22_129 ?_
      refine Go.callS 133 rfl (C := B15) [.long q.toInt64] (rest := [.int y9]) 85 86 3 87 (c15 Z hw h0 q.toInt64 ) d22_130 rfl rfl rfl rfl (by decide) pd15 rfl rfl rfl (W := 1) (Nat.le_of_ble_eq_true rfl) (by decide) (by decide) (by decide) (by decide) fun v44 h45 q46 => ?_
      obtain ⟨y47, rfl, rfl⟩ := q46
      refine Go.callS 136 rfl (C := B29) [.int y9, .int y47] (rest := []) 132 133 130 134 (c29 Z hw h0 y9 y47 ) d22_133 rfl rfl rfl rfl (by decide) pd29 rfl rfl rfl (W := 0) (Nat.le_of_ble_eq_true rfl) (by decide) (by decide) (by decide) (by decide) fun v48 h49 q50 => ?_
      obtain ⟨y51, rfl, rfl⟩ := q50
      refine Go.istore 138 rfl d22_136 (Ls' := #[.val (.ref t), .val (.int ix), .val (.int q), .val (.long o), .second, .val (.long v1), .second, .val (.long v43), .second, .val (.long v3), .second, .val (.long v4), .second, .val (.int v5), .val (.int y51), .val (.int y13), .val (.int y17), .val (.int v22), .val (.long y30), .second, .val (.long v31), .second, .val (.int y35), .unset, .unset, .unset, .unset]) rfl ?_
      refine Go.iload 140 rfl d22_138 rfl ?_
      refine Go.lload 142 rfl d22_140 rfl ?_
      refine Go.callS 145 rfl (C := B15) [.long v31] (rest := [.int y13]) 85 86 3 87 (c15 Z hw h0 v31 ) d22_142 rfl rfl rfl rfl (by decide) pd15 rfl rfl rfl (W := 1) (Nat.le_of_ble_eq_true rfl) (by decide) (by decide) (by decide) (by decide) fun v52 h53 q54 => ?_
      obtain ⟨y55, rfl, rfl⟩ := q54
      refine Go.callS 148 rfl (C := B29) [.int y13, .int y55] (rest := []) 132 133 130 134 (c29 Z hw h0 y13 y55 ) d22_145 rfl rfl rfl rfl (by decide) pd29 rfl rfl rfl (W := 0) (Nat.le_of_ble_eq_true rfl) (by decide) (by decide) (by decide) (by decide) fun v56 h57 q58 => ?_
      obtain ⟨y59, rfl, rfl⟩ := q58
      refine Go.istore 150 rfl d22_148 (Ls' := #[.val (.ref t), .val (.int ix), .val (.int q), .val (.long o), .second, .val (.long v1), .second, .val (.long v43), .second, .val (.long v3), .second, .val (.long v4), .second, .val (.int v5), .val (.int y51), .val (.int y59), .val (.int y17), .val (.int v22), .val (.long y30), .second, .val (.long v31), .second, .val (.int y35), .unset, .unset, .unset, .unset]) rfl ?_
      exact J150 _ _ _
  · refine Go.iload 152 rfl d22_150 rfl ?_
    refine Go.iload 154 rfl d22_152 rfl ?_
    refine Go.iload 156 rfl d22_154 rfl ?_
    refine Go.iload 158 rfl d22_156 rfl ?_
    refine Go.callS 161 rfl (C := B18) [.int y35, .int j14_150, .int j15_150, .int y17] (rest := []) 97 98 3 99 (c18 Z hw h0 y35 j14_150 j15_150 y17 ) d22_158 rfl rfl rfl rfl (by decide) pd18 rfl rfl rfl (W := 0) (Nat.le_of_ble_eq_true rfl) (by decide) (by decide) (by decide) (by decide) fun v60 h61 q62 => ?_
    obtain ⟨y63, rfl, rfl⟩ := q62
    refine Go.istore 163 rfl d22_161 (Ls' := #[.val (.ref t), .val (.int ix), .val (.int q), .val (.long o), .second, .val (.long v1), .second, .val (.long j7_150), .second, .val (.long v3), .second, .val (.long v4), .second, .val (.int v5), .val (.int j14_150), .val (.int j15_150), .val (.int y17), .val (.int v22), .val (.long y30), .second, .val (.long v31), .second, .val (.int y35), .val (.int y63), .unset, .unset, .unset]) rfl ?_
    refine cut (Go (Q22 Z t us N h0) Z B22 0 0 h0 222 #[.val (.ref t), .val (.int ix), .val (.int q), .val (.long o), .second, .val (.long v1), .second, .val (.long j7_150), .second, .val (.long v3), .second, .val (.long v4), .second, .val (.int v5), .val (.int j14_150), .val (.int j15_150), .val (.int y17), .val (.int v22), .val (.long y30), .second, .val (.long v31), .second, .val (.int y35), .val (.int y63), .unset, .unset, .unset] []) (fun J222 => ?_) (?_)
    · refine Go.lloadN 164 rfl d22_163 rfl ?_
      refine Go.lload 166 rfl d22_164 rfl ?_
      refine Go.lcmp 167 rfl d22_166 ?_
      refine Go.if_lt 220 170 d22_167 (by decide) rfl rfl (fun (b64 : (XT.cmpL o y30) < 0) => ?_) (fun (b64 : ¬ (XT.cmpL o y30) < 0) => ?_)
      · refine Go.iconst 221 rfl (0 : Int32) d22_220 rfl ?_
        exact Go.retN (t := .boolean) (z' := 0) d22_221 rfl (by decide) (by decide) (by decide) (by decide) ⟨0, us, rfl, Keep.refl _ _, hA, hl, Or.inl rfl⟩
      · refine Go.lload 172 rfl d22_170 rfl ?_
        refine Go.lconst 173 rfl (0 : Int64) d22_172 rfl ?_
        refine Go.lcmp 174 rfl d22_173 ?_
        refine Go.if_lt 220 177 d22_174 (by decide) rfl rfl (fun (b65 : (XT.cmpL v31 (0 : Int64)) < 0) => ?_) (fun (b65 : ¬ (XT.cmpL v31 (0 : Int64)) < 0) => ?_)
        · refine Go.iconst 221 rfl (0 : Int32) d22_220 rfl ?_
          exact Go.retN (t := .boolean) (z' := 0) d22_221 rfl (by decide) (by decide) (by decide) (by decide) ⟨0, us, rfl, Keep.refl _ _, hA, hl, Or.inl rfl⟩
        · refine Go.lload 179 rfl d22_177 rfl ?_
          refine Go.callS 182 rfl (C := B15) [.long v31] (rest := []) 85 86 3 87 (c15 Z hw h0 v31 ) d22_179 rfl rfl rfl rfl (by decide) pd15 rfl rfl rfl (W := 0) (Nat.le_of_ble_eq_true rfl) (by decide) (by decide) (by decide) (by decide) fun v66 h67 q68 => ?_
          obtain ⟨y69, rfl, rfl⟩ := q68
          refine Go.iload 184 rfl d22_182 rfl ?_
          refine Go.icmp_gt 220 187 d22_184 (by decide) rfl rfl (fun (b70 : j15_150 < y69) => ?_) (fun (b70 : ¬ j15_150 < y69) => ?_)
          · refine Go.iconst 221 rfl (0 : Int32) d22_220 rfl ?_
            exact Go.retN (t := .boolean) (z' := 0) d22_221 rfl (by decide) (by decide) (by decide) (by decide) ⟨0, us, rfl, Keep.refl _ _, hA, hl, Or.inl rfl⟩
          · refine Go.iloadN 188 rfl d22_187 rfl ?_
            refine Go.i2l 189 rfl d22_188 ?_
            refine Go.callS 192 rfl (C := B15) [.long q.toInt64] (rest := []) 85 86 3 87 (c15 Z hw h0 q.toInt64 ) d22_189 rfl rfl rfl rfl (by decide) pd15 rfl rfl rfl (W := 0) (Nat.le_of_ble_eq_true rfl) (by decide) (by decide) (by decide) (by decide) fun v71 h72 q73 => ?_
            obtain ⟨y74, rfl, rfl⟩ := q73
            refine Go.iload 194 rfl d22_192 rfl ?_
            refine Go.icmp_gt 220 197 d22_194 (by decide) rfl rfl (fun (b75 : j14_150 < y74) => ?_) (fun (b75 : ¬ j14_150 < y74) => ?_)
            · refine Go.iconst 221 rfl (0 : Int32) d22_220 rfl ?_
              exact Go.retN (t := .boolean) (z' := 0) d22_221 rfl (by decide) (by decide) (by decide) (by decide) ⟨0, us, rfl, Keep.refl _ _, hA, hl, Or.inl rfl⟩
            · refine Go.iload 199 rfl d22_197 rfl ?_
              refine Go.if_eq 208 202 d22_199 (by decide) rfl rfl (fun (b76 : y17 = 0) => ?_) (fun (b76 : ¬ y17 = 0) => ?_)
              · refine Go.iload 210 rfl d22_208 rfl ?_
                refine Go.lloadN 211 rfl d22_210 rfl ?_
                refine Go.callS 214 rfl (C := B15) [.long o] (rest := [.int y63]) 85 86 3 87 (c15 Z hw h0 o ) d22_211 rfl rfl rfl rfl (by decide) pd15 rfl rfl rfl (W := 1) (Nat.le_of_ble_eq_true rfl) (by decide) (by decide) (by decide) (by decide) fun v77 h78 q79 => ?_
                obtain ⟨y80, rfl, rfl⟩ := q79
                refine Go.callS 217 rfl (C := B20) [.int y63, .int y80] (rest := []) 103 104 3 105 (c20 Z hw h0 y63 y80 ) d22_214 rfl rfl rfl rfl (by decide) pd20 rfl rfl rfl (W := 0) (Nat.le_of_ble_eq_true rfl) (by decide) (by decide) (by decide) (by decide) fun v81 h82 q83 => ?_
                obtain ⟨y84, rfl, rfl⟩ := q83
                refine Go.if_ne 222 220 d22_217 (by decide) rfl rfl (fun (b85 : ¬ y84 = 0) => ?_) (fun (b85 : y84 = 0) => ?_)
                · exact J222 
                · refine Go.iconst 221 rfl (0 : Int32) d22_220 rfl ?_
                  exact Go.retN (t := .boolean) (z' := 0) d22_221 rfl (by decide) (by decide) (by decide) (by decide) ⟨0, us, rfl, Keep.refl _ _, hA, hl, Or.inl rfl⟩
              · refine Go.iloadN 203 rfl d22_202 rfl ?_
                refine Go.iload 205 rfl d22_203 rfl ?_
                refine Go.icmp_ne 220 208 d22_205 (by decide) rfl rfl (fun (b86 : ¬ q = v22) => ?_) (fun (b86 : q = v22) => ?_)
                · refine Go.iconst 221 rfl (0 : Int32) d22_220 rfl ?_
                  exact Go.retN (t := .boolean) (z' := 0) d22_221 rfl (by decide) (by decide) (by decide) (by decide) ⟨0, us, rfl, Keep.refl _ _, hA, hl, Or.inl rfl⟩
                · refine Go.iload 210 rfl d22_208 rfl ?_
                  refine Go.lloadN 211 rfl d22_210 rfl ?_
                  refine Go.callS 214 rfl (C := B15) [.long o] (rest := [.int y63]) 85 86 3 87 (c15 Z hw h0 o ) d22_211 rfl rfl rfl rfl (by decide) pd15 rfl rfl rfl (W := 1) (Nat.le_of_ble_eq_true rfl) (by decide) (by decide) (by decide) (by decide) fun v87 h88 q89 => ?_
                  obtain ⟨y90, rfl, rfl⟩ := q89
                  refine Go.callS 217 rfl (C := B20) [.int y63, .int y90] (rest := []) 103 104 3 105 (c20 Z hw h0 y63 y90 ) d22_214 rfl rfl rfl rfl (by decide) pd20 rfl rfl rfl (W := 0) (Nat.le_of_ble_eq_true rfl) (by decide) (by decide) (by decide) (by decide) fun v91 h92 q93 => ?_
                  obtain ⟨y94, rfl, rfl⟩ := q93
                  refine Go.if_ne 222 220 d22_217 (by decide) rfl rfl (fun (b95 : ¬ y94 = 0) => ?_) (fun (b95 : y94 = 0) => ?_)
                  · exact J222 
                  · refine Go.iconst 221 rfl (0 : Int32) d22_220 rfl ?_
                    exact Go.retN (t := .boolean) (z' := 0) d22_221 rfl (by decide) (by decide) (by decide) (by decide) ⟨0, us, rfl, Keep.refl _ _, hA, hl, Or.inl rfl⟩
    · refine Go.iload 224 rfl d22_222 rfl ?_
      refine Go.iload 226 rfl d22_224 rfl ?_
      refine Go.iload 228 rfl d22_226 rfl ?_
      refine Go.callS 231 rfl (C := B19) [.int j14_150, .int j15_150, .int y17] (rest := []) 100 101 3 102 (c19 Z hw h0 j14_150 j15_150 y17 ) d22_228 rfl rfl rfl rfl (by decide) pd19 rfl rfl rfl (W := 0) (Nat.le_of_ble_eq_true rfl) (by decide) (by decide) (by decide) (by decide) fun v96 h97 q98 => ?_
      obtain ⟨y99, rfl, rfl⟩ := q98
      refine Go.istore 233 rfl d22_231 (Ls' := #[.val (.ref t), .val (.int ix), .val (.int q), .val (.long o), .second, .val (.long v1), .second, .val (.long j7_150), .second, .val (.long v3), .second, .val (.long v4), .second, .val (.int v5), .val (.int j14_150), .val (.int j15_150), .val (.int y17), .val (.int v22), .val (.long y30), .second, .val (.long v31), .second, .val (.int y35), .val (.int y63), .val (.int y99), .unset, .unset]) rfl ?_
      refine cut (∀ (j7_321 : Int64) (j9_321 : Int64) (j11_321 : Int64) (j25_321 : Slot), One j25_321 → Go (Q22 Z t us N h0) Z B22 0 0 h0 321 #[.val (.ref t), .val (.int ix), .val (.int q), .val (.long o), .second, .val (.long v1), .second, .val (.long j7_321), .second, .val (.long j9_321), .second, .val (.long j11_321), .second, .val (.int v5), .val (.int j14_150), .val (.int j15_150), .val (.int y17), .val (.int v22), .val (.long y30), .second, .val (.long v31), .second, .val (.int y35), .val (.int y63), .val (.int y99), j25_321, .unset] []) (fun J321 => ?_) (fun j7_321 j9_321 j11_321 j25_321 oj25_321 => ?_)
      · refine Go.iload 235 rfl d22_233 rfl ?_
        refine Go.bipush 237 rfl (64 : Int32) d22_235 rfl ?_
        refine Go.icmp_ge 286 240 d22_237 (by decide) rfl rfl (fun (b100 : ¬ y99 < (64 : Int32)) => ?_) (fun (b100 : y99 < (64 : Int32)) => ?_)
        · refine Go.iload 288 rfl d22_286 rfl ?_
          refine Go.bipush 290 rfl (64 : Int32) d22_288 rfl ?_
          refine Go.isub 291 rfl d22_290 ?_
          refine Go.nameI fun v101 hv101 => ?_
          refine Go.istore 293 rfl d22_291 (Ls' := #[.val (.ref t), .val (.int ix), .val (.int q), .val (.long o), .second, .val (.long v1), .second, .val (.long j7_150), .second, .val (.long v3), .second, .val (.long v4), .second, .val (.int v5), .val (.int j14_150), .val (.int j15_150), .val (.int y17), .val (.int v22), .val (.long y30), .second, .val (.long v31), .second, .val (.int y35), .val (.int y63), .val (.int y99), .val (.int v101), .unset]) rfl ?_
          refine Go.lload 295 rfl d22_293 rfl ?_
          refine Go.iload 297 rfl d22_295 rfl ?_
          refine Go.lshl 298 rfl d22_297 ?_
          refine Go.lload 300 rfl d22_298 rfl ?_
          refine Go.iconst 301 rfl (1 : Int32) d22_300 rfl ?_
          refine Go.lushr 302 rfl d22_301 ?_
          refine Go.bipush 304 rfl (63 : Int32) d22_302 rfl ?_
          refine Go.iload 306 rfl d22_304 rfl ?_
          refine Go.isub 307 rfl d22_306 ?_
          refine Go.lushr 308 rfl d22_307 ?_
          refine Go.lor 309 rfl d22_308 ?_
          refine Go.nameJ fun v102 hv102 => ?_
          refine Go.lstore 311 rfl d22_309 (Ls' := #[.val (.ref t), .val (.int ix), .val (.int q), .val (.long o), .second, .val (.long v1), .second, .val (.long j7_150), .second, .val (.long v3), .second, .val (.long v102), .second, .val (.int v5), .val (.int j14_150), .val (.int j15_150), .val (.int y17), .val (.int v22), .val (.long y30), .second, .val (.long v31), .second, .val (.int y35), .val (.int y63), .val (.int y99), .val (.int v101), .unset]) rfl ?_
          refine Go.lload 313 rfl d22_311 rfl ?_
          refine Go.iload 315 rfl d22_313 rfl ?_
          refine Go.lshl 316 rfl d22_315 ?_
          refine Go.nameJ fun v103 hv103 => ?_
          refine Go.lstore 318 rfl d22_316 (Ls' := #[.val (.ref t), .val (.int ix), .val (.int q), .val (.long o), .second, .val (.long v1), .second, .val (.long j7_150), .second, .val (.long v103), .second, .val (.long v102), .second, .val (.int v5), .val (.int j14_150), .val (.int j15_150), .val (.int y17), .val (.int v22), .val (.long y30), .second, .val (.long v31), .second, .val (.int y35), .val (.int y63), .val (.int y99), .val (.int v101), .unset]) rfl ?_
          refine Go.lconst 319 rfl (0 : Int64) d22_318 rfl ?_
          refine Go.lstore 321 rfl d22_319 (Ls' := #[.val (.ref t), .val (.int ix), .val (.int q), .val (.long o), .second, .val (.long v1), .second, .val (.long (0 : Int64)), .second, .val (.long v103), .second, .val (.long v102), .second, .val (.int v5), .val (.int j14_150), .val (.int j15_150), .val (.int y17), .val (.int v22), .val (.long y30), .second, .val (.long v31), .second, .val (.int y35), .val (.int y63), .val (.int y99), .val (.int v101), .unset]) rfl ?_
          exact J321 _ _ _ _ (One.val rfl)
        · refine Go.lload 242 rfl d22_240 rfl ?_
          refine Go.iload 244 rfl d22_242 rfl ?_
          refine Go.lshl 245 rfl d22_244 ?_
          refine Go.lload 247 rfl d22_245 rfl ?_
          refine Go.iconst 248 rfl (1 : Int32) d22_247 rfl ?_
          refine Go.lushr 249 rfl d22_248 ?_
          refine Go.bipush 251 rfl (63 : Int32) d22_249 rfl ?_
          refine Go.iload 253 rfl d22_251 rfl ?_
          refine Go.isub 254 rfl d22_253 ?_
          refine Go.lushr 255 rfl d22_254 ?_
          refine Go.lor 256 rfl d22_255 ?_
          refine Go.nameJ fun v104 hv104 => ?_
          refine Go.lstore 258 rfl d22_256 (Ls' := #[.val (.ref t), .val (.int ix), .val (.int q), .val (.long o), .second, .val (.long v1), .second, .val (.long j7_150), .second, .val (.long v3), .second, .val (.long v104), .second, .val (.int v5), .val (.int j14_150), .val (.int j15_150), .val (.int y17), .val (.int v22), .val (.long y30), .second, .val (.long v31), .second, .val (.int y35), .val (.int y63), .val (.int y99), .unset, .unset]) rfl ?_
          refine Go.lload 260 rfl d22_258 rfl ?_
          refine Go.iload 262 rfl d22_260 rfl ?_
          refine Go.lshl 263 rfl d22_262 ?_
          refine Go.lload 265 rfl d22_263 rfl ?_
          refine Go.iconst 266 rfl (1 : Int32) d22_265 rfl ?_
          refine Go.lushr 267 rfl d22_266 ?_
          refine Go.bipush 269 rfl (63 : Int32) d22_267 rfl ?_
          refine Go.iload 271 rfl d22_269 rfl ?_
          refine Go.isub 272 rfl d22_271 ?_
          refine Go.lushr 273 rfl d22_272 ?_
          refine Go.lor 274 rfl d22_273 ?_
          refine Go.nameJ fun v105 hv105 => ?_
          refine Go.lstore 276 rfl d22_274 (Ls' := #[.val (.ref t), .val (.int ix), .val (.int q), .val (.long o), .second, .val (.long v1), .second, .val (.long j7_150), .second, .val (.long v105), .second, .val (.long v104), .second, .val (.int v5), .val (.int j14_150), .val (.int j15_150), .val (.int y17), .val (.int v22), .val (.long y30), .second, .val (.long v31), .second, .val (.int y35), .val (.int y63), .val (.int y99), .unset, .unset]) rfl ?_
          refine Go.lload 278 rfl d22_276 rfl ?_
          refine Go.iload 280 rfl d22_278 rfl ?_
          refine Go.lshl 281 rfl d22_280 ?_
          refine Go.nameJ fun v106 hv106 => ?_
          refine Go.lstore 283 rfl d22_281 (Ls' := #[.val (.ref t), .val (.int ix), .val (.int q), .val (.long o), .second, .val (.long v1), .second, .val (.long v106), .second, .val (.long v105), .second, .val (.long v104), .second, .val (.int v5), .val (.int j14_150), .val (.int j15_150), .val (.int y17), .val (.int v22), .val (.long y30), .second, .val (.long v31), .second, .val (.int y35), .val (.int y63), .val (.int y99), .unset, .unset]) rfl ?_
          refine Go.goto 321 d22_283 (by decide) (by decide) ?_
          exact J321 _ _ _ _ One.u
      · refine cut (∀ (j7_426 : Int64) (j9_426 : Int64) (j11_426 : Int64), Go (Q22 Z t us N h0) Z B22 0 0 h0 426 #[.val (.ref t), .val (.int ix), .val (.int q), .val (.long o), .second, .val (.long v1), .second, .val (.long j7_426), .second, .val (.long j9_426), .second, .val (.long j11_426), .second, .val (.int v5), .val (.int j14_150), .val (.int j15_150), .val (.int y17), .val (.int v22), .val (.long y30), .second, .val (.long v31), .second, .val (.int y35), .val (.int y63), .val (.int y99), j25_321, .unset] []) (fun J426 => ?_) (fun j7_426 j9_426 j11_426 => ?_)
        · refine Go.iload 323 rfl d22_321 rfl ?_
          refine Go.bipush 325 rfl (64 : Int32) d22_323 rfl ?_
          refine Go.icmp_ge 360 328 d22_325 (by decide) rfl rfl (fun (b107 : ¬ y63 < (64 : Int32)) => ?_) (fun (b107 : y63 < (64 : Int32)) => ?_)
          · refine Go.iload 362 rfl d22_360 rfl ?_
            refine Go.sipush 365 rfl (128 : Int32) d22_362 rfl ?_
            refine Go.icmp_ge 403 368 d22_365 (by decide) rfl rfl (fun (b108 : ¬ y63 < (128 : Int32)) => ?_) (fun (b108 : y63 < (128 : Int32)) => ?_)
            · refine Go.lload 405 rfl d22_403 rfl ?_
              refine Go.iload 407 rfl d22_405 rfl ?_
              refine Go.sipush 410 rfl (128 : Int32) d22_407 rfl ?_
              refine Go.isub 411 rfl d22_410 ?_
              refine Go.callS 414 rfl (C := B26) [.int (y63 - (128 : Int32))] (rest := [.long j11_321]) 122 123 3 124 (c26 Z hw h0 (y63 - (128 : Int32)) ) d22_411 rfl rfl rfl rfl (by decide) pd26 rfl rfl rfl (W := 2) (Nat.le_of_ble_eq_true rfl) (by decide) (by decide) (by decide) (by decide) fun v109 h110 q111 => ?_
              obtain ⟨y112, rfl, rfl⟩ := q111
              refine Go.land 415 rfl d22_414 ?_
              refine Go.lloadN 416 rfl d22_415 rfl ?_
              refine Go.iload 418 rfl d22_416 rfl ?_
              refine Go.sipush 421 rfl (128 : Int32) d22_418 rfl ?_
              refine Go.isub 422 rfl d22_421 ?_
              refine Go.lshl 423 rfl d22_422 ?_
              refine Go.lor 424 rfl d22_423 ?_
              refine Go.nameJ fun v113 hv113 => ?_
              refine Go.lstore 426 rfl d22_424 (Ls' := #[.val (.ref t), .val (.int ix), .val (.int q), .val (.long o), .second, .val (.long v1), .second, .val (.long j7_321), .second, .val (.long j9_321), .second, .val (.long v113), .second, .val (.int v5), .val (.int j14_150), .val (.int j15_150), .val (.int y17), .val (.int v22), .val (.long y30), .second, .val (.long v31), .second, .val (.int y35), .val (.int y63), .val (.int y99), j25_321, .unset]) rfl ?_
              exact J426 _ _ _
            · refine Go.lload 370 rfl d22_368 rfl ?_
              refine Go.iload 372 rfl d22_370 rfl ?_
              refine Go.bipush 374 rfl (64 : Int32) d22_372 rfl ?_
              refine Go.isub 375 rfl d22_374 ?_
              refine Go.callS 378 rfl (C := B26) [.int (y63 - (64 : Int32))] (rest := [.long j9_321]) 122 123 3 124 (c26 Z hw h0 (y63 - (64 : Int32)) ) d22_375 rfl rfl rfl rfl (by decide) pd26 rfl rfl rfl (W := 2) (Nat.le_of_ble_eq_true rfl) (by decide) (by decide) (by decide) (by decide) fun v114 h115 q116 => ?_
              obtain ⟨y117, rfl, rfl⟩ := q116
              refine Go.land 379 rfl d22_378 ?_
              refine Go.lloadN 380 rfl d22_379 rfl ?_
              refine Go.iload 382 rfl d22_380 rfl ?_
              refine Go.bipush 384 rfl (64 : Int32) d22_382 rfl ?_
              refine Go.isub 385 rfl d22_384 ?_
              refine Go.lshl 386 rfl d22_385 ?_
              refine Go.lor 387 rfl d22_386 ?_
              refine Go.nameJ fun v118 hv118 => ?_
              refine Go.lstore 389 rfl d22_387 (Ls' := #[.val (.ref t), .val (.int ix), .val (.int q), .val (.long o), .second, .val (.long v1), .second, .val (.long j7_321), .second, .val (.long v118), .second, .val (.long j11_321), .second, .val (.int v5), .val (.int j14_150), .val (.int j15_150), .val (.int y17), .val (.int v22), .val (.long y30), .second, .val (.long v31), .second, .val (.int y35), .val (.int y63), .val (.int y99), j25_321, .unset]) rfl ?_
              refine Go.lloadN 390 rfl d22_389 rfl ?_
              refine Go.iconst 391 rfl (1 : Int32) d22_390 rfl ?_
              refine Go.lushr 392 rfl d22_391 ?_
              refine Go.bipush 394 rfl (127 : Int32) d22_392 rfl ?_
              refine Go.iload 396 rfl d22_394 rfl ?_
              refine Go.isub 397 rfl d22_396 ?_
              refine Go.lushr 398 rfl d22_397 ?_
              refine Go.nameJ fun v119 hv119 => ?_
              refine Go.lstore 400 rfl d22_398 (Ls' := #[.val (.ref t), .val (.int ix), .val (.int q), .val (.long o), .second, .val (.long v1), .second, .val (.long j7_321), .second, .val (.long v118), .second, .val (.long v119), .second, .val (.int v5), .val (.int j14_150), .val (.int j15_150), .val (.int y17), .val (.int v22), .val (.long y30), .second, .val (.long v31), .second, .val (.int y35), .val (.int y63), .val (.int y99), j25_321, .unset]) rfl ?_
              refine Go.goto 426 d22_400 (by decide) (by decide) ?_
              exact J426 _ _ _
          · refine Go.lload 330 rfl d22_328 rfl ?_
            refine Go.iload 332 rfl d22_330 rfl ?_
            refine Go.callS 335 rfl (C := B26) [.int y63] (rest := [.long j7_321]) 122 123 3 124 (c26 Z hw h0 y63 ) d22_332 rfl rfl rfl rfl (by decide) pd26 rfl rfl rfl (W := 2) (Nat.le_of_ble_eq_true rfl) (by decide) (by decide) (by decide) (by decide) fun v120 h121 q122 => ?_
            obtain ⟨y123, rfl, rfl⟩ := q122
            refine Go.land 336 rfl d22_335 ?_
            refine Go.lloadN 337 rfl d22_336 rfl ?_
            refine Go.iload 339 rfl d22_337 rfl ?_
            refine Go.lshl 340 rfl d22_339 ?_
            refine Go.lor 341 rfl d22_340 ?_
            refine Go.nameJ fun v124 hv124 => ?_
            refine Go.lstore 343 rfl d22_341 (Ls' := #[.val (.ref t), .val (.int ix), .val (.int q), .val (.long o), .second, .val (.long v1), .second, .val (.long v124), .second, .val (.long j9_321), .second, .val (.long j11_321), .second, .val (.int v5), .val (.int j14_150), .val (.int j15_150), .val (.int y17), .val (.int v22), .val (.long y30), .second, .val (.long v31), .second, .val (.int y35), .val (.int y63), .val (.int y99), j25_321, .unset]) rfl ?_
            refine Go.lloadN 344 rfl d22_343 rfl ?_
            refine Go.iconst 345 rfl (1 : Int32) d22_344 rfl ?_
            refine Go.lushr 346 rfl d22_345 ?_
            refine Go.bipush 348 rfl (63 : Int32) d22_346 rfl ?_
            refine Go.iload 350 rfl d22_348 rfl ?_
            refine Go.isub 351 rfl d22_350 ?_
            refine Go.lushr 352 rfl d22_351 ?_
            refine Go.nameJ fun v125 hv125 => ?_
            refine Go.lstore 354 rfl d22_352 (Ls' := #[.val (.ref t), .val (.int ix), .val (.int q), .val (.long o), .second, .val (.long v1), .second, .val (.long v124), .second, .val (.long v125), .second, .val (.long j11_321), .second, .val (.int v5), .val (.int j14_150), .val (.int j15_150), .val (.int y17), .val (.int v22), .val (.long y30), .second, .val (.long v31), .second, .val (.int y35), .val (.int y63), .val (.int y99), j25_321, .unset]) rfl ?_
            refine Go.lconst 355 rfl (0 : Int64) d22_354 rfl ?_
            refine Go.lstore 357 rfl d22_355 (Ls' := #[.val (.ref t), .val (.int ix), .val (.int q), .val (.long o), .second, .val (.long v1), .second, .val (.long v124), .second, .val (.long v125), .second, .val (.long (0 : Int64)), .second, .val (.int v5), .val (.int j14_150), .val (.int j15_150), .val (.int y17), .val (.int v22), .val (.long y30), .second, .val (.long v31), .second, .val (.int y35), .val (.int y63), .val (.int y99), j25_321, .unset]) rfl ?_
            refine Go.goto 426 d22_357 (by decide) (by decide) ?_
            exact J426 _ _ _
        · refine cut (∀ (j7_502 : Int64) (j9_502 : Int64) (j25_502 : Int32), Go (Q22 Z t us N h0) Z B22 0 0 h0 502 #[.val (.ref t), .val (.int ix), .val (.int q), .val (.long o), .second, .val (.long v1), .second, .val (.long j7_502), .second, .val (.long j9_502), .second, .val (.long j11_426), .second, .val (.int v5), .val (.int j14_150), .val (.int j15_150), .val (.int y17), .val (.int v22), .val (.long y30), .second, .val (.long v31), .second, .val (.int y35), .val (.int y63), .val (.int y99), .val (.int j25_502), .unset] []) (fun J502 => ?_) (fun j7_502 j9_502 j25_502 => ?_)
          · refine Go.iload 428 rfl d22_426 rfl ?_
            refine Go.iload 430 rfl d22_428 rfl ?_
            refine Go.iadd 431 rfl d22_430 ?_
            refine Go.nameI fun v126 hv126 => ?_
            refine Go.istore 433 rfl d22_431 (Ls' := #[.val (.ref t), .val (.int ix), .val (.int q), .val (.long o), .second, .val (.long v1), .second, .val (.long j7_426), .second, .val (.long j9_426), .second, .val (.long j11_426), .second, .val (.int v5), .val (.int j14_150), .val (.int j15_150), .val (.int y17), .val (.int v22), .val (.long y30), .second, .val (.long v31), .second, .val (.int y35), .val (.int y63), .val (.int y99), .val (.int v126), .unset]) (store_one rfl oj25_321 rfl rfl) ?_
            refine Go.iload 435 rfl d22_433 rfl ?_
            refine Go.bipush 437 rfl (64 : Int32) d22_435 rfl ?_
            refine Go.icmp_ge 466 440 d22_437 (by decide) rfl rfl (fun (b127 : ¬ v126 < (64 : Int32)) => ?_) (fun (b127 : v126 < (64 : Int32)) => ?_)
            · refine Go.iloadN 467 rfl d22_466 rfl ?_
              refine Go.i2l 468 rfl d22_467 ?_
              refine Go.lload 470 rfl d22_468 rfl ?_
              refine Go.iload 472 rfl d22_470 rfl ?_
              refine Go.lshl 473 rfl d22_472 ?_
              refine Go.lor 474 rfl d22_473 ?_
              refine Go.nameJ fun v128 hv128 => ?_
              refine Go.lstore 476 rfl d22_474 (Ls' := #[.val (.ref t), .val (.int ix), .val (.int q), .val (.long o), .second, .val (.long v1), .second, .val (.long v128), .second, .val (.long j9_426), .second, .val (.long j11_426), .second, .val (.int v5), .val (.int j14_150), .val (.int j15_150), .val (.int y17), .val (.int v22), .val (.long y30), .second, .val (.long v31), .second, .val (.int y35), .val (.int y63), .val (.int y99), .val (.int v126), .unset]) rfl ?_
              refine Go.lload 478 rfl d22_476 rfl ?_
              refine Go.iload 480 rfl d22_478 rfl ?_
              refine Go.bipush 482 rfl (64 : Int32) d22_480 rfl ?_
              refine Go.isub 483 rfl d22_482 ?_
              refine Go.callS 486 rfl (C := B26) [.int (v126 - (64 : Int32))] (rest := [.long j9_426]) 122 123 3 124 (c26 Z hw h0 (v126 - (64 : Int32)) ) d22_483 rfl rfl rfl rfl (by decide) pd26 rfl rfl rfl (W := 2) (Nat.le_of_ble_eq_true rfl) (by decide) (by decide) (by decide) (by decide) fun v129 h130 q131 => ?_
              obtain ⟨y132, rfl, rfl⟩ := q131
              refine Go.ldc2J 489 rfl (v := (-1 : Int64)) 74 d22_486 rfl ?_
              refine Go.lxor 490 rfl d22_489 ?_
              refine Go.land 491 rfl d22_490 ?_
              refine Go.lload 493 rfl d22_491 rfl ?_
              refine Go.bipush 495 rfl (64 : Int32) d22_493 rfl ?_
              refine Go.iload 497 rfl d22_495 rfl ?_
              refine Go.isub 498 rfl d22_497 ?_
              refine Go.lushr 499 rfl d22_498 ?_
              refine Go.lor 500 rfl d22_499 ?_
              refine Go.nameJ fun v133 hv133 => ?_
              refine Go.lstore 502 rfl d22_500 (Ls' := #[.val (.ref t), .val (.int ix), .val (.int q), .val (.long o), .second, .val (.long v1), .second, .val (.long v128), .second, .val (.long v133), .second, .val (.long j11_426), .second, .val (.int v5), .val (.int j14_150), .val (.int j15_150), .val (.int y17), .val (.int v22), .val (.long y30), .second, .val (.long v31), .second, .val (.int y35), .val (.int y63), .val (.int y99), .val (.int v126), .unset]) rfl ?_
              exact J502 _ _ _
            · refine Go.lload 442 rfl d22_440 rfl ?_
              refine Go.iload 444 rfl d22_442 rfl ?_
              refine Go.callS 447 rfl (C := B26) [.int v126] (rest := [.long j7_426]) 122 123 3 124 (c26 Z hw h0 v126 ) d22_444 rfl rfl rfl rfl (by decide) pd26 rfl rfl rfl (W := 2) (Nat.le_of_ble_eq_true rfl) (by decide) (by decide) (by decide) (by decide) fun v134 h135 q136 => ?_
              obtain ⟨y137, rfl, rfl⟩ := q136
              refine Go.ldc2J 450 rfl (v := (-1 : Int64)) 74 d22_447 rfl ?_
              refine Go.lxor 451 rfl d22_450 ?_
              refine Go.land 452 rfl d22_451 ?_
              refine Go.iloadN 453 rfl d22_452 rfl ?_
              refine Go.i2l 454 rfl d22_453 ?_
              refine Go.lor 455 rfl d22_454 ?_
              refine Go.lload 457 rfl d22_455 rfl ?_
              refine Go.iload 459 rfl d22_457 rfl ?_
              refine Go.lshl 460 rfl d22_459 ?_
              refine Go.lor 461 rfl d22_460 ?_
              refine Go.nameJ fun v138 hv138 => ?_
              refine Go.lstore 463 rfl d22_461 (Ls' := #[.val (.ref t), .val (.int ix), .val (.int q), .val (.long o), .second, .val (.long v1), .second, .val (.long v138), .second, .val (.long j9_426), .second, .val (.long j11_426), .second, .val (.int v5), .val (.int j14_150), .val (.int j15_150), .val (.int y17), .val (.int v22), .val (.long y30), .second, .val (.long v31), .second, .val (.int y35), .val (.int y63), .val (.int y99), .val (.int v126), .unset]) rfl ?_
              refine Go.goto 502 d22_463 (by decide) (by decide) ?_
              exact J502 _ _ _
          · refine Go.lload 504 rfl d22_502 rfl ?_
            refine Go.callS 507 rfl (C := B30) [.long v1] (rest := []) 135 136 3 137 (c30 Z hw h0 v1 ) d22_504 rfl rfl rfl rfl (by decide) pd30 rfl rfl rfl (W := 0) (Nat.le_of_ble_eq_true rfl) (by decide) (by decide) (by decide) (by decide) fun v139 h140 q141 => ?_
            obtain ⟨y142, rfl, rfl⟩ := q141
            refine Go.iloadN 508 rfl d22_507 rfl ?_
            refine Go.iconst 509 rfl (1 : Int32) d22_508 rfl ?_
            refine Go.iadd 510 rfl d22_509 ?_
            refine Go.callS 513 rfl (C := B8) [.int y142, .int (q + (1 : Int32))] (rest := []) 42 43 3 44 (c8 Z hw h0 y142 (q + (1 : Int32)) ) d22_510 rfl rfl rfl rfl (by decide) pd8 rfl rfl rfl (W := 0) (Nat.le_of_ble_eq_true rfl) (by decide) (by decide) (by decide) (by decide) fun v143 h144 q145 => ?_
            obtain ⟨y146, rfl, rfl⟩ := q145
            refine Go.istore 515 rfl d22_513 (Ls' := #[.val (.ref t), .val (.int ix), .val (.int q), .val (.long o), .second, .val (.long v1), .second, .val (.long j7_502), .second, .val (.long j9_502), .second, .val (.long j11_426), .second, .val (.int v5), .val (.int j14_150), .val (.int j15_150), .val (.int y17), .val (.int v22), .val (.long y30), .second, .val (.long v31), .second, .val (.int y35), .val (.int y63), .val (.int y99), .val (.int j25_502), .val (.int y146)]) rfl ?_
            refine Go.aloadN 516 rfl d22_515 rfl rfl ?_
            refine Go.iloadN 517 rfl d22_516 rfl ?_
            refine Go.iload 519 rfl d22_517 rfl ?_
            refine Go.lload 521 rfl d22_519 rfl ?_
            refine Go.callS 524 rfl (C := B31) [.long v1] (rest := [.int y35, .int ix, .ref t]) 138 139 3 140 (c31 Z hw h0 v1 ) d22_521 rfl rfl rfl rfl (by decide) pd31 rfl rfl rfl (W := 3) (Nat.le_of_ble_eq_true rfl) (by decide) (by decide) (by decide) (by decide) fun v147 h148 q149 => ?_
            obtain ⟨y150, rfl, rfl⟩ := q149
            refine Go.iload 526 rfl d22_524 rfl ?_
            refine Go.iload 528 rfl d22_526 rfl ?_
            refine Go.iload 530 rfl d22_528 rfl ?_
            refine Go.iload 532 rfl d22_530 rfl ?_
            refine Go.callS 535 rfl (C := B21) [.int y35, .int y150, .int y146, .int j14_150, .int j15_150, .int y17] (rest := [.int ix, .ref t]) 106 107 3 108 (c21 Z hw h0 y35 y150 y146 j14_150 j15_150 y17 p36 p37) d22_532 rfl rfl rfl rfl (by decide) pd21 rfl rfl rfl (W := 2) (Nat.le_of_ble_eq_true rfl) (by decide) (by decide) (by decide) (by decide) fun v151 h152 q153 => ?_
            obtain ⟨y154, rfl, rfl, p155⟩ := q153
            refine Go.stJ 536 rfl d22_535 hA N hN (by simp only [List.length_map]; rw [hl]; omega) hgt fun h156 K157 A158 => ?_
            have A159 : Ary Z h156 t .long ((JL us).set N (.long y154)) := A158
            obtain ⟨ws160, e161⟩ : ∃ q, q = us.set N y154 := ⟨_, rfl⟩
            have l162 : ws160.length = 8 := by rw [e161]; exact own_set5 hl
            have A163 : Ary Z h156 t .long (JL ws160) := by rw [e161]; show Ary Z _ _ _ (List.map _ _); rw [List.map_set]; exact A159
            refine Go.aloadN 537 rfl d22_536 rfl rfl ?_
            refine Go.iloadN 538 rfl d22_537 rfl ?_
            refine Go.iconst 539 rfl (1 : Int32) d22_538 rfl ?_
            refine Go.iadd 540 rfl d22_539 ?_
            refine Go.lload 542 rfl d22_540 rfl ?_
            refine Go.stJ 543 rfl d22_542 A163 (N + 1) (own_sm hN (k := 1) rfl (by omega) (by decide)) (by simp only [List.length_map]; rw [l162]; omega) hgt fun h164 K165 A166 => ?_
            have A167 : Ary Z h164 t .long ((JL ws160).set (N + 1) (.long j7_502)) := A166
            obtain ⟨ws168, e169⟩ : ∃ q, q = ws160.set (N + 1) j7_502 := ⟨_, rfl⟩
            have l170 : ws168.length = 8 := by rw [e169]; exact own_set5 l162
            have A171 : Ary Z h164 t .long (JL ws168) := by rw [e169]; show Ary Z _ _ _ (List.map _ _); rw [List.map_set]; exact A167
            refine Go.aloadN 544 rfl d22_543 rfl rfl ?_
            refine Go.iloadN 545 rfl d22_544 rfl ?_
            refine Go.iconst 546 rfl (2 : Int32) d22_545 rfl ?_
            refine Go.iadd 547 rfl d22_546 ?_
            refine Go.lload 549 rfl d22_547 rfl ?_
            refine Go.stJ 550 rfl d22_549 A171 (N + 2) (own_sm hN (k := 2) rfl (by omega) (by decide)) (by simp only [List.length_map]; rw [l170]; omega) hgt fun h172 K173 A174 => ?_
            have A175 : Ary Z h172 t .long ((JL ws168).set (N + 2) (.long j9_502)) := A174
            obtain ⟨ws176, e177⟩ : ∃ q, q = ws168.set (N + 2) j9_502 := ⟨_, rfl⟩
            have l178 : ws176.length = 8 := by rw [e177]; exact own_set5 l170
            have A179 : Ary Z h172 t .long (JL ws176) := by rw [e177]; show Ary Z _ _ _ (List.map _ _); rw [List.map_set]; exact A175
            refine Go.aloadN 551 rfl d22_550 rfl rfl ?_
            refine Go.iloadN 552 rfl d22_551 rfl ?_
            refine Go.iconst 553 rfl (3 : Int32) d22_552 rfl ?_
            refine Go.iadd 554 rfl d22_553 ?_
            refine Go.lload 556 rfl d22_554 rfl ?_
            refine Go.stJ 557 rfl d22_556 A179 (N + 3) (own_sm hN (k := 3) rfl (by omega) (by decide)) (by simp only [List.length_map]; rw [l178]; omega) hgt fun h180 K181 A182 => ?_
            have A183 : Ary Z h180 t .long ((JL ws176).set (N + 3) (.long j11_426)) := A182
            obtain ⟨ws184, e185⟩ : ∃ q, q = ws176.set (N + 3) j11_426 := ⟨_, rfl⟩
            have l186 : ws184.length = 8 := by rw [e185]; exact own_set5 l178
            have A187 : Ary Z h180 t .long (JL ws184) := by rw [e185]; show Ary Z _ _ _ (List.map _ _); rw [List.map_set]; exact A183
            refine Go.iconst 558 rfl (1 : Int32) d22_557 rfl ?_
            have hz : ws184.getD N 0 = y154 := by rw [e185, own_setN (by omega), e177, own_setN (by omega), e169, own_setN (by omega), e161]; exact own_setD hl (by omega)
            exact Go.retN (t := .boolean) (z' := 1) d22_558 rfl (by decide) (by decide) (by decide) (by decide) ⟨1, ws184, rfl, (((((Keep.refl h0 [t]).trans K157 (by simp)).trans K165 (by simp)).trans K173 (by simp)).trans K181 (by simp)), A187, l186, Or.inr (by rw [hz]; exact p155)⟩
theorem d3_0 : decode prog_35_method_11_code 0 = .ok (.iload_n 2, 1) := by decide +kernel
theorem d3_1 : decode prog_35_method_11_code 1 = .ok (.istore_n 3, 1) := by decide +kernel
theorem d3_2 : decode prog_35_method_11_code 2 = .ok (.iload_n 3, 1) := by decide +kernel
theorem d3_3 : decode prog_35_method_11_code 3 = .ok (.iload_n 2, 1) := by decide +kernel
theorem d3_4 : decode prog_35_method_11_code 4 = .ok (.iconst 4, 1) := by decide +kernel
theorem d3_5 : decode prog_35_method_11_code 5 = .ok (.iadd, 1) := by decide +kernel
theorem d3_6 : decode prog_35_method_11_code 6 = .ok (.if_icmp .ge 13, 3) := by decide +kernel
theorem d3_9 : decode prog_35_method_11_code 9 = .ok (.aload_n 1, 1) := by decide +kernel
theorem d3_10 : decode prog_35_method_11_code 10 = .ok (.iload_n 3, 1) := by decide +kernel
theorem d3_11 : decode prog_35_method_11_code 11 = .ok (.lconst 0, 1) := by decide +kernel
theorem d3_12 : decode prog_35_method_11_code 12 = .ok (.lastore, 1) := by decide +kernel
theorem d3_13 : decode prog_35_method_11_code 13 = .ok (.iinc 3 1, 3) := by decide +kernel
theorem d3_16 : decode prog_35_method_11_code 16 = .ok (.goto (-14), 3) := by decide +kernel
theorem d3_19 : decode prog_35_method_11_code 19 = .ok (.aload_n 0, 1) := by decide +kernel
theorem d3_20 : decode prog_35_method_11_code 20 = .ok (.getfield 28, 3) := by decide +kernel
theorem d3_23 : decode prog_35_method_11_code 23 = .ok (.ifCond .eq 23, 3) := by decide +kernel
theorem d3_26 : decode prog_35_method_11_code 26 = .ok (.aload_n 0, 1) := by decide +kernel
theorem d3_27 : decode prog_35_method_11_code 27 = .ok (.getfield 13, 3) := by decide +kernel
theorem d3_30 : decode prog_35_method_11_code 30 = .ok (.iconst 0, 1) := by decide +kernel
theorem d3_31 : decode prog_35_method_11_code 31 = .ok (.iaload, 1) := by decide +kernel
theorem d3_32 : decode prog_35_method_11_code 32 = .ok (.ifCond .lt 14, 3) := by decide +kernel
theorem d3_35 : decode prog_35_method_11_code 35 = .ok (.aload_n 0, 1) := by decide +kernel
theorem d3_36 : decode prog_35_method_11_code 36 = .ok (.getfield 20, 3) := by decide +kernel
theorem d3_39 : decode prog_35_method_11_code 39 = .ok (.iconst 0, 1) := by decide +kernel
theorem d3_40 : decode prog_35_method_11_code 40 = .ok (.laload, 1) := by decide +kernel
theorem d3_41 : decode prog_35_method_11_code 41 = .ok (.lconst 0, 1) := by decide +kernel
theorem d3_42 : decode prog_35_method_11_code 42 = .ok (.lcmp, 1) := by decide +kernel
theorem d3_43 : decode prog_35_method_11_code 43 = .ok (.ifCond .ge 5, 3) := by decide +kernel
theorem d3_46 : decode prog_35_method_11_code 46 = .ok (.iconst 0, 1) := by decide +kernel
theorem d3_47 : decode prog_35_method_11_code 47 = .ok (.ireturn, 1) := by decide +kernel
theorem d3_48 : decode prog_35_method_11_code 48 = .ok (.lconst 0, 1) := by decide +kernel
theorem d3_49 : decode prog_35_method_11_code 49 = .ok (.lstore_n 3, 1) := by decide +kernel
theorem d3_50 : decode prog_35_method_11_code 50 = .ok (.lconst 0, 1) := by decide +kernel
theorem d3_51 : decode prog_35_method_11_code 51 = .ok (.lstore 5, 2) := by decide +kernel
theorem d3_53 : decode prog_35_method_11_code 53 = .ok (.iconst 1, 1) := by decide +kernel
theorem d3_54 : decode prog_35_method_11_code 54 = .ok (.istore 7, 2) := by decide +kernel
theorem d3_56 : decode prog_35_method_11_code 56 = .ok (.iconst 0, 1) := by decide +kernel
theorem d3_57 : decode prog_35_method_11_code 57 = .ok (.istore 8, 2) := by decide +kernel
theorem d3_59 : decode prog_35_method_11_code 59 = .ok (.iload 8, 2) := by decide +kernel
theorem d3_61 : decode prog_35_method_11_code 61 = .ok (.aload_n 0, 1) := by decide +kernel
theorem d3_62 : decode prog_35_method_11_code 62 = .ok (.getfield 28, 3) := by decide +kernel
theorem d3_65 : decode prog_35_method_11_code 65 = .ok (.if_icmp .ge 152, 3) := by decide +kernel
theorem d3_68 : decode prog_35_method_11_code 68 = .ok (.iload 8, 2) := by decide +kernel
theorem d3_70 : decode prog_35_method_11_code 70 = .ok (.aload_n 0, 1) := by decide +kernel
theorem d3_71 : decode prog_35_method_11_code 71 = .ok (.getfield 28, 3) := by decide +kernel
theorem d3_74 : decode prog_35_method_11_code 74 = .ok (.iconst 1, 1) := by decide +kernel
theorem d3_75 : decode prog_35_method_11_code 75 = .ok (.isub, 1) := by decide +kernel
theorem d3_76 : decode prog_35_method_11_code 76 = .ok (.if_icmp .ne 7, 3) := by decide +kernel
theorem d3_79 : decode prog_35_method_11_code 79 = .ok (.iconst 1, 1) := by decide +kernel
theorem d3_80 : decode prog_35_method_11_code 80 = .ok (.goto 4, 3) := by decide +kernel
theorem d3_83 : decode prog_35_method_11_code 83 = .ok (.iconst 0, 1) := by decide +kernel
theorem d3_84 : decode prog_35_method_11_code 84 = .ok (.istore 9, 2) := by decide +kernel
theorem d3_86 : decode prog_35_method_11_code 86 = .ok (.iload 9, 2) := by decide +kernel
theorem d3_88 : decode prog_35_method_11_code 88 = .ok (.ifCond .eq 7, 3) := by decide +kernel
theorem d3_91 : decode prog_35_method_11_code 91 = .ok (.lconst 0, 1) := by decide +kernel
theorem d3_92 : decode prog_35_method_11_code 92 = .ok (.goto 9, 3) := by decide +kernel
theorem d3_95 : decode prog_35_method_11_code 95 = .ok (.aload_n 0, 1) := by decide +kernel
theorem d3_96 : decode prog_35_method_11_code 96 = .ok (.iload 8, 2) := by decide +kernel
theorem d3_98 : decode prog_35_method_11_code 98 = .ok (.invokevirtual 94, 3) := by decide +kernel
theorem d3_101 : decode prog_35_method_11_code 101 = .ok (.lstore 10, 2) := by decide +kernel
theorem d3_103 : decode prog_35_method_11_code 103 = .ok (.aload_n 0, 1) := by decide +kernel
theorem d3_104 : decode prog_35_method_11_code 104 = .ok (.getfield 17, 3) := by decide +kernel
theorem d3_107 : decode prog_35_method_11_code 107 = .ok (.iload 8, 2) := by decide +kernel
theorem d3_109 : decode prog_35_method_11_code 109 = .ok (.iaload, 1) := by decide +kernel
theorem d3_110 : decode prog_35_method_11_code 110 = .ok (.ifCond .lt 58, 3) := by decide +kernel
theorem d3_113 : decode prog_35_method_11_code 113 = .ok (.lload 10, 2) := by decide +kernel
theorem d3_115 : decode prog_35_method_11_code 115 = .ok (.lconst 0, 1) := by decide +kernel
theorem d3_116 : decode prog_35_method_11_code 116 = .ok (.lcmp, 1) := by decide +kernel
theorem d3_117 : decode prog_35_method_11_code 117 = .ok (.ifCond .lt 51, 3) := by decide +kernel
theorem d3_120 : decode prog_35_method_11_code 120 = .ok (.iload 9, 2) := by decide +kernel
theorem d3_122 : decode prog_35_method_11_code 122 = .ok (.ifCond .ne 48, 3) := by decide +kernel
theorem d3_125 : decode prog_35_method_11_code 125 = .ok (.aload_n 0, 1) := by decide +kernel
theorem d3_126 : decode prog_35_method_11_code 126 = .ok (.getfield 20, 3) := by decide +kernel
theorem d3_129 : decode prog_35_method_11_code 129 = .ok (.iload 8, 2) := by decide +kernel
theorem d3_131 : decode prog_35_method_11_code 131 = .ok (.iconst 1, 1) := by decide +kernel
theorem d3_132 : decode prog_35_method_11_code 132 = .ok (.iadd, 1) := by decide +kernel
theorem d3_133 : decode prog_35_method_11_code 133 = .ok (.laload, 1) := by decide +kernel
theorem d3_134 : decode prog_35_method_11_code 134 = .ok (.aload_n 0, 1) := by decide +kernel
theorem d3_135 : decode prog_35_method_11_code 135 = .ok (.getfield 20, 3) := by decide +kernel
theorem d3_138 : decode prog_35_method_11_code 138 = .ok (.iload 8, 2) := by decide +kernel
theorem d3_140 : decode prog_35_method_11_code 140 = .ok (.laload, 1) := by decide +kernel
theorem d3_141 : decode prog_35_method_11_code 141 = .ok (.lcmp, 1) := by decide +kernel
theorem d3_142 : decode prog_35_method_11_code 142 = .ok (.ifCond .lt 26, 3) := by decide +kernel
theorem d3_145 : decode prog_35_method_11_code 145 = .ok (.aload_n 0, 1) := by decide +kernel
theorem d3_146 : decode prog_35_method_11_code 146 = .ok (.getfield 13, 3) := by decide +kernel
theorem d3_149 : decode prog_35_method_11_code 149 = .ok (.iload 8, 2) := by decide +kernel
theorem d3_151 : decode prog_35_method_11_code 151 = .ok (.iconst 1, 1) := by decide +kernel
theorem d3_152 : decode prog_35_method_11_code 152 = .ok (.iadd, 1) := by decide +kernel
theorem d3_153 : decode prog_35_method_11_code 153 = .ok (.iaload, 1) := by decide +kernel
theorem d3_154 : decode prog_35_method_11_code 154 = .ok (.aload_n 0, 1) := by decide +kernel
theorem d3_155 : decode prog_35_method_11_code 155 = .ok (.getfield 17, 3) := by decide +kernel
theorem d3_158 : decode prog_35_method_11_code 158 = .ok (.iload 8, 2) := by decide +kernel
theorem d3_160 : decode prog_35_method_11_code 160 = .ok (.iaload, 1) := by decide +kernel
theorem d3_161 : decode prog_35_method_11_code 161 = .ok (.iconst 1, 1) := by decide +kernel
theorem d3_162 : decode prog_35_method_11_code 162 = .ok (.invokestatic 98, 3) := by decide +kernel
theorem d3_165 : decode prog_35_method_11_code 165 = .ok (.if_icmp .eq 5, 3) := by decide +kernel
theorem d3_168 : decode prog_35_method_11_code 168 = .ok (.iconst 0, 1) := by decide +kernel
theorem d3_169 : decode prog_35_method_11_code 169 = .ok (.ireturn, 1) := by decide +kernel
theorem d3_170 : decode prog_35_method_11_code 170 = .ok (.lload_n 3, 1) := by decide +kernel
theorem d3_171 : decode prog_35_method_11_code 171 = .ok (.aload_n 0, 1) := by decide +kernel
theorem d3_172 : decode prog_35_method_11_code 172 = .ok (.iload 8, 2) := by decide +kernel
theorem d3_174 : decode prog_35_method_11_code 174 = .ok (.invokevirtual 101, 3) := by decide +kernel
theorem d3_177 : decode prog_35_method_11_code 177 = .ok (.i2l, 1) := by decide +kernel
theorem d3_178 : decode prog_35_method_11_code 178 = .ok (.lor, 1) := by decide +kernel
theorem d3_179 : decode prog_35_method_11_code 179 = .ok (.lstore_n 3, 1) := by decide +kernel
theorem d3_180 : decode prog_35_method_11_code 180 = .ok (.lload 5, 2) := by decide +kernel
theorem d3_182 : decode prog_35_method_11_code 182 = .ok (.lload 10, 2) := by decide +kernel
theorem d3_184 : decode prog_35_method_11_code 184 = .ok (.lor, 1) := by decide +kernel
theorem d3_185 : decode prog_35_method_11_code 185 = .ok (.lstore 5, 2) := by decide +kernel
theorem d3_187 : decode prog_35_method_11_code 187 = .ok (.iload 7, 2) := by decide +kernel
theorem d3_189 : decode prog_35_method_11_code 189 = .ok (.aload_n 0, 1) := by decide +kernel
theorem d3_190 : decode prog_35_method_11_code 190 = .ok (.iload 8, 2) := by decide +kernel
theorem d3_192 : decode prog_35_method_11_code 192 = .ok (.invokevirtual 101, 3) := by decide +kernel
theorem d3_195 : decode prog_35_method_11_code 195 = .ok (.aload_n 0, 1) := by decide +kernel
theorem d3_196 : decode prog_35_method_11_code 196 = .ok (.iconst 0, 1) := by decide +kernel
theorem d3_197 : decode prog_35_method_11_code 197 = .ok (.invokevirtual 101, 3) := by decide +kernel
theorem d3_200 : decode prog_35_method_11_code 200 = .ok (.if_icmp .ne 7, 3) := by decide +kernel
theorem d3_203 : decode prog_35_method_11_code 203 = .ok (.iconst 1, 1) := by decide +kernel
theorem d3_204 : decode prog_35_method_11_code 204 = .ok (.goto 4, 3) := by decide +kernel
theorem d3_207 : decode prog_35_method_11_code 207 = .ok (.iconst 0, 1) := by decide +kernel
theorem d3_208 : decode prog_35_method_11_code 208 = .ok (.iand, 1) := by decide +kernel
theorem d3_209 : decode prog_35_method_11_code 209 = .ok (.istore 7, 2) := by decide +kernel
theorem d3_211 : decode prog_35_method_11_code 211 = .ok (.iinc 8 1, 3) := by decide +kernel
theorem d3_214 : decode prog_35_method_11_code 214 = .ok (.goto (-155), 3) := by decide +kernel
theorem d3_217 : decode prog_35_method_11_code 217 = .ok (.lload_n 3, 1) := by decide +kernel
theorem d3_218 : decode prog_35_method_11_code 218 = .ok (.invokestatic 105, 3) := by decide +kernel
theorem d3_221 : decode prog_35_method_11_code 221 = .ok (.istore 8, 2) := by decide +kernel
theorem d3_223 : decode prog_35_method_11_code 223 = .ok (.lload 5, 2) := by decide +kernel
theorem d3_225 : decode prog_35_method_11_code 225 = .ok (.invokestatic 105, 3) := by decide +kernel
theorem d3_228 : decode prog_35_method_11_code 228 = .ok (.istore 9, 2) := by decide +kernel
theorem d3_230 : decode prog_35_method_11_code 230 = .ok (.aload_n 0, 1) := by decide +kernel
theorem d3_231 : decode prog_35_method_11_code 231 = .ok (.getfield 20, 3) := by decide +kernel
theorem d3_234 : decode prog_35_method_11_code 234 = .ok (.aload_n 0, 1) := by decide +kernel
theorem d3_235 : decode prog_35_method_11_code 235 = .ok (.getfield 28, 3) := by decide +kernel
theorem d3_238 : decode prog_35_method_11_code 238 = .ok (.iconst 1, 1) := by decide +kernel
theorem d3_239 : decode prog_35_method_11_code 239 = .ok (.isub, 1) := by decide +kernel
theorem d3_240 : decode prog_35_method_11_code 240 = .ok (.laload, 1) := by decide +kernel
theorem d3_241 : decode prog_35_method_11_code 241 = .ok (.invokestatic 105, 3) := by decide +kernel
theorem d3_244 : decode prog_35_method_11_code 244 = .ok (.istore 10, 2) := by decide +kernel
theorem d3_246 : decode prog_35_method_11_code 246 = .ok (.aload_n 0, 1) := by decide +kernel
theorem d3_247 : decode prog_35_method_11_code 247 = .ok (.getfield 28, 3) := by decide +kernel
theorem d3_250 : decode prog_35_method_11_code 250 = .ok (.iload 8, 2) := by decide +kernel
theorem d3_252 : decode prog_35_method_11_code 252 = .ok (.iload 9, 2) := by decide +kernel
theorem d3_254 : decode prog_35_method_11_code 254 = .ok (.iconst 0, 1) := by decide +kernel
theorem d3_255 : decode prog_35_method_11_code 255 = .ok (.invokestatic 109, 3) := by decide +kernel
theorem d3_258 : decode prog_35_method_11_code 258 = .ok (.iload 10, 2) := by decide +kernel
theorem d3_260 : decode prog_35_method_11_code 260 = .ok (.invokestatic 113, 3) := by decide +kernel
theorem d3_263 : decode prog_35_method_11_code 263 = .ok (.ifCond .ne 7, 3) := by decide +kernel
theorem d3_266 : decode prog_35_method_11_code 266 = .ok (.iconst 1, 1) := by decide +kernel
theorem d3_267 : decode prog_35_method_11_code 267 = .ok (.goto 4, 3) := by decide +kernel
theorem d3_270 : decode prog_35_method_11_code 270 = .ok (.iconst 0, 1) := by decide +kernel
theorem d3_271 : decode prog_35_method_11_code 271 = .ok (.istore 11, 2) := by decide +kernel
theorem d3_273 : decode prog_35_method_11_code 273 = .ok (.iload 11, 2) := by decide +kernel
theorem d3_275 : decode prog_35_method_11_code 275 = .ok (.ifCond .eq 30, 3) := by decide +kernel
theorem d3_278 : decode prog_35_method_11_code 278 = .ok (.iload 7, 2) := by decide +kernel
theorem d3_280 : decode prog_35_method_11_code 280 = .ok (.ifCond .eq 23, 3) := by decide +kernel
theorem d3_283 : decode prog_35_method_11_code 283 = .ok (.aload_n 0, 1) := by decide +kernel
theorem d3_284 : decode prog_35_method_11_code 284 = .ok (.getfield 28, 3) := by decide +kernel
theorem d3_287 : decode prog_35_method_11_code 287 = .ok (.iload 8, 2) := by decide +kernel
theorem d3_289 : decode prog_35_method_11_code 289 = .ok (.iload 9, 2) := by decide +kernel
theorem d3_291 : decode prog_35_method_11_code 291 = .ok (.iconst 1, 1) := by decide +kernel
theorem d3_292 : decode prog_35_method_11_code 292 = .ok (.invokestatic 109, 3) := by decide +kernel
theorem d3_295 : decode prog_35_method_11_code 295 = .ok (.iload 10, 2) := by decide +kernel
theorem d3_297 : decode prog_35_method_11_code 297 = .ok (.invokestatic 113, 3) := by decide +kernel
theorem d3_300 : decode prog_35_method_11_code 300 = .ok (.ifCond .ne 5, 3) := by decide +kernel
theorem d3_303 : decode prog_35_method_11_code 303 = .ok (.iconst 0, 1) := by decide +kernel
theorem d3_304 : decode prog_35_method_11_code 304 = .ok (.ireturn, 1) := by decide +kernel
theorem d3_305 : decode prog_35_method_11_code 305 = .ok (.aload_n 1, 1) := by decide +kernel
theorem d3_306 : decode prog_35_method_11_code 306 = .ok (.iload_n 2, 1) := by decide +kernel
theorem d3_307 : decode prog_35_method_11_code 307 = .ok (.iconst 1, 1) := by decide +kernel
theorem d3_308 : decode prog_35_method_11_code 308 = .ok (.aload_n 0, 1) := by decide +kernel
theorem d3_309 : decode prog_35_method_11_code 309 = .ok (.getfield 32, 3) := by decide +kernel
theorem d3_312 : decode prog_35_method_11_code 312 = .ok (.aload_n 0, 1) := by decide +kernel
theorem d3_313 : decode prog_35_method_11_code 313 = .ok (.getfield 17, 3) := by decide +kernel
theorem d3_316 : decode prog_35_method_11_code 316 = .ok (.iconst 0, 1) := by decide +kernel
theorem d3_317 : decode prog_35_method_11_code 317 = .ok (.iaload, 1) := by decide +kernel
theorem d3_318 : decode prog_35_method_11_code 318 = .ok (.iload 8, 2) := by decide +kernel
theorem d3_320 : decode prog_35_method_11_code 320 = .ok (.iload 9, 2) := by decide +kernel
theorem d3_322 : decode prog_35_method_11_code 322 = .ok (.iload 11, 2) := by decide +kernel
theorem d3_324 : decode prog_35_method_11_code 324 = .ok (.invokestatic 117, 3) := by decide +kernel
theorem d3_327 : decode prog_35_method_11_code 327 = .ok (.lastore, 1) := by decide +kernel
theorem d3_328 : decode prog_35_method_11_code 328 = .ok (.aload_n 1, 1) := by decide +kernel
theorem d3_329 : decode prog_35_method_11_code 329 = .ok (.iload_n 2, 1) := by decide +kernel
theorem d3_330 : decode prog_35_method_11_code 330 = .ok (.iconst 1, 1) := by decide +kernel
theorem d3_331 : decode prog_35_method_11_code 331 = .ok (.iadd, 1) := by decide +kernel
theorem d3_332 : decode prog_35_method_11_code 332 = .ok (.aload_n 0, 1) := by decide +kernel
theorem d3_333 : decode prog_35_method_11_code 333 = .ok (.iconst 0, 1) := by decide +kernel
theorem d3_334 : decode prog_35_method_11_code 334 = .ok (.invokevirtual 101, 3) := by decide +kernel
theorem d3_337 : decode prog_35_method_11_code 337 = .ok (.i2l, 1) := by decide +kernel
theorem d3_338 : decode prog_35_method_11_code 338 = .ok (.aload_n 0, 1) := by decide +kernel
theorem d3_339 : decode prog_35_method_11_code 339 = .ok (.getfield 20, 3) := by decide +kernel
theorem d3_342 : decode prog_35_method_11_code 342 = .ok (.iconst 0, 1) := by decide +kernel
theorem d3_343 : decode prog_35_method_11_code 343 = .ok (.laload, 1) := by decide +kernel
theorem d3_344 : decode prog_35_method_11_code 344 = .ok (.iload 8, 2) := by decide +kernel
theorem d3_346 : decode prog_35_method_11_code 346 = .ok (.lshl, 1) := by decide +kernel
theorem d3_347 : decode prog_35_method_11_code 347 = .ok (.lor, 1) := by decide +kernel
theorem d3_348 : decode prog_35_method_11_code 348 = .ok (.lastore, 1) := by decide +kernel
theorem d3_349 : decode prog_35_method_11_code 349 = .ok (.aload_n 1, 1) := by decide +kernel
theorem d3_350 : decode prog_35_method_11_code 350 = .ok (.iload_n 2, 1) := by decide +kernel
theorem d3_351 : decode prog_35_method_11_code 351 = .ok (.iconst 2, 1) := by decide +kernel
theorem d3_352 : decode prog_35_method_11_code 352 = .ok (.iadd, 1) := by decide +kernel
theorem d3_353 : decode prog_35_method_11_code 353 = .ok (.aload_n 0, 1) := by decide +kernel
theorem d3_354 : decode prog_35_method_11_code 354 = .ok (.getfield 20, 3) := by decide +kernel
theorem d3_357 : decode prog_35_method_11_code 357 = .ok (.iconst 0, 1) := by decide +kernel
theorem d3_358 : decode prog_35_method_11_code 358 = .ok (.laload, 1) := by decide +kernel
theorem d3_359 : decode prog_35_method_11_code 359 = .ok (.iconst 1, 1) := by decide +kernel
theorem d3_360 : decode prog_35_method_11_code 360 = .ok (.lushr, 1) := by decide +kernel
theorem d3_361 : decode prog_35_method_11_code 361 = .ok (.bipush 63, 2) := by decide +kernel
theorem d3_363 : decode prog_35_method_11_code 363 = .ok (.iload 8, 2) := by decide +kernel
theorem d3_365 : decode prog_35_method_11_code 365 = .ok (.isub, 1) := by decide +kernel
theorem d3_366 : decode prog_35_method_11_code 366 = .ok (.lushr, 1) := by decide +kernel
theorem d3_367 : decode prog_35_method_11_code 367 = .ok (.lastore, 1) := by decide +kernel
theorem d3_368 : decode prog_35_method_11_code 368 = .ok (.iconst 1, 1) := by decide +kernel
theorem d3_369 : decode prog_35_method_11_code 369 = .ok (.istore 12, 2) := by decide +kernel
theorem d3_371 : decode prog_35_method_11_code 371 = .ok (.iload 12, 2) := by decide +kernel
theorem d3_373 : decode prog_35_method_11_code 373 = .ok (.aload_n 0, 1) := by decide +kernel
theorem d3_374 : decode prog_35_method_11_code 374 = .ok (.getfield 28, 3) := by decide +kernel
theorem d3_377 : decode prog_35_method_11_code 377 = .ok (.if_icmp .ge 28, 3) := by decide +kernel
theorem d3_380 : decode prog_35_method_11_code 380 = .ok (.aload_n 1, 1) := by decide +kernel
theorem d3_381 : decode prog_35_method_11_code 381 = .ok (.iload_n 2, 1) := by decide +kernel
theorem d3_382 : decode prog_35_method_11_code 382 = .ok (.aload_n 0, 1) := by decide +kernel
theorem d3_383 : decode prog_35_method_11_code 383 = .ok (.iload 12, 2) := by decide +kernel
theorem d3_385 : decode prog_35_method_11_code 385 = .ok (.invokevirtual 101, 3) := by decide +kernel
theorem d3_388 : decode prog_35_method_11_code 388 = .ok (.aload_n 0, 1) := by decide +kernel
theorem d3_389 : decode prog_35_method_11_code 389 = .ok (.getfield 20, 3) := by decide +kernel
theorem d3_392 : decode prog_35_method_11_code 392 = .ok (.iload 12, 2) := by decide +kernel
theorem d3_394 : decode prog_35_method_11_code 394 = .ok (.laload, 1) := by decide +kernel
theorem d3_395 : decode prog_35_method_11_code 395 = .ok (.invokestatic 121, 3) := by decide +kernel
theorem d3_398 : decode prog_35_method_11_code 398 = .ok (.pop, 1) := by decide +kernel
theorem d3_399 : decode prog_35_method_11_code 399 = .ok (.iinc 12 1, 3) := by decide +kernel
theorem d3_402 : decode prog_35_method_11_code 402 = .ok (.goto (-31), 3) := by decide +kernel
theorem d3_405 : decode prog_35_method_11_code 405 = .ok (.iconst 1, 1) := by decide +kernel
theorem d3_406 : decode prog_35_method_11_code 406 = .ok (.ireturn, 1) := by decide +kernel
theorem pd3 : parseMethodDescriptor "([JI)Z" = some ⟨[(.array .long), .int], some .boolean⟩ := by decide +kernel
theorem pn3 : plainFor (⟨"com/example/albatross/albatross/storage/ProducerState", "packInto", "([JI)Z"⟩ : MethodName) = true := by first | (refine plainFor_of_name ?_; simp [plainName, overriddenIn]; done) | (refine plainFor_of_name ?_; decide +kernel) | decide +kernel
abbrev B3 : Bd := ((⟨"com/example/albatross/albatross/storage/ProducerState", "packInto", "([JI)Z"⟩ : MethodName), prog_35_method_11_code, 13, (some .boolean), ({ frames := 4, cells := 0, slots := 0, locals := 81 } : Room), tables_1)
theorem ef3 (mid : MethodId) (a : Addr) (t : Addr) (ix : Int32) : entryFrame mid (List.toArray [.ref a, .ref t, .int ix]) 13 = mkF mid 0 #[.val (.ref a), .val (.ref t), .val (.int ix), .unset, .unset, .unset, .unset, .unset, .unset, .unset, .unset, .unset, .unset] [] := by first | (simp [entryFrame, mkF, argsToLocals, Value.category]; done) | rfl
def Q3 (Z : State) (t : Addr) (N : Nat) (h0 : Heap) (v : Option Value) (h : Heap) : Prop := ∃ r us', v = some (.int r) ∧ Keep h0 h [t] ∧ Ary Z h t .long (JL us') ∧ us'.length = 8 ∧ ((r = 0 ∧ us'.getD N 0 = 0) ∨ (r = 1 ∧ ¬ us'.getD N 0 &&& 7 = 0))
set_option maxRecDepth 65536 in
set_option maxHeartbeats 40000000 in
theorem c3 (Z : State) (hw : Wd Z tables_1) (h0 : Heap) (a : Addr) (t : Addr) (ix : Int32) (N : Nat) (hN : ix.toInt = N) (hN3 : N ≤ 3) (us : List Int64) (hl : us.length = 8) (hA : Ary Z h0 t .long (JL us)) (fa : Addr) (la : Addr) (ba : Addr) (P0 : Pt0 Z a fa la ba) (P1 : ∃ (R e0 : Int32) (xs ys : List Int32) (zs : List Int64), (R = 0 ∨ R = 1 ∨ R = 2 ∨ R = 3) ∧ ST Z h0 a fa la ba R e0 xs ys zs) (hgt : Z.heap.size ≤ t) (nta : a ≠ t) (ntf : fa ≠ t) (ntl : la ≠ t) (ntb : ba ≠ t) : Con Z B3 (List.toArray [.ref a, .ref t, .int ix]) h0 (Q3 Z t N h0) := by
  refine Con.mk hw pn3 (fun mid => ef3 mid a t ix) (Go.old fun hle' => ?_)
  have hle := hle'.1
  refine Go.iloadN 1 rfl d3_0 rfl ?_
  refine Go.istoreN 2 rfl d3_1 (Ls' := #[.val (.ref a), .val (.ref t), .val (.int ix), .val (.int ix), .unset, .unset, .unset, .unset, .unset, .unset, .unset, .unset, .unset]) rfl ?_
  refine Go.iloadN 3 rfl d3_2 rfl ?_
  refine Go.iloadN 4 rfl d3_3 rfl ?_
  refine Go.iconst 5 rfl (4 : Int32) d3_4 rfl ?_
  refine Go.iadd 6 rfl d3_5 ?_
  refine Go.icmp_ge 19 9 d3_6 (by decide) rfl rfl (fun (b1 : ¬ ix < (ix + (4 : Int32))) => ?_) (fun (b1 : ix < (ix + (4 : Int32))) => ?_)
  · exact absurd (own_lt4 hN hN3 (k := 0) hN (by decide)) b1
  · refine Go.aloadN 10 rfl d3_9 rfl rfl ?_
    refine Go.iloadN 11 rfl d3_10 rfl ?_
    refine Go.lconst 12 rfl (0 : Int64) d3_11 rfl ?_
    refine Go.stJ 13 rfl d3_12 hA N hN (by simp only [List.length_map]; rw [hl]; omega) hgt fun h2 K3 A4 => ?_
    have A5 : Ary Z h2 t .long ((JL us).set N (.long (0 : Int64))) := A4
    obtain ⟨ws6, e7⟩ : ∃ q, q = us.set N (0 : Int64) := ⟨_, rfl⟩
    have l8 : ws6.length = 8 := by rw [e7]; exact own_set5 hl
    have A9 : Ary Z h2 t .long (JL ws6) := by rw [e7]; show Ary Z _ _ _ (List.map _ _); rw [List.map_set]; exact A5
    refine Go.iinc 16 rfl (1 : Int32) d3_13 rfl rfl (Ls' := #[.val (.ref a), .val (.ref t), .val (.int ix), .val (.int (ix + (1 : Int32))), .unset, .unset, .unset, .unset, .unset, .unset, .unset, .unset, .unset]) rfl ?_
    have iv1 : (ix + (1 : Int32)).toInt = ((N + 1 : Nat) : Int) := own_sm (k := 1) hN rfl (by omega) (by decide)
    refine Go.goto 2 d3_16 (by decide) (by decide) ?_
    refine Go.iloadN 3 rfl d3_2 rfl ?_
    refine Go.iloadN 4 rfl d3_3 rfl ?_
    refine Go.iconst 5 rfl (4 : Int32) d3_4 rfl ?_
    refine Go.iadd 6 rfl d3_5 ?_
    refine Go.icmp_ge 19 9 d3_6 (by decide) rfl rfl (fun (b10 : ¬ (ix + (1 : Int32)) < (ix + (4 : Int32))) => ?_) (fun (b10 : (ix + (1 : Int32)) < (ix + (4 : Int32))) => ?_)
    · exact absurd (own_lt4 hN hN3 (k := 1) iv1 (by decide)) b10
    · refine Go.aloadN 10 rfl d3_9 rfl rfl ?_
      refine Go.iloadN 11 rfl d3_10 rfl ?_
      refine Go.lconst 12 rfl (0 : Int64) d3_11 rfl ?_
      refine Go.stJ 13 rfl d3_12 A9 (N + 1) iv1 (by simp only [List.length_map]; rw [l8]; omega) hgt fun h11 K12 A13 => ?_
      have A14 : Ary Z h11 t .long ((JL ws6).set (N + 1) (.long (0 : Int64))) := A13
      obtain ⟨ws15, e16⟩ : ∃ q, q = ws6.set (N + 1) (0 : Int64) := ⟨_, rfl⟩
      have l17 : ws15.length = 8 := by rw [e16]; exact own_set5 l8
      have A18 : Ary Z h11 t .long (JL ws15) := by rw [e16]; show Ary Z _ _ _ (List.map _ _); rw [List.map_set]; exact A14
      refine Go.iinc 16 rfl (1 : Int32) d3_13 rfl rfl (Ls' := #[.val (.ref a), .val (.ref t), .val (.int ix), .val (.int ((ix + (1 : Int32)) + (1 : Int32))), .unset, .unset, .unset, .unset, .unset, .unset, .unset, .unset, .unset]) rfl ?_
      have iv2 : ((ix + (1 : Int32)) + (1 : Int32)).toInt = ((N + 2 : Nat) : Int) := own_sm (k := 1) iv1 rfl (by omega) (by decide)
      refine Go.goto 2 d3_16 (by decide) (by decide) ?_
      refine Go.iloadN 3 rfl d3_2 rfl ?_
      refine Go.iloadN 4 rfl d3_3 rfl ?_
      refine Go.iconst 5 rfl (4 : Int32) d3_4 rfl ?_
      refine Go.iadd 6 rfl d3_5 ?_
      refine Go.icmp_ge 19 9 d3_6 (by decide) rfl rfl (fun (b19 : ¬ ((ix + (1 : Int32)) + (1 : Int32)) < (ix + (4 : Int32))) => ?_) (fun (b19 : ((ix + (1 : Int32)) + (1 : Int32)) < (ix + (4 : Int32))) => ?_)
      · exact absurd (own_lt4 hN hN3 (k := 2) iv2 (by decide)) b19
      · refine Go.aloadN 10 rfl d3_9 rfl rfl ?_
        refine Go.iloadN 11 rfl d3_10 rfl ?_
        refine Go.lconst 12 rfl (0 : Int64) d3_11 rfl ?_
        refine Go.stJ 13 rfl d3_12 A18 (N + 2) iv2 (by simp only [List.length_map]; rw [l17]; omega) hgt fun h20 K21 A22 => ?_
        have A23 : Ary Z h20 t .long ((JL ws15).set (N + 2) (.long (0 : Int64))) := A22
        obtain ⟨ws24, e25⟩ : ∃ q, q = ws15.set (N + 2) (0 : Int64) := ⟨_, rfl⟩
        have l26 : ws24.length = 8 := by rw [e25]; exact own_set5 l17
        have A27 : Ary Z h20 t .long (JL ws24) := by rw [e25]; show Ary Z _ _ _ (List.map _ _); rw [List.map_set]; exact A23
        refine Go.iinc 16 rfl (1 : Int32) d3_13 rfl rfl (Ls' := #[.val (.ref a), .val (.ref t), .val (.int ix), .val (.int (((ix + (1 : Int32)) + (1 : Int32)) + (1 : Int32))), .unset, .unset, .unset, .unset, .unset, .unset, .unset, .unset, .unset]) rfl ?_
        have iv3 : (((ix + (1 : Int32)) + (1 : Int32)) + (1 : Int32)).toInt = ((N + 3 : Nat) : Int) := own_sm (k := 1) iv2 rfl (by omega) (by decide)
        refine Go.goto 2 d3_16 (by decide) (by decide) ?_
        refine Go.iloadN 3 rfl d3_2 rfl ?_
        refine Go.iloadN 4 rfl d3_3 rfl ?_
        refine Go.iconst 5 rfl (4 : Int32) d3_4 rfl ?_
        refine Go.iadd 6 rfl d3_5 ?_
        refine Go.icmp_ge 19 9 d3_6 (by decide) rfl rfl (fun (b28 : ¬ (((ix + (1 : Int32)) + (1 : Int32)) + (1 : Int32)) < (ix + (4 : Int32))) => ?_) (fun (b28 : (((ix + (1 : Int32)) + (1 : Int32)) + (1 : Int32)) < (ix + (4 : Int32))) => ?_)
        · exact absurd (own_lt4 hN hN3 (k := 3) iv3 (by decide)) b28
        · refine Go.aloadN 10 rfl d3_9 rfl rfl ?_
          refine Go.iloadN 11 rfl d3_10 rfl ?_
          refine Go.lconst 12 rfl (0 : Int64) d3_11 rfl ?_
          refine Go.stJ 13 rfl d3_12 A27 (N + 3) iv3 (by simp only [List.length_map]; rw [l26]; omega) hgt fun h29 K30 A31 => ?_
          have A32 : Ary Z h29 t .long ((JL ws24).set (N + 3) (.long (0 : Int64))) := A31
          obtain ⟨ws33, e34⟩ : ∃ q, q = ws24.set (N + 3) (0 : Int64) := ⟨_, rfl⟩
          have l35 : ws33.length = 8 := by rw [e34]; exact own_set5 l26
          have A36 : Ary Z h29 t .long (JL ws33) := by rw [e34]; show Ary Z _ _ _ (List.map _ _); rw [List.map_set]; exact A32
          refine Go.iinc 16 rfl (1 : Int32) d3_13 rfl rfl (Ls' := #[.val (.ref a), .val (.ref t), .val (.int ix), .val (.int ((((ix + (1 : Int32)) + (1 : Int32)) + (1 : Int32)) + (1 : Int32))), .unset, .unset, .unset, .unset, .unset, .unset, .unset, .unset, .unset]) rfl ?_
          have iv4 : ((((ix + (1 : Int32)) + (1 : Int32)) + (1 : Int32)) + (1 : Int32)).toInt = ((N + 4 : Nat) : Int) := own_sm (k := 1) iv3 rfl (by omega) (by decide)
          refine Go.goto 2 d3_16 (by decide) (by decide) ?_
          refine Go.iloadN 3 rfl d3_2 rfl ?_
          refine Go.iloadN 4 rfl d3_3 rfl ?_
          refine Go.iconst 5 rfl (4 : Int32) d3_4 rfl ?_
          refine Go.iadd 6 rfl d3_5 ?_
          refine Go.icmp_ge 19 9 d3_6 (by decide) rfl rfl (fun (b37 : ¬ ((((ix + (1 : Int32)) + (1 : Int32)) + (1 : Int32)) + (1 : Int32)) < (ix + (4 : Int32))) => ?_) (fun (b37 : ((((ix + (1 : Int32)) + (1 : Int32)) + (1 : Int32)) + (1 : Int32)) < (ix + (4 : Int32))) => ?_)
          · have hz0 : ws33.getD N 0 = 0 := by rw [e34, own_setN (by omega), e25, own_setN (by omega), e16, own_setN (by omega), e7]; exact own_setD hl (by omega)
            have K4 : Keep h0 h29 [t] := (((((Keep.refl h0 [t]).trans K3 (by simp)).trans K12 (by simp)).trans K21 (by simp)).trans K30 (by simp))
            obtain ⟨R, e0, xs, ys, zs, hR, S0⟩ := P1
            have S := S0.keep K4 (ninS nta nin0) (ninS ntf nin0) (ninS ntl nin0) (ninS ntb nin0)
            rcases hR with rfl | rfl | rfl | rfl
            · obtain ⟨E38, F39, F40, F41, F42, F43, A44, A45, A46, l47, l48, l49⟩ := id S
              obtain ⟨pg1, pg2, pg3, pg4, pn1, pn2, pn3, pn4, pn5, pn6⟩ := id P0
              refine Go.aloadN 20 rfl d3_19 rfl rfl ?_
              refine Go.getF 23 rfl (v := .int (0 : Int32)) 23 d3_20 rfl F42 ?_
              refine Go.if_eq 46 26 d3_23 (by decide) rfl rfl (fun (b50 : (0 : Int32) = 0) => ?_) (fun (b50 : ¬ (0 : Int32) = 0) => ?_)
              · refine Go.iconst 47 rfl (0 : Int32) d3_46 rfl ?_
                exact Go.retN (t := .boolean) (z' := 0) d3_47 rfl (by decide) (by decide) (by decide) (by decide) ⟨0, ws33, rfl, K4, A36, l35, Or.inl ⟨rfl, hz0⟩⟩
              · exact absurd (show (0 : Int32) = 0 from by decide) b50
            · obtain ⟨E51, F52, F53, F54, F55, F56, A57, A58, A59, l60, l61, l62⟩ := id S
              obtain ⟨pg1, pg2, pg3, pg4, pn1, pn2, pn3, pn4, pn5, pn6⟩ := id P0
              refine Go.aloadN 20 rfl d3_19 rfl rfl ?_
              refine Go.getF 23 rfl (v := .int (1 : Int32)) 23 d3_20 rfl F55 ?_
              refine Go.if_eq 46 26 d3_23 (by decide) rfl rfl (fun (b63 : (1 : Int32) = 0) => ?_) (fun (b63 : ¬ (1 : Int32) = 0) => ?_)
              · exact absurd b63 (show ¬ (1 : Int32) = 0 from by decide)
              · refine Go.aloadN 27 rfl d3_26 rfl rfl ?_
                refine Go.getF 30 rfl (v := .ref fa) 11 d3_27 rfl F52 ?_
                refine Go.iconst 31 rfl (0 : Int32) d3_30 rfl ?_
                refine Go.iaload 32 rfl (xs.getD 0 0) d3_31 A57 0 rfl (IL.get l60 (by decide)) ?_
                refine Go.nameI fun v64 hv64 => ?_
                refine Go.if_lt 46 35 d3_32 (by decide) rfl rfl (fun (b65 : v64 < 0) => ?_) (fun (b65 : ¬ v64 < 0) => ?_)
                · refine Go.iconst 47 rfl (0 : Int32) d3_46 rfl ?_
                  exact Go.retN (t := .boolean) (z' := 0) d3_47 rfl (by decide) (by decide) (by decide) (by decide) ⟨0, ws33, rfl, K4, A36, l35, Or.inl ⟨rfl, hz0⟩⟩
                · refine Go.aloadN 36 rfl d3_35 rfl rfl ?_
                  refine Go.getF 39 rfl (v := .ref ba) 15 d3_36 rfl F54 ?_
                  refine Go.iconst 40 rfl (0 : Int32) d3_39 rfl ?_
                  refine Go.laload 41 rfl (zs.getD 0 0) d3_40 A59 0 rfl (JL.get l62 (by decide)) ?_
                  refine Go.nameJ fun v66 hv66 => ?_
                  refine Go.lconst 42 rfl (0 : Int64) d3_41 rfl ?_
                  refine Go.lcmp 43 rfl d3_42 ?_
                  refine Go.if_ge 48 46 d3_43 (by decide) rfl rfl (fun (b67 : ¬ (XT.cmpL v66 (0 : Int64)) < 0) => ?_) (fun (b67 : (XT.cmpL v66 (0 : Int64)) < 0) => ?_)
                  · refine Go.lconst 49 rfl (0 : Int64) d3_48 rfl ?_
                    refine Go.lstoreN 50 rfl d3_49 (Ls' := #[.val (.ref a), .val (.ref t), .val (.int ix), .val (.long (0 : Int64)), .second, .unset, .unset, .unset, .unset, .unset, .unset, .unset, .unset]) rfl ?_
                    refine Go.lconst 51 rfl (0 : Int64) d3_50 rfl ?_
                    refine Go.lstore 53 rfl d3_51 (Ls' := #[.val (.ref a), .val (.ref t), .val (.int ix), .val (.long (0 : Int64)), .second, .val (.long (0 : Int64)), .second, .unset, .unset, .unset, .unset, .unset, .unset]) rfl ?_
                    refine Go.iconst 54 rfl (1 : Int32) d3_53 rfl ?_
                    refine Go.istore 56 rfl d3_54 (Ls' := #[.val (.ref a), .val (.ref t), .val (.int ix), .val (.long (0 : Int64)), .second, .val (.long (0 : Int64)), .second, .val (.int (1 : Int32)), .unset, .unset, .unset, .unset, .unset]) rfl ?_
                    refine Go.iconst 57 rfl (0 : Int32) d3_56 rfl ?_
                    refine Go.istore 59 rfl d3_57 (Ls' := #[.val (.ref a), .val (.ref t), .val (.int ix), .val (.long (0 : Int64)), .second, .val (.long (0 : Int64)), .second, .val (.int (1 : Int32)), .val (.int (0 : Int32)), .unset, .unset, .unset, .unset]) rfl ?_
                    refine Go.iload 61 rfl d3_59 rfl ?_
                    refine Go.aloadN 62 rfl d3_61 rfl rfl ?_
                    refine Go.getF 65 rfl (v := .int (1 : Int32)) 23 d3_62 rfl F55 ?_
                    refine Go.icmp_ge 217 68 d3_65 (by decide) rfl rfl (fun (b68 : ¬ (0 : Int32) < (1 : Int32)) => ?_) (fun (b68 : (0 : Int32) < (1 : Int32)) => ?_)
                    · exact absurd (show (0 : Int32) < (1 : Int32) from by decide) b68
                    · refine Go.iload 70 rfl d3_68 rfl ?_
                      refine Go.aloadN 71 rfl d3_70 rfl rfl ?_
                      refine Go.getF 74 rfl (v := .int (1 : Int32)) 23 d3_71 rfl F55 ?_
                      refine Go.iconst 75 rfl (1 : Int32) d3_74 rfl ?_
                      refine Go.isub 76 rfl d3_75 ?_
                      refine Go.icmp_ne 83 79 d3_76 (by decide) rfl rfl (fun (b69 : ¬ (0 : Int32) = ((1 : Int32) - (1 : Int32))) => ?_) (fun (b69 : (0 : Int32) = ((1 : Int32) - (1 : Int32))) => ?_)
                      · exact absurd (show (0 : Int32) = ((1 : Int32) - (1 : Int32)) from by decide) b69
                      · refine Go.iconst 80 rfl (1 : Int32) d3_79 rfl ?_
                        refine Go.goto 84 d3_80 (by decide) (by decide) ?_
                        refine Go.istore 86 rfl d3_84 (Ls' := #[.val (.ref a), .val (.ref t), .val (.int ix), .val (.long (0 : Int64)), .second, .val (.long (0 : Int64)), .second, .val (.int (1 : Int32)), .val (.int (0 : Int32)), .val (.int (1 : Int32)), .unset, .unset, .unset]) rfl ?_
                        refine Go.iload 88 rfl d3_86 rfl ?_
                        refine Go.if_eq 95 91 d3_88 (by decide) rfl rfl (fun (b70 : (1 : Int32) = 0) => ?_) (fun (b70 : ¬ (1 : Int32) = 0) => ?_)
                        · exact absurd b70 (show ¬ (1 : Int32) = 0 from by decide)
                        · refine Go.lconst 92 rfl (0 : Int64) d3_91 rfl ?_
                          refine Go.goto 101 d3_92 (by decide) (by decide) ?_
                          refine Go.lstore 103 rfl d3_101 (Ls' := #[.val (.ref a), .val (.ref t), .val (.int ix), .val (.long (0 : Int64)), .second, .val (.long (0 : Int64)), .second, .val (.int (1 : Int32)), .val (.int (0 : Int32)), .val (.int (1 : Int32)), .val (.long (0 : Int64)), .second, .unset]) rfl ?_
                          refine Go.aloadN 104 rfl d3_103 rfl rfl ?_
                          refine Go.getF 107 rfl (v := .ref la) 13 d3_104 rfl F53 ?_
                          refine Go.iload 109 rfl d3_107 rfl ?_
                          refine Go.iaload 110 rfl (ys.getD 0 0) d3_109 A58 0 rfl (IL.get l61 (by decide)) ?_
                          refine Go.nameI fun v71 hv71 => ?_
                          refine Go.if_lt 168 113 d3_110 (by decide) rfl rfl (fun (b72 : v71 < 0) => ?_) (fun (b72 : ¬ v71 < 0) => ?_)
                          · refine Go.iconst 169 rfl (0 : Int32) d3_168 rfl ?_
                            exact Go.retN (t := .boolean) (z' := 0) d3_169 rfl (by decide) (by decide) (by decide) (by decide) ⟨0, ws33, rfl, K4, A36, l35, Or.inl ⟨rfl, hz0⟩⟩
                          · refine Go.lload 115 rfl d3_113 rfl ?_
                            refine Go.lconst 116 rfl (0 : Int64) d3_115 rfl ?_
                            refine Go.lcmp 117 rfl d3_116 ?_
                            refine Go.if_lt 168 120 d3_117 (by decide) rfl rfl (fun (b73 : (XT.cmpL (0 : Int64) (0 : Int64)) < 0) => ?_) (fun (b73 : ¬ (XT.cmpL (0 : Int64) (0 : Int64)) < 0) => ?_)
                            · refine Go.iconst 169 rfl (0 : Int32) d3_168 rfl ?_
                              exact Go.retN (t := .boolean) (z' := 0) d3_169 rfl (by decide) (by decide) (by decide) (by decide) ⟨0, ws33, rfl, K4, A36, l35, Or.inl ⟨rfl, hz0⟩⟩
                            · refine Go.iload 122 rfl d3_120 rfl ?_
                              refine Go.if_ne 170 125 d3_122 (by decide) rfl rfl (fun (b74 : ¬ (1 : Int32) = 0) => ?_) (fun (b74 : (1 : Int32) = 0) => ?_)
                              · refine Go.lloadN 171 rfl d3_170 rfl ?_
                                refine Go.aloadN 172 rfl d3_171 rfl rfl ?_
                                refine Go.iload 174 rfl d3_172 rfl ?_
                                refine Go.callP2 177 rfl (C := B14) a [.int (0 : Int32)] (rest := [.long (0 : Int64)]) 81 82 2 83 3 84 (c14 Z hw h29 a (0 : Int32) fa la ba (1 : Int32) e0 xs ys zs 0 rfl (by decide) P0 S) E51 d3_174 rfl rfl rfl rfl rfl rfl (by decide) pd14 rfl rfl rfl (W := 2) (Nat.le_of_ble_eq_true rfl) (by decide) (by decide) (by decide) (by decide) fun v75 h76 q77 => ?_
                                obtain ⟨y78, rfl, rfl⟩ := q77
                                refine Go.i2l 178 rfl d3_177 ?_
                                refine Go.lor 179 rfl d3_178 ?_
                                refine Go.nameJ fun v79 hv79 => ?_
                                refine Go.lstoreN 180 rfl d3_179 (Ls' := #[.val (.ref a), .val (.ref t), .val (.int ix), .val (.long v79), .second, .val (.long (0 : Int64)), .second, .val (.int (1 : Int32)), .val (.int (0 : Int32)), .val (.int (1 : Int32)), .val (.long (0 : Int64)), .second, .unset]) rfl ?_
                                refine Go.lload 182 rfl d3_180 rfl ?_
                                refine Go.lload 184 rfl d3_182 rfl ?_
                                refine Go.lor 185 rfl d3_184 ?_
                                refine Go.nameJ fun v80 hv80 => ?_
                                refine Go.lstore 187 rfl d3_185 (Ls' := #[.val (.ref a), .val (.ref t), .val (.int ix), .val (.long v79), .second, .val (.long v80), .second, .val (.int (1 : Int32)), .val (.int (0 : Int32)), .val (.int (1 : Int32)), .val (.long (0 : Int64)), .second, .unset]) rfl ?_
                                refine Go.iload 189 rfl d3_187 rfl ?_
                                refine Go.aloadN 190 rfl d3_189 rfl rfl ?_
                                refine Go.iload 192 rfl d3_190 rfl ?_
                                refine Go.callP2 195 rfl (C := B14) a [.int (0 : Int32)] (rest := [.int (1 : Int32)]) 81 82 2 83 3 84 (c14 Z hw h29 a (0 : Int32) fa la ba (1 : Int32) e0 xs ys zs 0 rfl (by decide) P0 S) E51 d3_192 rfl rfl rfl rfl rfl rfl (by decide) pd14 rfl rfl rfl (W := 1) (Nat.le_of_ble_eq_true rfl) (by decide) (by decide) (by decide) (by decide) fun v81 h82 q83 => ?_
                                obtain ⟨y84, rfl, rfl⟩ := q83
                                refine Go.aloadN 196 rfl d3_195 rfl rfl ?_
                                refine Go.iconst 197 rfl (0 : Int32) d3_196 rfl ?_
                                refine Go.callP2 200 rfl (C := B14) a [.int (0 : Int32)] (rest := [.int y84, .int (1 : Int32)]) 81 82 2 83 3 84 (c14 Z hw h29 a (0 : Int32) fa la ba (1 : Int32) e0 xs ys zs 0 rfl (by decide) P0 S) E51 d3_197 rfl rfl rfl rfl rfl rfl (by decide) pd14 rfl rfl rfl (W := 2) (Nat.le_of_ble_eq_true rfl) (by decide) (by decide) (by decide) (by decide) fun v85 h86 q87 => ?_
                                obtain ⟨y88, rfl, rfl⟩ := q87
                                refine Go.joinI (pcJ := 208) (LsJ := #[.val (.ref a), .val (.ref t), .val (.int ix), .val (.long v79), .second, .val (.long v80), .second, .val (.int (1 : Int32)), .val (.int (0 : Int32)), .val (.int (1 : Int32)), .val (.long (0 : Int64)), .second, .unset]) (stJ := [.int (1 : Int32)]) (fun v => True) (fun J => ?_) (fun v1_0 _h1_0 => ?_)
                                · refine Go.icmp_ne 207 203 d3_200 (by decide) rfl rfl (fun (b89 : ¬ y84 = y88) => ?_) (fun (b89 : y84 = y88) => ?_)
                                  · refine Go.iconst 208 rfl (0 : Int32) d3_207 rfl ?_
                                    exact J _ trivial
                                  · refine Go.iconst 204 rfl (1 : Int32) d3_203 rfl ?_
                                    refine Go.goto 208 d3_204 (by decide) (by decide) ?_
                                    exact J _ trivial
                                · refine Go.iand 209 rfl d3_208 ?_
                                  refine Go.nameI fun v90 hv90 => ?_
                                  refine Go.istore 211 rfl d3_209 (Ls' := #[.val (.ref a), .val (.ref t), .val (.int ix), .val (.long v79), .second, .val (.long v80), .second, .val (.int v90), .val (.int (0 : Int32)), .val (.int (1 : Int32)), .val (.long (0 : Int64)), .second, .unset]) rfl ?_
                                  refine Go.iinc 214 rfl (1 : Int32) d3_211 rfl rfl (Ls' := #[.val (.ref a), .val (.ref t), .val (.int ix), .val (.long v79), .second, .val (.long v80), .second, .val (.int v90), .val (.int ((0 : Int32) + (1 : Int32))), .val (.int (1 : Int32)), .val (.long (0 : Int64)), .second, .unset]) rfl ?_
                                  refine Go.goto 59 d3_214 (by decide) (by decide) ?_
                                  refine Go.iload 61 rfl d3_59 rfl ?_
                                  refine Go.aloadN 62 rfl d3_61 rfl rfl ?_
                                  refine Go.getF 65 rfl (v := .int (1 : Int32)) 23 d3_62 rfl F55 ?_
                                  refine Go.icmp_ge 217 68 d3_65 (by decide) rfl rfl (fun (b91 : ¬ ((0 : Int32) + (1 : Int32)) < (1 : Int32)) => ?_) (fun (b91 : ((0 : Int32) + (1 : Int32)) < (1 : Int32)) => ?_)
                                  · refine Go.lloadN 218 rfl d3_217 rfl ?_
                                    refine Go.callS 221 rfl (C := B15) [.long v79] (rest := []) 85 86 3 87 (c15 Z hw h29 v79 ) d3_218 rfl rfl rfl rfl (by decide) pd15 rfl rfl rfl (W := 0) (Nat.le_of_ble_eq_true rfl) (by decide) (by decide) (by decide) (by decide) fun v92 h93 q94 => ?_
                                    obtain ⟨y95, rfl, rfl⟩ := q94
                                    refine Go.istore 223 rfl d3_221 (Ls' := #[.val (.ref a), .val (.ref t), .val (.int ix), .val (.long v79), .second, .val (.long v80), .second, .val (.int v90), .val (.int y95), .val (.int (1 : Int32)), .val (.long (0 : Int64)), .second, .unset]) rfl ?_
                                    refine Go.lload 225 rfl d3_223 rfl ?_
                                    refine Go.callS 228 rfl (C := B15) [.long v80] (rest := []) 85 86 3 87 (c15 Z hw h29 v80 ) d3_225 rfl rfl rfl rfl (by decide) pd15 rfl rfl rfl (W := 0) (Nat.le_of_ble_eq_true rfl) (by decide) (by decide) (by decide) (by decide) fun v96 h97 q98 => ?_
                                    obtain ⟨y99, rfl, rfl⟩ := q98
                                    refine Go.istore 230 rfl d3_228 (Ls' := #[.val (.ref a), .val (.ref t), .val (.int ix), .val (.long v79), .second, .val (.long v80), .second, .val (.int v90), .val (.int y95), .val (.int y99), .val (.long (0 : Int64)), .second, .unset]) rfl ?_
                                    refine Go.aloadN 231 rfl d3_230 rfl rfl ?_
                                    refine Go.getF 234 rfl (v := .ref ba) 15 d3_231 rfl F54 ?_
                                    refine Go.aloadN 235 rfl d3_234 rfl rfl ?_
                                    refine Go.getF 238 rfl (v := .int (1 : Int32)) 23 d3_235 rfl F55 ?_
                                    refine Go.iconst 239 rfl (1 : Int32) d3_238 rfl ?_
                                    refine Go.isub 240 rfl d3_239 ?_
                                    refine Go.laload 241 rfl (zs.getD 0 0) d3_240 A59 0 rfl (JL.get l62 (by decide)) ?_
                                    refine Go.nameJ fun v100 hv100 => ?_
                                    refine Go.callS 244 rfl (C := B15) [.long v100] (rest := []) 85 86 3 87 (c15 Z hw h29 v100 ) d3_241 rfl rfl rfl rfl (by decide) pd15 rfl rfl rfl (W := 0) (Nat.le_of_ble_eq_true rfl) (by decide) (by decide) (by decide) (by decide) fun v101 h102 q103 => ?_
                                    obtain ⟨y104, rfl, rfl⟩ := q103
                                    refine Go.istore 246 rfl d3_244 (Ls' := #[.val (.ref a), .val (.ref t), .val (.int ix), .val (.long v79), .second, .val (.long v80), .second, .val (.int v90), .val (.int y95), .val (.int y99), .val (.int y104), .unset, .unset]) rfl ?_
                                    refine Go.aloadN 247 rfl d3_246 rfl rfl ?_
                                    refine Go.getF 250 rfl (v := .int (1 : Int32)) 23 d3_247 rfl F55 ?_
                                    refine Go.iload 252 rfl d3_250 rfl ?_
                                    refine Go.iload 254 rfl d3_252 rfl ?_
                                    refine Go.iconst 255 rfl (0 : Int32) d3_254 rfl ?_
                                    refine Go.callS 258 rfl (C := B18) [.int (1 : Int32), .int y95, .int y99, .int (0 : Int32)] (rest := []) 97 98 3 99 (c18 Z hw h29 (1 : Int32) y95 y99 (0 : Int32) ) d3_255 rfl rfl rfl rfl (by decide) pd18 rfl rfl rfl (W := 0) (Nat.le_of_ble_eq_true rfl) (by decide) (by decide) (by decide) (by decide) fun v105 h106 q107 => ?_
                                    obtain ⟨y108, rfl, rfl⟩ := q107
                                    refine Go.iload 260 rfl d3_258 rfl ?_
                                    refine Go.callS 263 rfl (C := B20) [.int y108, .int y104] (rest := []) 103 104 3 105 (c20 Z hw h29 y108 y104 ) d3_260 rfl rfl rfl rfl (by decide) pd20 rfl rfl rfl (W := 0) (Nat.le_of_ble_eq_true rfl) (by decide) (by decide) (by decide) (by decide) fun v109 h110 q111 => ?_
                                    obtain ⟨y112, rfl, rfl⟩ := q111
                                    refine Go.joinI (pcJ := 271) (LsJ := #[.val (.ref a), .val (.ref t), .val (.int ix), .val (.long v79), .second, .val (.long v80), .second, .val (.int v90), .val (.int y95), .val (.int y99), .val (.int y104), .unset, .unset]) (stJ := []) (fun v => True) (fun J => ?_) (fun w1 _w1 => ?_)
                                    · refine Go.if_ne 270 266 d3_263 (by decide) rfl rfl (fun (b113 : ¬ y112 = 0) => ?_) (fun (b113 : y112 = 0) => ?_)
                                      · refine Go.iconst 271 rfl (0 : Int32) d3_270 rfl ?_
                                        exact J _ trivial
                                      · refine Go.iconst 267 rfl (1 : Int32) d3_266 rfl ?_
                                        refine Go.goto 271 d3_267 (by decide) (by decide) ?_
                                        exact J _ trivial
                                    · refine Go.istore 273 rfl d3_271 (Ls' := #[.val (.ref a), .val (.ref t), .val (.int ix), .val (.long v79), .second, .val (.long v80), .second, .val (.int v90), .val (.int y95), .val (.int y99), .val (.int y104), .val (.int w1), .unset]) rfl ?_
                                      refine Go.iload 275 rfl d3_273 rfl ?_
                                      refine cut (Go (Q3 Z t N h0) Z B3 0 0 h29 305 #[.val (.ref a), .val (.ref t), .val (.int ix), .val (.long v79), .second, .val (.long v80), .second, .val (.int v90), .val (.int y95), .val (.int y99), .val (.int y104), .val (.int w1), .unset] []) (fun J305 => ?_) (?_)
                                      · refine Go.if_eq 305 278 d3_275 (by decide) rfl rfl (fun (b114 : w1 = 0) => ?_) (fun (b114 : ¬ w1 = 0) => ?_)
                                        · exact J305 
                                        · refine Go.iload 280 rfl d3_278 rfl ?_
                                          refine Go.if_eq 303 283 d3_280 (by decide) rfl rfl (fun (b115 : v90 = 0) => ?_) (fun (b115 : ¬ v90 = 0) => ?_)
                                          · refine Go.iconst 304 rfl (0 : Int32) d3_303 rfl ?_
                                            exact Go.retN (t := .boolean) (z' := 0) d3_304 rfl (by decide) (by decide) (by decide) (by decide) ⟨0, ws33, rfl, K4, A36, l35, Or.inl ⟨rfl, hz0⟩⟩
                                          · refine Go.aloadN 284 rfl d3_283 rfl rfl ?_
                                            refine Go.getF 287 rfl (v := .int (1 : Int32)) 23 d3_284 rfl F55 ?_
                                            refine Go.iload 289 rfl d3_287 rfl ?_
                                            refine Go.iload 291 rfl d3_289 rfl ?_
                                            refine Go.iconst 292 rfl (1 : Int32) d3_291 rfl ?_
                                            refine Go.callS 295 rfl (C := B18) [.int (1 : Int32), .int y95, .int y99, .int (1 : Int32)] (rest := []) 97 98 3 99 (c18 Z hw h29 (1 : Int32) y95 y99 (1 : Int32) ) d3_292 rfl rfl rfl rfl (by decide) pd18 rfl rfl rfl (W := 0) (Nat.le_of_ble_eq_true rfl) (by decide) (by decide) (by decide) (by decide) fun v116 h117 q118 => ?_
                                            obtain ⟨y119, rfl, rfl⟩ := q118
                                            refine Go.iload 297 rfl d3_295 rfl ?_
                                            refine Go.callS 300 rfl (C := B20) [.int y119, .int y104] (rest := []) 103 104 3 105 (c20 Z hw h29 y119 y104 ) d3_297 rfl rfl rfl rfl (by decide) pd20 rfl rfl rfl (W := 0) (Nat.le_of_ble_eq_true rfl) (by decide) (by decide) (by decide) (by decide) fun v120 h121 q122 => ?_
                                            obtain ⟨y123, rfl, rfl⟩ := q122
                                            refine Go.if_ne 305 303 d3_300 (by decide) rfl rfl (fun (b124 : ¬ y123 = 0) => ?_) (fun (b124 : y123 = 0) => ?_)
                                            · exact J305 
                                            · refine Go.iconst 304 rfl (0 : Int32) d3_303 rfl ?_
                                              exact Go.retN (t := .boolean) (z' := 0) d3_304 rfl (by decide) (by decide) (by decide) (by decide) ⟨0, ws33, rfl, K4, A36, l35, Or.inl ⟨rfl, hz0⟩⟩
                                      · refine Go.aloadN 306 rfl d3_305 rfl rfl ?_
                                        refine Go.iloadN 307 rfl d3_306 rfl ?_
                                        refine Go.iconst 308 rfl (1 : Int32) d3_307 rfl ?_
                                        refine Go.aloadN 309 rfl d3_308 rfl rfl ?_
                                        refine Go.getF 312 rfl (v := .int e0) 64 d3_309 rfl F56 ?_
                                        refine Go.aloadN 313 rfl d3_312 rfl rfl ?_
                                        refine Go.getF 316 rfl (v := .ref la) 13 d3_313 rfl F53 ?_
                                        refine Go.iconst 317 rfl (0 : Int32) d3_316 rfl ?_
                                        refine Go.iaload 318 rfl (ys.getD 0 0) d3_317 A58 0 rfl (IL.get l61 (by decide)) ?_
                                        refine Go.nameI fun v125 hv125 => ?_
                                        refine Go.iload 320 rfl d3_318 rfl ?_
                                        refine Go.iload 322 rfl d3_320 rfl ?_
                                        refine Go.iload 324 rfl d3_322 rfl ?_
                                        refine Go.callS 327 rfl (C := B21) [.int (1 : Int32), .int e0, .int v125, .int y95, .int y99, .int w1] (rest := [.int ix, .ref t]) 106 107 3 108 (c21 Z hw h29 (1 : Int32) e0 v125 y95 y99 w1 (by decide) (by decide)) d3_324 rfl rfl rfl rfl (by decide) pd21 rfl rfl rfl (W := 2) (Nat.le_of_ble_eq_true rfl) (by decide) (by decide) (by decide) (by decide) fun v126 h127 q128 => ?_
                                        obtain ⟨y129, rfl, rfl, p130⟩ := q128
                                        refine Go.stJ 328 rfl d3_327 A36 N hN (by simp only [List.length_map]; rw [l35]; omega) hgt fun h131 K132 A133 => ?_
                                        have A134 : Ary Z h131 t .long ((JL ws33).set N (.long y129)) := A133
                                        obtain ⟨ws135, e136⟩ : ∃ q, q = ws33.set N y129 := ⟨_, rfl⟩
                                        have l137 : ws135.length = 8 := by rw [e136]; exact own_set5 l35
                                        have A138 : Ary Z h131 t .long (JL ws135) := by rw [e136]; show Ary Z _ _ _ (List.map _ _); rw [List.map_set]; exact A134
                                        have g1 : ¬ ws135.getD N 0 &&& 7 = 0 := by rw [e136, own_setD l35 (by omega)]; exact p130
                                        have F139 : Exa Z h131 a "com/example/albatross/albatross/storage/ProducerState" := (E51.keep K132)
                                        have F140 : Fld Z h131 a "com/example/albatross/albatross/storage/ProducerState" "firstSequences" "[I" (.ref fa) := (F52.keep K132 (ninS nta nin0))
                                        have F141 : Fld Z h131 a "com/example/albatross/albatross/storage/ProducerState" "lastSequences" "[I" (.ref la) := (F53.keep K132 (ninS nta nin0))
                                        have F142 : Fld Z h131 a "com/example/albatross/albatross/storage/ProducerState" "baseOffsets" "[J" (.ref ba) := (F54.keep K132 (ninS nta nin0))
                                        have F143 : Fld Z h131 a "com/example/albatross/albatross/storage/ProducerState" "remembered" "I" (.int (1 : Int32)) := (F55.keep K132 (ninS nta nin0))
                                        have F144 : Fld Z h131 a "com/example/albatross/albatross/storage/ProducerState" "epoch" "S" (.int e0) := (F56.keep K132 (ninS nta nin0))
                                        have F145 : Ary Z h131 fa .int (IL xs) := (A57.keep K132 (ninS ntf nin0))
                                        have F146 : Ary Z h131 la .int (IL ys) := (A58.keep K132 (ninS ntl nin0))
                                        have F147 : Ary Z h131 ba .long (JL zs) := (A59.keep K132 (ninS ntb nin0))
                                        have S6 : ST Z h131 a fa la ba (1 : Int32) e0 xs ys zs := ⟨F139, F140, F141, F142, F143, F144, F145, F146, F147, l60, l61, l62⟩
                                        refine Go.aloadN 329 rfl d3_328 rfl rfl ?_
                                        refine Go.iloadN 330 rfl d3_329 rfl ?_
                                        refine Go.iconst 331 rfl (1 : Int32) d3_330 rfl ?_
                                        refine Go.iadd 332 rfl d3_331 ?_
                                        refine Go.aloadN 333 rfl d3_332 rfl rfl ?_
                                        refine Go.iconst 334 rfl (0 : Int32) d3_333 rfl ?_
                                        refine Go.callP2 337 rfl (C := B14) a [.int (0 : Int32)] (rest := [.int (ix + (1 : Int32)), .ref t]) 81 82 2 83 3 84 (c14 Z hw h131 a (0 : Int32) fa la ba (1 : Int32) e0 xs ys zs 0 rfl (by decide) P0 S6) F139 d3_334 rfl rfl rfl rfl rfl rfl (by decide) pd14 rfl rfl rfl (W := 2) (Nat.le_of_ble_eq_true rfl) (by decide) (by decide) (by decide) (by decide) fun v148 h149 q150 => ?_
                                        obtain ⟨y151, rfl, rfl⟩ := q150
                                        refine Go.i2l 338 rfl d3_337 ?_
                                        refine Go.aloadN 339 rfl d3_338 rfl rfl ?_
                                        refine Go.getF 342 rfl (v := .ref ba) 15 d3_339 rfl F142 ?_
                                        refine Go.iconst 343 rfl (0 : Int32) d3_342 rfl ?_
                                        refine Go.laload 344 rfl (zs.getD 0 0) d3_343 F147 0 rfl (JL.get l62 (by decide)) ?_
                                        refine Go.nameJ fun v152 hv152 => ?_
                                        refine Go.iload 346 rfl d3_344 rfl ?_
                                        refine Go.lshl 347 rfl d3_346 ?_
                                        refine Go.lor 348 rfl d3_347 ?_
                                        refine Go.nameJ fun v153 hv153 => ?_
                                        refine Go.stJ 349 rfl d3_348 A138 (N + 1) (own_sm hN (k := 1) rfl (by omega) (by decide)) (by simp only [List.length_map]; rw [l137]; omega) hgt fun h154 K155 A156 => ?_
                                        have A157 : Ary Z h154 t .long ((JL ws135).set (N + 1) (.long v153)) := A156
                                        obtain ⟨ws158, e159⟩ : ∃ q, q = ws135.set (N + 1) v153 := ⟨_, rfl⟩
                                        have l160 : ws158.length = 8 := by rw [e159]; exact own_set5 l137
                                        have A161 : Ary Z h154 t .long (JL ws158) := by rw [e159]; show Ary Z _ _ _ (List.map _ _); rw [List.map_set]; exact A157
                                        have F162 : Exa Z h154 a "com/example/albatross/albatross/storage/ProducerState" := (F139.keep K155)
                                        have F163 : Fld Z h154 a "com/example/albatross/albatross/storage/ProducerState" "firstSequences" "[I" (.ref fa) := (F140.keep K155 (ninS nta nin0))
                                        have F164 : Fld Z h154 a "com/example/albatross/albatross/storage/ProducerState" "lastSequences" "[I" (.ref la) := (F141.keep K155 (ninS nta nin0))
                                        have F165 : Fld Z h154 a "com/example/albatross/albatross/storage/ProducerState" "baseOffsets" "[J" (.ref ba) := (F142.keep K155 (ninS nta nin0))
                                        have F166 : Fld Z h154 a "com/example/albatross/albatross/storage/ProducerState" "remembered" "I" (.int (1 : Int32)) := (F143.keep K155 (ninS nta nin0))
                                        have F167 : Fld Z h154 a "com/example/albatross/albatross/storage/ProducerState" "epoch" "S" (.int e0) := (F144.keep K155 (ninS nta nin0))
                                        have F168 : Ary Z h154 fa .int (IL xs) := (F145.keep K155 (ninS ntf nin0))
                                        have F169 : Ary Z h154 la .int (IL ys) := (F146.keep K155 (ninS ntl nin0))
                                        have F170 : Ary Z h154 ba .long (JL zs) := (F147.keep K155 (ninS ntb nin0))
                                        have S7 : ST Z h154 a fa la ba (1 : Int32) e0 xs ys zs := ⟨F162, F163, F164, F165, F166, F167, F168, F169, F170, l60, l61, l62⟩
                                        refine Go.aloadN 350 rfl d3_349 rfl rfl ?_
                                        refine Go.iloadN 351 rfl d3_350 rfl ?_
                                        refine Go.iconst 352 rfl (2 : Int32) d3_351 rfl ?_
                                        refine Go.iadd 353 rfl d3_352 ?_
                                        refine Go.aloadN 354 rfl d3_353 rfl rfl ?_
                                        refine Go.getF 357 rfl (v := .ref ba) 15 d3_354 rfl F165 ?_
                                        refine Go.iconst 358 rfl (0 : Int32) d3_357 rfl ?_
                                        refine Go.laload 359 rfl (zs.getD 0 0) d3_358 F170 0 rfl (JL.get l62 (by decide)) ?_
                                        refine Go.nameJ fun v171 hv171 => ?_
                                        refine Go.iconst 360 rfl (1 : Int32) d3_359 rfl ?_
                                        refine Go.lushr 361 rfl d3_360 ?_
                                        refine Go.bipush 363 rfl (63 : Int32) d3_361 rfl ?_
                                        refine Go.iload 365 rfl d3_363 rfl ?_
                                        refine Go.isub 366 rfl d3_365 ?_
                                        refine Go.lushr 367 rfl d3_366 ?_
                                        refine Go.nameJ fun v172 hv172 => ?_
                                        refine Go.stJ 368 rfl d3_367 A161 (N + 2) (own_sm hN (k := 2) rfl (by omega) (by decide)) (by simp only [List.length_map]; rw [l160]; omega) hgt fun h173 K174 A175 => ?_
                                        have A176 : Ary Z h173 t .long ((JL ws158).set (N + 2) (.long v172)) := A175
                                        obtain ⟨ws177, e178⟩ : ∃ q, q = ws158.set (N + 2) v172 := ⟨_, rfl⟩
                                        have l179 : ws177.length = 8 := by rw [e178]; exact own_set5 l160
                                        have A180 : Ary Z h173 t .long (JL ws177) := by rw [e178]; show Ary Z _ _ _ (List.map _ _); rw [List.map_set]; exact A176
                                        have F181 : Exa Z h173 a "com/example/albatross/albatross/storage/ProducerState" := (F162.keep K174)
                                        have F182 : Fld Z h173 a "com/example/albatross/albatross/storage/ProducerState" "firstSequences" "[I" (.ref fa) := (F163.keep K174 (ninS nta nin0))
                                        have F183 : Fld Z h173 a "com/example/albatross/albatross/storage/ProducerState" "lastSequences" "[I" (.ref la) := (F164.keep K174 (ninS nta nin0))
                                        have F184 : Fld Z h173 a "com/example/albatross/albatross/storage/ProducerState" "baseOffsets" "[J" (.ref ba) := (F165.keep K174 (ninS nta nin0))
                                        have F185 : Fld Z h173 a "com/example/albatross/albatross/storage/ProducerState" "remembered" "I" (.int (1 : Int32)) := (F166.keep K174 (ninS nta nin0))
                                        have F186 : Fld Z h173 a "com/example/albatross/albatross/storage/ProducerState" "epoch" "S" (.int e0) := (F167.keep K174 (ninS nta nin0))
                                        have F187 : Ary Z h173 fa .int (IL xs) := (F168.keep K174 (ninS ntf nin0))
                                        have F188 : Ary Z h173 la .int (IL ys) := (F169.keep K174 (ninS ntl nin0))
                                        have F189 : Ary Z h173 ba .long (JL zs) := (F170.keep K174 (ninS ntb nin0))
                                        have S8 : ST Z h173 a fa la ba (1 : Int32) e0 xs ys zs := ⟨F181, F182, F183, F184, F185, F186, F187, F188, F189, l60, l61, l62⟩
                                        have g2 : ¬ ws177.getD N 0 &&& 7 = 0 := by rw [e178, own_setN (by omega), e159, own_setN (by omega)]; exact g1
                                        refine Go.iconst 369 rfl (1 : Int32) d3_368 rfl ?_
                                        refine Go.istore 371 rfl d3_369 (Ls' := #[.val (.ref a), .val (.ref t), .val (.int ix), .val (.long v79), .second, .val (.long v80), .second, .val (.int v90), .val (.int y95), .val (.int y99), .val (.int y104), .val (.int w1), .val (.int (1 : Int32))]) rfl ?_
                                        refine Go.iload 373 rfl d3_371 rfl ?_
                                        refine Go.aloadN 374 rfl d3_373 rfl rfl ?_
                                        refine Go.getF 377 rfl (v := .int (1 : Int32)) 23 d3_374 rfl F185 ?_
                                        refine Go.icmp_ge 405 380 d3_377 (by decide) rfl rfl (fun (b190 : ¬ (1 : Int32) < (1 : Int32)) => ?_) (fun (b190 : (1 : Int32) < (1 : Int32)) => ?_)
                                        · refine Go.iconst 406 rfl (1 : Int32) d3_405 rfl ?_
                                          exact Go.retN (t := .boolean) (z' := 1) d3_406 rfl (by decide) (by decide) (by decide) (by decide) ⟨1, ws177, rfl, ((((((((Keep.refl h0 [t]).trans K3 (by simp)).trans K12 (by simp)).trans K21 (by simp)).trans K30 (by simp)).trans K132 (by simp)).trans K155 (by simp)).trans K174 (by simp)), A180, l179, Or.inr ⟨rfl, g2⟩⟩
                                        · exact absurd b190 (show ¬ (1 : Int32) < (1 : Int32) from by decide)
                                  · exact absurd b91 (show ¬ ((0 : Int32) + (1 : Int32)) < (1 : Int32) from by decide)
                              · exact absurd b74 (show ¬ (1 : Int32) = 0 from by decide)
                  · refine Go.iconst 47 rfl (0 : Int32) d3_46 rfl ?_
                    exact Go.retN (t := .boolean) (z' := 0) d3_47 rfl (by decide) (by decide) (by decide) (by decide) ⟨0, ws33, rfl, K4, A36, l35, Or.inl ⟨rfl, hz0⟩⟩
            · obtain ⟨E191, F192, F193, F194, F195, F196, A197, A198, A199, l200, l201, l202⟩ := id S
              obtain ⟨pg1, pg2, pg3, pg4, pn1, pn2, pn3, pn4, pn5, pn6⟩ := id P0
              refine Go.aloadN 20 rfl d3_19 rfl rfl ?_
              refine Go.getF 23 rfl (v := .int (2 : Int32)) 23 d3_20 rfl F195 ?_
              refine Go.if_eq 46 26 d3_23 (by decide) rfl rfl (fun (b203 : (2 : Int32) = 0) => ?_) (fun (b203 : ¬ (2 : Int32) = 0) => ?_)
              · exact absurd b203 (show ¬ (2 : Int32) = 0 from by decide)
              · refine Go.aloadN 27 rfl d3_26 rfl rfl ?_
                refine Go.getF 30 rfl (v := .ref fa) 11 d3_27 rfl F192 ?_
                refine Go.iconst 31 rfl (0 : Int32) d3_30 rfl ?_
                refine Go.iaload 32 rfl (xs.getD 0 0) d3_31 A197 0 rfl (IL.get l200 (by decide)) ?_
                refine Go.nameI fun v204 hv204 => ?_
                refine Go.if_lt 46 35 d3_32 (by decide) rfl rfl (fun (b205 : v204 < 0) => ?_) (fun (b205 : ¬ v204 < 0) => ?_)
                · refine Go.iconst 47 rfl (0 : Int32) d3_46 rfl ?_
                  exact Go.retN (t := .boolean) (z' := 0) d3_47 rfl (by decide) (by decide) (by decide) (by decide) ⟨0, ws33, rfl, K4, A36, l35, Or.inl ⟨rfl, hz0⟩⟩
                · refine Go.aloadN 36 rfl d3_35 rfl rfl ?_
                  refine Go.getF 39 rfl (v := .ref ba) 15 d3_36 rfl F194 ?_
                  refine Go.iconst 40 rfl (0 : Int32) d3_39 rfl ?_
                  refine Go.laload 41 rfl (zs.getD 0 0) d3_40 A199 0 rfl (JL.get l202 (by decide)) ?_
                  refine Go.nameJ fun v206 hv206 => ?_
                  refine Go.lconst 42 rfl (0 : Int64) d3_41 rfl ?_
                  refine Go.lcmp 43 rfl d3_42 ?_
                  refine Go.if_ge 48 46 d3_43 (by decide) rfl rfl (fun (b207 : ¬ (XT.cmpL v206 (0 : Int64)) < 0) => ?_) (fun (b207 : (XT.cmpL v206 (0 : Int64)) < 0) => ?_)
                  · refine Go.lconst 49 rfl (0 : Int64) d3_48 rfl ?_
                    refine Go.lstoreN 50 rfl d3_49 (Ls' := #[.val (.ref a), .val (.ref t), .val (.int ix), .val (.long (0 : Int64)), .second, .unset, .unset, .unset, .unset, .unset, .unset, .unset, .unset]) rfl ?_
                    refine Go.lconst 51 rfl (0 : Int64) d3_50 rfl ?_
                    refine Go.lstore 53 rfl d3_51 (Ls' := #[.val (.ref a), .val (.ref t), .val (.int ix), .val (.long (0 : Int64)), .second, .val (.long (0 : Int64)), .second, .unset, .unset, .unset, .unset, .unset, .unset]) rfl ?_
                    refine Go.iconst 54 rfl (1 : Int32) d3_53 rfl ?_
                    refine Go.istore 56 rfl d3_54 (Ls' := #[.val (.ref a), .val (.ref t), .val (.int ix), .val (.long (0 : Int64)), .second, .val (.long (0 : Int64)), .second, .val (.int (1 : Int32)), .unset, .unset, .unset, .unset, .unset]) rfl ?_
                    refine Go.iconst 57 rfl (0 : Int32) d3_56 rfl ?_
                    refine Go.istore 59 rfl d3_57 (Ls' := #[.val (.ref a), .val (.ref t), .val (.int ix), .val (.long (0 : Int64)), .second, .val (.long (0 : Int64)), .second, .val (.int (1 : Int32)), .val (.int (0 : Int32)), .unset, .unset, .unset, .unset]) rfl ?_
                    refine Go.iload 61 rfl d3_59 rfl ?_
                    refine Go.aloadN 62 rfl d3_61 rfl rfl ?_
                    refine Go.getF 65 rfl (v := .int (2 : Int32)) 23 d3_62 rfl F195 ?_
                    refine Go.icmp_ge 217 68 d3_65 (by decide) rfl rfl (fun (b208 : ¬ (0 : Int32) < (2 : Int32)) => ?_) (fun (b208 : (0 : Int32) < (2 : Int32)) => ?_)
                    · exact absurd (show (0 : Int32) < (2 : Int32) from by decide) b208
                    · refine Go.iload 70 rfl d3_68 rfl ?_
                      refine Go.aloadN 71 rfl d3_70 rfl rfl ?_
                      refine Go.getF 74 rfl (v := .int (2 : Int32)) 23 d3_71 rfl F195 ?_
                      refine Go.iconst 75 rfl (1 : Int32) d3_74 rfl ?_
                      refine Go.isub 76 rfl d3_75 ?_
                      refine Go.icmp_ne 83 79 d3_76 (by decide) rfl rfl (fun (b209 : ¬ (0 : Int32) = ((2 : Int32) - (1 : Int32))) => ?_) (fun (b209 : (0 : Int32) = ((2 : Int32) - (1 : Int32))) => ?_)
                      · refine Go.iconst 84 rfl (0 : Int32) d3_83 rfl ?_
                        refine Go.istore 86 rfl d3_84 (Ls' := #[.val (.ref a), .val (.ref t), .val (.int ix), .val (.long (0 : Int64)), .second, .val (.long (0 : Int64)), .second, .val (.int (1 : Int32)), .val (.int (0 : Int32)), .val (.int (0 : Int32)), .unset, .unset, .unset]) rfl ?_
                        refine Go.iload 88 rfl d3_86 rfl ?_
                        refine Go.if_eq 95 91 d3_88 (by decide) rfl rfl (fun (b210 : (0 : Int32) = 0) => ?_) (fun (b210 : ¬ (0 : Int32) = 0) => ?_)
                        · refine Go.aloadN 96 rfl d3_95 rfl rfl ?_
                          refine Go.iload 98 rfl d3_96 rfl ?_
                          refine Go.callP2 101 rfl (C := B13) a [.int (0 : Int32)] (rest := []) 77 78 2 79 3 80 (c13 Z hw h29 a (0 : Int32) fa la ba (2 : Int32) e0 xs ys zs 0 rfl (by decide) P0 S) E191 d3_98 rfl rfl rfl rfl rfl rfl (by decide) pd13 rfl rfl rfl (W := 0) (Nat.le_of_ble_eq_true rfl) (by decide) (by decide) (by decide) (by decide) fun v211 h212 q213 => ?_
                          obtain ⟨y214, rfl, rfl⟩ := q213
                          refine Go.lstore 103 rfl d3_101 (Ls' := #[.val (.ref a), .val (.ref t), .val (.int ix), .val (.long (0 : Int64)), .second, .val (.long (0 : Int64)), .second, .val (.int (1 : Int32)), .val (.int (0 : Int32)), .val (.int (0 : Int32)), .val (.long y214), .second, .unset]) rfl ?_
                          refine Go.aloadN 104 rfl d3_103 rfl rfl ?_
                          refine Go.getF 107 rfl (v := .ref la) 13 d3_104 rfl F193 ?_
                          refine Go.iload 109 rfl d3_107 rfl ?_
                          refine Go.iaload 110 rfl (ys.getD 0 0) d3_109 A198 0 rfl (IL.get l201 (by decide)) ?_
                          refine Go.nameI fun v215 hv215 => ?_
                          refine Go.if_lt 168 113 d3_110 (by decide) rfl rfl (fun (b216 : v215 < 0) => ?_) (fun (b216 : ¬ v215 < 0) => ?_)
                          · refine Go.iconst 169 rfl (0 : Int32) d3_168 rfl ?_
                            exact Go.retN (t := .boolean) (z' := 0) d3_169 rfl (by decide) (by decide) (by decide) (by decide) ⟨0, ws33, rfl, K4, A36, l35, Or.inl ⟨rfl, hz0⟩⟩
                          · refine Go.lload 115 rfl d3_113 rfl ?_
                            refine Go.lconst 116 rfl (0 : Int64) d3_115 rfl ?_
                            refine Go.lcmp 117 rfl d3_116 ?_
                            refine Go.if_lt 168 120 d3_117 (by decide) rfl rfl (fun (b217 : (XT.cmpL y214 (0 : Int64)) < 0) => ?_) (fun (b217 : ¬ (XT.cmpL y214 (0 : Int64)) < 0) => ?_)
                            · refine Go.iconst 169 rfl (0 : Int32) d3_168 rfl ?_
                              exact Go.retN (t := .boolean) (z' := 0) d3_169 rfl (by decide) (by decide) (by decide) (by decide) ⟨0, ws33, rfl, K4, A36, l35, Or.inl ⟨rfl, hz0⟩⟩
                            · refine Go.iload 122 rfl d3_120 rfl ?_
                              refine Go.if_ne 170 125 d3_122 (by decide) rfl rfl (fun (b218 : ¬ (0 : Int32) = 0) => ?_) (fun (b218 : (0 : Int32) = 0) => ?_)
                              · exact absurd (show (0 : Int32) = 0 from by decide) b218
                              · refine Go.aloadN 126 rfl d3_125 rfl rfl ?_
                                refine Go.getF 129 rfl (v := .ref ba) 15 d3_126 rfl F194 ?_
                                refine Go.iload 131 rfl d3_129 rfl ?_
                                refine Go.iconst 132 rfl (1 : Int32) d3_131 rfl ?_
                                refine Go.iadd 133 rfl d3_132 ?_
                                refine Go.laload 134 rfl (zs.getD 1 0) d3_133 A199 1 rfl (JL.get l202 (by decide)) ?_
                                refine Go.nameJ fun v219 hv219 => ?_
                                refine Go.aloadN 135 rfl d3_134 rfl rfl ?_
                                refine Go.getF 138 rfl (v := .ref ba) 15 d3_135 rfl F194 ?_
                                refine Go.iload 140 rfl d3_138 rfl ?_
                                refine Go.laload 141 rfl (zs.getD 0 0) d3_140 A199 0 rfl (JL.get l202 (by decide)) ?_
                                refine Go.nameJ fun v220 hv220 => ?_
                                refine Go.lcmp 142 rfl d3_141 ?_
                                refine Go.if_lt 168 145 d3_142 (by decide) rfl rfl (fun (b221 : (XT.cmpL v219 v220) < 0) => ?_) (fun (b221 : ¬ (XT.cmpL v219 v220) < 0) => ?_)
                                · refine Go.iconst 169 rfl (0 : Int32) d3_168 rfl ?_
                                  exact Go.retN (t := .boolean) (z' := 0) d3_169 rfl (by decide) (by decide) (by decide) (by decide) ⟨0, ws33, rfl, K4, A36, l35, Or.inl ⟨rfl, hz0⟩⟩
                                · refine Go.aloadN 146 rfl d3_145 rfl rfl ?_
                                  refine Go.getF 149 rfl (v := .ref fa) 11 d3_146 rfl F192 ?_
                                  refine Go.iload 151 rfl d3_149 rfl ?_
                                  refine Go.iconst 152 rfl (1 : Int32) d3_151 rfl ?_
                                  refine Go.iadd 153 rfl d3_152 ?_
                                  refine Go.iaload 154 rfl (xs.getD 1 0) d3_153 A197 1 rfl (IL.get l200 (by decide)) ?_
                                  refine Go.nameI fun v222 hv222 => ?_
                                  refine Go.aloadN 155 rfl d3_154 rfl rfl ?_
                                  refine Go.getF 158 rfl (v := .ref la) 13 d3_155 rfl F193 ?_
                                  refine Go.iload 160 rfl d3_158 rfl ?_
                                  refine Go.iaload 161 rfl (ys.getD 0 0) d3_160 A198 0 rfl (IL.get l201 (by decide)) ?_
                                  refine Go.nameI fun v223 hv223 => ?_
                                  refine Go.iconst 162 rfl (1 : Int32) d3_161 rfl ?_
                                  refine Go.callS 165 rfl (C := B8) [.int v223, .int (1 : Int32)] (rest := [.int v222]) 42 43 3 44 (c8 Z hw h29 v223 (1 : Int32) ) d3_162 rfl rfl rfl rfl (by decide) pd8 rfl rfl rfl (W := 1) (Nat.le_of_ble_eq_true rfl) (by decide) (by decide) (by decide) (by decide) fun v224 h225 q226 => ?_
                                  obtain ⟨y227, rfl, rfl⟩ := q226
                                  refine Go.icmp_eq 170 168 d3_165 (by decide) rfl rfl (fun (b228 : v222 = y227) => ?_) (fun (b228 : ¬ v222 = y227) => ?_)
                                  · refine Go.lloadN 171 rfl d3_170 rfl ?_
                                    refine Go.aloadN 172 rfl d3_171 rfl rfl ?_
                                    refine Go.iload 174 rfl d3_172 rfl ?_
                                    refine Go.callP2 177 rfl (C := B14) a [.int (0 : Int32)] (rest := [.long (0 : Int64)]) 81 82 2 83 3 84 (c14 Z hw h29 a (0 : Int32) fa la ba (2 : Int32) e0 xs ys zs 0 rfl (by decide) P0 S) E191 d3_174 rfl rfl rfl rfl rfl rfl (by decide) pd14 rfl rfl rfl (W := 2) (Nat.le_of_ble_eq_true rfl) (by decide) (by decide) (by decide) (by decide) fun v229 h230 q231 => ?_
                                    obtain ⟨y232, rfl, rfl⟩ := q231
                                    refine Go.i2l 178 rfl d3_177 ?_
                                    refine Go.lor 179 rfl d3_178 ?_
                                    refine Go.nameJ fun v233 hv233 => ?_
                                    refine Go.lstoreN 180 rfl d3_179 (Ls' := #[.val (.ref a), .val (.ref t), .val (.int ix), .val (.long v233), .second, .val (.long (0 : Int64)), .second, .val (.int (1 : Int32)), .val (.int (0 : Int32)), .val (.int (0 : Int32)), .val (.long y214), .second, .unset]) rfl ?_
                                    refine Go.lload 182 rfl d3_180 rfl ?_
                                    refine Go.lload 184 rfl d3_182 rfl ?_
                                    refine Go.lor 185 rfl d3_184 ?_
                                    refine Go.nameJ fun v234 hv234 => ?_
                                    refine Go.lstore 187 rfl d3_185 (Ls' := #[.val (.ref a), .val (.ref t), .val (.int ix), .val (.long v233), .second, .val (.long v234), .second, .val (.int (1 : Int32)), .val (.int (0 : Int32)), .val (.int (0 : Int32)), .val (.long y214), .second, .unset]) rfl ?_
                                    refine Go.iload 189 rfl d3_187 rfl ?_
                                    refine Go.aloadN 190 rfl d3_189 rfl rfl ?_
                                    refine Go.iload 192 rfl d3_190 rfl ?_
                                    refine Go.callP2 195 rfl (C := B14) a [.int (0 : Int32)] (rest := [.int (1 : Int32)]) 81 82 2 83 3 84 (c14 Z hw h29 a (0 : Int32) fa la ba (2 : Int32) e0 xs ys zs 0 rfl (by decide) P0 S) E191 d3_192 rfl rfl rfl rfl rfl rfl (by decide) pd14 rfl rfl rfl (W := 1) (Nat.le_of_ble_eq_true rfl) (by decide) (by decide) (by decide) (by decide) fun v235 h236 q237 => ?_
                                    obtain ⟨y238, rfl, rfl⟩ := q237
                                    refine Go.aloadN 196 rfl d3_195 rfl rfl ?_
                                    refine Go.iconst 197 rfl (0 : Int32) d3_196 rfl ?_
                                    refine Go.callP2 200 rfl (C := B14) a [.int (0 : Int32)] (rest := [.int y238, .int (1 : Int32)]) 81 82 2 83 3 84 (c14 Z hw h29 a (0 : Int32) fa la ba (2 : Int32) e0 xs ys zs 0 rfl (by decide) P0 S) E191 d3_197 rfl rfl rfl rfl rfl rfl (by decide) pd14 rfl rfl rfl (W := 2) (Nat.le_of_ble_eq_true rfl) (by decide) (by decide) (by decide) (by decide) fun v239 h240 q241 => ?_
                                    obtain ⟨y242, rfl, rfl⟩ := q241
                                    refine Go.joinI (pcJ := 208) (LsJ := #[.val (.ref a), .val (.ref t), .val (.int ix), .val (.long v233), .second, .val (.long v234), .second, .val (.int (1 : Int32)), .val (.int (0 : Int32)), .val (.int (0 : Int32)), .val (.long y214), .second, .unset]) (stJ := [.int (1 : Int32)]) (fun v => True) (fun J => ?_) (fun v2_0 _h2_0 => ?_)
                                    · refine Go.icmp_ne 207 203 d3_200 (by decide) rfl rfl (fun (b243 : ¬ y238 = y242) => ?_) (fun (b243 : y238 = y242) => ?_)
                                      · refine Go.iconst 208 rfl (0 : Int32) d3_207 rfl ?_
                                        exact J _ trivial
                                      · refine Go.iconst 204 rfl (1 : Int32) d3_203 rfl ?_
                                        refine Go.goto 208 d3_204 (by decide) (by decide) ?_
                                        exact J _ trivial
                                    · refine Go.iand 209 rfl d3_208 ?_
                                      refine Go.nameI fun v244 hv244 => ?_
                                      refine Go.istore 211 rfl d3_209 (Ls' := #[.val (.ref a), .val (.ref t), .val (.int ix), .val (.long v233), .second, .val (.long v234), .second, .val (.int v244), .val (.int (0 : Int32)), .val (.int (0 : Int32)), .val (.long y214), .second, .unset]) rfl ?_
                                      refine Go.iinc 214 rfl (1 : Int32) d3_211 rfl rfl (Ls' := #[.val (.ref a), .val (.ref t), .val (.int ix), .val (.long v233), .second, .val (.long v234), .second, .val (.int v244), .val (.int ((0 : Int32) + (1 : Int32))), .val (.int (0 : Int32)), .val (.long y214), .second, .unset]) rfl ?_
                                      refine Go.goto 59 d3_214 (by decide) (by decide) ?_
                                      refine Go.iload 61 rfl d3_59 rfl ?_
                                      refine Go.aloadN 62 rfl d3_61 rfl rfl ?_
                                      refine Go.getF 65 rfl (v := .int (2 : Int32)) 23 d3_62 rfl F195 ?_
                                      refine Go.icmp_ge 217 68 d3_65 (by decide) rfl rfl (fun (b245 : ¬ ((0 : Int32) + (1 : Int32)) < (2 : Int32)) => ?_) (fun (b245 : ((0 : Int32) + (1 : Int32)) < (2 : Int32)) => ?_)
                                      · exact absurd (show ((0 : Int32) + (1 : Int32)) < (2 : Int32) from by decide) b245
                                      · refine Go.iload 70 rfl d3_68 rfl ?_
                                        refine Go.aloadN 71 rfl d3_70 rfl rfl ?_
                                        refine Go.getF 74 rfl (v := .int (2 : Int32)) 23 d3_71 rfl F195 ?_
                                        refine Go.iconst 75 rfl (1 : Int32) d3_74 rfl ?_
                                        refine Go.isub 76 rfl d3_75 ?_
                                        refine Go.icmp_ne 83 79 d3_76 (by decide) rfl rfl (fun (b246 : ¬ ((0 : Int32) + (1 : Int32)) = ((2 : Int32) - (1 : Int32))) => ?_) (fun (b246 : ((0 : Int32) + (1 : Int32)) = ((2 : Int32) - (1 : Int32))) => ?_)
                                        · exact absurd (show ((0 : Int32) + (1 : Int32)) = ((2 : Int32) - (1 : Int32)) from by decide) b246
                                        · refine Go.iconst 80 rfl (1 : Int32) d3_79 rfl ?_
                                          refine Go.goto 84 d3_80 (by decide) (by decide) ?_
                                          refine Go.istore 86 rfl d3_84 (Ls' := #[.val (.ref a), .val (.ref t), .val (.int ix), .val (.long v233), .second, .val (.long v234), .second, .val (.int v244), .val (.int ((0 : Int32) + (1 : Int32))), .val (.int (1 : Int32)), .val (.long y214), .second, .unset]) rfl ?_
                                          refine Go.iload 88 rfl d3_86 rfl ?_
                                          refine Go.if_eq 95 91 d3_88 (by decide) rfl rfl (fun (b247 : (1 : Int32) = 0) => ?_) (fun (b247 : ¬ (1 : Int32) = 0) => ?_)
                                          · exact absurd b247 (show ¬ (1 : Int32) = 0 from by decide)
                                          · refine Go.lconst 92 rfl (0 : Int64) d3_91 rfl ?_
                                            refine Go.goto 101 d3_92 (by decide) (by decide) ?_
                                            refine Go.lstore 103 rfl d3_101 (Ls' := #[.val (.ref a), .val (.ref t), .val (.int ix), .val (.long v233), .second, .val (.long v234), .second, .val (.int v244), .val (.int ((0 : Int32) + (1 : Int32))), .val (.int (1 : Int32)), .val (.long (0 : Int64)), .second, .unset]) rfl ?_
                                            refine Go.aloadN 104 rfl d3_103 rfl rfl ?_
                                            refine Go.getF 107 rfl (v := .ref la) 13 d3_104 rfl F193 ?_
                                            refine Go.iload 109 rfl d3_107 rfl ?_
                                            refine Go.iaload 110 rfl (ys.getD 1 0) d3_109 A198 1 rfl (IL.get l201 (by decide)) ?_
                                            refine Go.nameI fun v248 hv248 => ?_
                                            refine Go.if_lt 168 113 d3_110 (by decide) rfl rfl (fun (b249 : v248 < 0) => ?_) (fun (b249 : ¬ v248 < 0) => ?_)
                                            · refine Go.iconst 169 rfl (0 : Int32) d3_168 rfl ?_
                                              exact Go.retN (t := .boolean) (z' := 0) d3_169 rfl (by decide) (by decide) (by decide) (by decide) ⟨0, ws33, rfl, K4, A36, l35, Or.inl ⟨rfl, hz0⟩⟩
                                            · refine Go.lload 115 rfl d3_113 rfl ?_
                                              refine Go.lconst 116 rfl (0 : Int64) d3_115 rfl ?_
                                              refine Go.lcmp 117 rfl d3_116 ?_
                                              refine Go.if_lt 168 120 d3_117 (by decide) rfl rfl (fun (b250 : (XT.cmpL (0 : Int64) (0 : Int64)) < 0) => ?_) (fun (b250 : ¬ (XT.cmpL (0 : Int64) (0 : Int64)) < 0) => ?_)
                                              · refine Go.iconst 169 rfl (0 : Int32) d3_168 rfl ?_
                                                exact Go.retN (t := .boolean) (z' := 0) d3_169 rfl (by decide) (by decide) (by decide) (by decide) ⟨0, ws33, rfl, K4, A36, l35, Or.inl ⟨rfl, hz0⟩⟩
                                              · refine Go.iload 122 rfl d3_120 rfl ?_
                                                refine Go.if_ne 170 125 d3_122 (by decide) rfl rfl (fun (b251 : ¬ (1 : Int32) = 0) => ?_) (fun (b251 : (1 : Int32) = 0) => ?_)
                                                · refine Go.lloadN 171 rfl d3_170 rfl ?_
                                                  refine Go.aloadN 172 rfl d3_171 rfl rfl ?_
                                                  refine Go.iload 174 rfl d3_172 rfl ?_
                                                  refine Go.callP2 177 rfl (C := B14) a [.int ((0 : Int32) + (1 : Int32))] (rest := [.long v233]) 81 82 2 83 3 84 (c14 Z hw h29 a ((0 : Int32) + (1 : Int32)) fa la ba (2 : Int32) e0 xs ys zs 1 rfl (by decide) P0 S) E191 d3_174 rfl rfl rfl rfl rfl rfl (by decide) pd14 rfl rfl rfl (W := 2) (Nat.le_of_ble_eq_true rfl) (by decide) (by decide) (by decide) (by decide) fun v252 h253 q254 => ?_
                                                  obtain ⟨y255, rfl, rfl⟩ := q254
                                                  refine Go.i2l 178 rfl d3_177 ?_
                                                  refine Go.lor 179 rfl d3_178 ?_
                                                  refine Go.nameJ fun v256 hv256 => ?_
                                                  refine Go.lstoreN 180 rfl d3_179 (Ls' := #[.val (.ref a), .val (.ref t), .val (.int ix), .val (.long v256), .second, .val (.long v234), .second, .val (.int v244), .val (.int ((0 : Int32) + (1 : Int32))), .val (.int (1 : Int32)), .val (.long (0 : Int64)), .second, .unset]) rfl ?_
                                                  refine Go.lload 182 rfl d3_180 rfl ?_
                                                  refine Go.lload 184 rfl d3_182 rfl ?_
                                                  refine Go.lor 185 rfl d3_184 ?_
                                                  refine Go.nameJ fun v257 hv257 => ?_
                                                  refine Go.lstore 187 rfl d3_185 (Ls' := #[.val (.ref a), .val (.ref t), .val (.int ix), .val (.long v256), .second, .val (.long v257), .second, .val (.int v244), .val (.int ((0 : Int32) + (1 : Int32))), .val (.int (1 : Int32)), .val (.long (0 : Int64)), .second, .unset]) rfl ?_
                                                  refine Go.iload 189 rfl d3_187 rfl ?_
                                                  refine Go.aloadN 190 rfl d3_189 rfl rfl ?_
                                                  refine Go.iload 192 rfl d3_190 rfl ?_
                                                  refine Go.callP2 195 rfl (C := B14) a [.int ((0 : Int32) + (1 : Int32))] (rest := [.int v244]) 81 82 2 83 3 84 (c14 Z hw h29 a ((0 : Int32) + (1 : Int32)) fa la ba (2 : Int32) e0 xs ys zs 1 rfl (by decide) P0 S) E191 d3_192 rfl rfl rfl rfl rfl rfl (by decide) pd14 rfl rfl rfl (W := 1) (Nat.le_of_ble_eq_true rfl) (by decide) (by decide) (by decide) (by decide) fun v258 h259 q260 => ?_
                                                  obtain ⟨y261, rfl, rfl⟩ := q260
                                                  refine Go.aloadN 196 rfl d3_195 rfl rfl ?_
                                                  refine Go.iconst 197 rfl (0 : Int32) d3_196 rfl ?_
                                                  refine Go.callP2 200 rfl (C := B14) a [.int (0 : Int32)] (rest := [.int y261, .int v244]) 81 82 2 83 3 84 (c14 Z hw h29 a (0 : Int32) fa la ba (2 : Int32) e0 xs ys zs 0 rfl (by decide) P0 S) E191 d3_197 rfl rfl rfl rfl rfl rfl (by decide) pd14 rfl rfl rfl (W := 2) (Nat.le_of_ble_eq_true rfl) (by decide) (by decide) (by decide) (by decide) fun v262 h263 q264 => ?_
                                                  obtain ⟨y265, rfl, rfl⟩ := q264
                                                  refine Go.joinI (pcJ := 208) (LsJ := #[.val (.ref a), .val (.ref t), .val (.int ix), .val (.long v256), .second, .val (.long v257), .second, .val (.int v244), .val (.int ((0 : Int32) + (1 : Int32))), .val (.int (1 : Int32)), .val (.long (0 : Int64)), .second, .unset]) (stJ := [.int v244]) (fun v => True) (fun J => ?_) (fun v2_1 _h2_1 => ?_)
                                                  · refine Go.icmp_ne 207 203 d3_200 (by decide) rfl rfl (fun (b266 : ¬ y261 = y265) => ?_) (fun (b266 : y261 = y265) => ?_)
                                                    · refine Go.iconst 208 rfl (0 : Int32) d3_207 rfl ?_
                                                      exact J _ trivial
                                                    · refine Go.iconst 204 rfl (1 : Int32) d3_203 rfl ?_
                                                      refine Go.goto 208 d3_204 (by decide) (by decide) ?_
                                                      exact J _ trivial
                                                  · refine Go.iand 209 rfl d3_208 ?_
                                                    refine Go.nameI fun v267 hv267 => ?_
                                                    refine Go.istore 211 rfl d3_209 (Ls' := #[.val (.ref a), .val (.ref t), .val (.int ix), .val (.long v256), .second, .val (.long v257), .second, .val (.int v267), .val (.int ((0 : Int32) + (1 : Int32))), .val (.int (1 : Int32)), .val (.long (0 : Int64)), .second, .unset]) rfl ?_
                                                    refine Go.iinc 214 rfl (1 : Int32) d3_211 rfl rfl (Ls' := #[.val (.ref a), .val (.ref t), .val (.int ix), .val (.long v256), .second, .val (.long v257), .second, .val (.int v267), .val (.int (((0 : Int32) + (1 : Int32)) + (1 : Int32))), .val (.int (1 : Int32)), .val (.long (0 : Int64)), .second, .unset]) rfl ?_
                                                    refine Go.goto 59 d3_214 (by decide) (by decide) ?_
                                                    refine Go.iload 61 rfl d3_59 rfl ?_
                                                    refine Go.aloadN 62 rfl d3_61 rfl rfl ?_
                                                    refine Go.getF 65 rfl (v := .int (2 : Int32)) 23 d3_62 rfl F195 ?_
                                                    refine Go.icmp_ge 217 68 d3_65 (by decide) rfl rfl (fun (b268 : ¬ (((0 : Int32) + (1 : Int32)) + (1 : Int32)) < (2 : Int32)) => ?_) (fun (b268 : (((0 : Int32) + (1 : Int32)) + (1 : Int32)) < (2 : Int32)) => ?_)
                                                    · refine Go.lloadN 218 rfl d3_217 rfl ?_
                                                      refine Go.callS 221 rfl (C := B15) [.long v256] (rest := []) 85 86 3 87 (c15 Z hw h29 v256 ) d3_218 rfl rfl rfl rfl (by decide) pd15 rfl rfl rfl (W := 0) (Nat.le_of_ble_eq_true rfl) (by decide) (by decide) (by decide) (by decide) fun v269 h270 q271 => ?_
                                                      obtain ⟨y272, rfl, rfl⟩ := q271
                                                      refine Go.istore 223 rfl d3_221 (Ls' := #[.val (.ref a), .val (.ref t), .val (.int ix), .val (.long v256), .second, .val (.long v257), .second, .val (.int v267), .val (.int y272), .val (.int (1 : Int32)), .val (.long (0 : Int64)), .second, .unset]) rfl ?_
                                                      refine Go.lload 225 rfl d3_223 rfl ?_
                                                      refine Go.callS 228 rfl (C := B15) [.long v257] (rest := []) 85 86 3 87 (c15 Z hw h29 v257 ) d3_225 rfl rfl rfl rfl (by decide) pd15 rfl rfl rfl (W := 0) (Nat.le_of_ble_eq_true rfl) (by decide) (by decide) (by decide) (by decide) fun v273 h274 q275 => ?_
                                                      obtain ⟨y276, rfl, rfl⟩ := q275
                                                      refine Go.istore 230 rfl d3_228 (Ls' := #[.val (.ref a), .val (.ref t), .val (.int ix), .val (.long v256), .second, .val (.long v257), .second, .val (.int v267), .val (.int y272), .val (.int y276), .val (.long (0 : Int64)), .second, .unset]) rfl ?_
                                                      refine Go.aloadN 231 rfl d3_230 rfl rfl ?_
                                                      refine Go.getF 234 rfl (v := .ref ba) 15 d3_231 rfl F194 ?_
                                                      refine Go.aloadN 235 rfl d3_234 rfl rfl ?_
                                                      refine Go.getF 238 rfl (v := .int (2 : Int32)) 23 d3_235 rfl F195 ?_
                                                      refine Go.iconst 239 rfl (1 : Int32) d3_238 rfl ?_
                                                      refine Go.isub 240 rfl d3_239 ?_
                                                      refine Go.laload 241 rfl (zs.getD 1 0) d3_240 A199 1 rfl (JL.get l202 (by decide)) ?_
                                                      refine Go.nameJ fun v277 hv277 => ?_
                                                      refine Go.callS 244 rfl (C := B15) [.long v277] (rest := []) 85 86 3 87 (c15 Z hw h29 v277 ) d3_241 rfl rfl rfl rfl (by decide) pd15 rfl rfl rfl (W := 0) (Nat.le_of_ble_eq_true rfl) (by decide) (by decide) (by decide) (by decide) fun v278 h279 q280 => ?_
                                                      obtain ⟨y281, rfl, rfl⟩ := q280
                                                      refine Go.istore 246 rfl d3_244 (Ls' := #[.val (.ref a), .val (.ref t), .val (.int ix), .val (.long v256), .second, .val (.long v257), .second, .val (.int v267), .val (.int y272), .val (.int y276), .val (.int y281), .unset, .unset]) rfl ?_
                                                      refine Go.aloadN 247 rfl d3_246 rfl rfl ?_
                                                      refine Go.getF 250 rfl (v := .int (2 : Int32)) 23 d3_247 rfl F195 ?_
                                                      refine Go.iload 252 rfl d3_250 rfl ?_
                                                      refine Go.iload 254 rfl d3_252 rfl ?_
                                                      refine Go.iconst 255 rfl (0 : Int32) d3_254 rfl ?_
                                                      refine Go.callS 258 rfl (C := B18) [.int (2 : Int32), .int y272, .int y276, .int (0 : Int32)] (rest := []) 97 98 3 99 (c18 Z hw h29 (2 : Int32) y272 y276 (0 : Int32) ) d3_255 rfl rfl rfl rfl (by decide) pd18 rfl rfl rfl (W := 0) (Nat.le_of_ble_eq_true rfl) (by decide) (by decide) (by decide) (by decide) fun v282 h283 q284 => ?_
                                                      obtain ⟨y285, rfl, rfl⟩ := q284
                                                      refine Go.iload 260 rfl d3_258 rfl ?_
                                                      refine Go.callS 263 rfl (C := B20) [.int y285, .int y281] (rest := []) 103 104 3 105 (c20 Z hw h29 y285 y281 ) d3_260 rfl rfl rfl rfl (by decide) pd20 rfl rfl rfl (W := 0) (Nat.le_of_ble_eq_true rfl) (by decide) (by decide) (by decide) (by decide) fun v286 h287 q288 => ?_
                                                      obtain ⟨y289, rfl, rfl⟩ := q288
                                                      refine Go.joinI (pcJ := 271) (LsJ := #[.val (.ref a), .val (.ref t), .val (.int ix), .val (.long v256), .second, .val (.long v257), .second, .val (.int v267), .val (.int y272), .val (.int y276), .val (.int y281), .unset, .unset]) (stJ := []) (fun v => True) (fun J => ?_) (fun w2 _w2 => ?_)
                                                      · refine Go.if_ne 270 266 d3_263 (by decide) rfl rfl (fun (b290 : ¬ y289 = 0) => ?_) (fun (b290 : y289 = 0) => ?_)
                                                        · refine Go.iconst 271 rfl (0 : Int32) d3_270 rfl ?_
                                                          exact J _ trivial
                                                        · refine Go.iconst 267 rfl (1 : Int32) d3_266 rfl ?_
                                                          refine Go.goto 271 d3_267 (by decide) (by decide) ?_
                                                          exact J _ trivial
                                                      · refine Go.istore 273 rfl d3_271 (Ls' := #[.val (.ref a), .val (.ref t), .val (.int ix), .val (.long v256), .second, .val (.long v257), .second, .val (.int v267), .val (.int y272), .val (.int y276), .val (.int y281), .val (.int w2), .unset]) rfl ?_
                                                        refine Go.iload 275 rfl d3_273 rfl ?_
                                                        refine cut (Go (Q3 Z t N h0) Z B3 0 0 h29 305 #[.val (.ref a), .val (.ref t), .val (.int ix), .val (.long v256), .second, .val (.long v257), .second, .val (.int v267), .val (.int y272), .val (.int y276), .val (.int y281), .val (.int w2), .unset] []) (fun J305 => ?_) (?_)
                                                        · refine Go.if_eq 305 278 d3_275 (by decide) rfl rfl (fun (b291 : w2 = 0) => ?_) (fun (b291 : ¬ w2 = 0) => ?_)
                                                          · exact J305 
                                                          · refine Go.iload 280 rfl d3_278 rfl ?_
                                                            refine Go.if_eq 303 283 d3_280 (by decide) rfl rfl (fun (b292 : v267 = 0) => ?_) (fun (b292 : ¬ v267 = 0) => ?_)
                                                            · refine Go.iconst 304 rfl (0 : Int32) d3_303 rfl ?_
                                                              exact Go.retN (t := .boolean) (z' := 0) d3_304 rfl (by decide) (by decide) (by decide) (by decide) ⟨0, ws33, rfl, K4, A36, l35, Or.inl ⟨rfl, hz0⟩⟩
                                                            · refine Go.aloadN 284 rfl d3_283 rfl rfl ?_
                                                              refine Go.getF 287 rfl (v := .int (2 : Int32)) 23 d3_284 rfl F195 ?_
                                                              refine Go.iload 289 rfl d3_287 rfl ?_
                                                              refine Go.iload 291 rfl d3_289 rfl ?_
                                                              refine Go.iconst 292 rfl (1 : Int32) d3_291 rfl ?_
                                                              refine Go.callS 295 rfl (C := B18) [.int (2 : Int32), .int y272, .int y276, .int (1 : Int32)] (rest := []) 97 98 3 99 (c18 Z hw h29 (2 : Int32) y272 y276 (1 : Int32) ) d3_292 rfl rfl rfl rfl (by decide) pd18 rfl rfl rfl (W := 0) (Nat.le_of_ble_eq_true rfl) (by decide) (by decide) (by decide) (by decide) fun v293 h294 q295 => ?_
                                                              obtain ⟨y296, rfl, rfl⟩ := q295
                                                              refine Go.iload 297 rfl d3_295 rfl ?_
                                                              refine Go.callS 300 rfl (C := B20) [.int y296, .int y281] (rest := []) 103 104 3 105 (c20 Z hw h29 y296 y281 ) d3_297 rfl rfl rfl rfl (by decide) pd20 rfl rfl rfl (W := 0) (Nat.le_of_ble_eq_true rfl) (by decide) (by decide) (by decide) (by decide) fun v297 h298 q299 => ?_
                                                              obtain ⟨y300, rfl, rfl⟩ := q299
                                                              refine Go.if_ne 305 303 d3_300 (by decide) rfl rfl (fun (b301 : ¬ y300 = 0) => ?_) (fun (b301 : y300 = 0) => ?_)
                                                              · exact J305 
                                                              · refine Go.iconst 304 rfl (0 : Int32) d3_303 rfl ?_
                                                                exact Go.retN (t := .boolean) (z' := 0) d3_304 rfl (by decide) (by decide) (by decide) (by decide) ⟨0, ws33, rfl, K4, A36, l35, Or.inl ⟨rfl, hz0⟩⟩
                                                        · refine Go.aloadN 306 rfl d3_305 rfl rfl ?_
                                                          refine Go.iloadN 307 rfl d3_306 rfl ?_
                                                          refine Go.iconst 308 rfl (1 : Int32) d3_307 rfl ?_
                                                          refine Go.aloadN 309 rfl d3_308 rfl rfl ?_
                                                          refine Go.getF 312 rfl (v := .int e0) 64 d3_309 rfl F196 ?_
                                                          refine Go.aloadN 313 rfl d3_312 rfl rfl ?_
                                                          refine Go.getF 316 rfl (v := .ref la) 13 d3_313 rfl F193 ?_
                                                          refine Go.iconst 317 rfl (0 : Int32) d3_316 rfl ?_
                                                          refine Go.iaload 318 rfl (ys.getD 0 0) d3_317 A198 0 rfl (IL.get l201 (by decide)) ?_
                                                          refine Go.nameI fun v302 hv302 => ?_
                                                          refine Go.iload 320 rfl d3_318 rfl ?_
                                                          refine Go.iload 322 rfl d3_320 rfl ?_
                                                          refine Go.iload 324 rfl d3_322 rfl ?_
                                                          refine Go.callS 327 rfl (C := B21) [.int (1 : Int32), .int e0, .int v302, .int y272, .int y276, .int w2] (rest := [.int ix, .ref t]) 106 107 3 108 (c21 Z hw h29 (1 : Int32) e0 v302 y272 y276 w2 (by decide) (by decide)) d3_324 rfl rfl rfl rfl (by decide) pd21 rfl rfl rfl (W := 2) (Nat.le_of_ble_eq_true rfl) (by decide) (by decide) (by decide) (by decide) fun v303 h304 q305 => ?_
                                                          obtain ⟨y306, rfl, rfl, p307⟩ := q305
                                                          refine Go.stJ 328 rfl d3_327 A36 N hN (by simp only [List.length_map]; rw [l35]; omega) hgt fun h308 K309 A310 => ?_
                                                          have A311 : Ary Z h308 t .long ((JL ws33).set N (.long y306)) := A310
                                                          obtain ⟨ws312, e313⟩ : ∃ q, q = ws33.set N y306 := ⟨_, rfl⟩
                                                          have l314 : ws312.length = 8 := by rw [e313]; exact own_set5 l35
                                                          have A315 : Ary Z h308 t .long (JL ws312) := by rw [e313]; show Ary Z _ _ _ (List.map _ _); rw [List.map_set]; exact A311
                                                          have g1 : ¬ ws312.getD N 0 &&& 7 = 0 := by rw [e313, own_setD l35 (by omega)]; exact p307
                                                          have F316 : Exa Z h308 a "com/example/albatross/albatross/storage/ProducerState" := (E191.keep K309)
                                                          have F317 : Fld Z h308 a "com/example/albatross/albatross/storage/ProducerState" "firstSequences" "[I" (.ref fa) := (F192.keep K309 (ninS nta nin0))
                                                          have F318 : Fld Z h308 a "com/example/albatross/albatross/storage/ProducerState" "lastSequences" "[I" (.ref la) := (F193.keep K309 (ninS nta nin0))
                                                          have F319 : Fld Z h308 a "com/example/albatross/albatross/storage/ProducerState" "baseOffsets" "[J" (.ref ba) := (F194.keep K309 (ninS nta nin0))
                                                          have F320 : Fld Z h308 a "com/example/albatross/albatross/storage/ProducerState" "remembered" "I" (.int (2 : Int32)) := (F195.keep K309 (ninS nta nin0))
                                                          have F321 : Fld Z h308 a "com/example/albatross/albatross/storage/ProducerState" "epoch" "S" (.int e0) := (F196.keep K309 (ninS nta nin0))
                                                          have F322 : Ary Z h308 fa .int (IL xs) := (A197.keep K309 (ninS ntf nin0))
                                                          have F323 : Ary Z h308 la .int (IL ys) := (A198.keep K309 (ninS ntl nin0))
                                                          have F324 : Ary Z h308 ba .long (JL zs) := (A199.keep K309 (ninS ntb nin0))
                                                          have S6 : ST Z h308 a fa la ba (2 : Int32) e0 xs ys zs := ⟨F316, F317, F318, F319, F320, F321, F322, F323, F324, l200, l201, l202⟩
                                                          refine Go.aloadN 329 rfl d3_328 rfl rfl ?_
                                                          refine Go.iloadN 330 rfl d3_329 rfl ?_
                                                          refine Go.iconst 331 rfl (1 : Int32) d3_330 rfl ?_
                                                          refine Go.iadd 332 rfl d3_331 ?_
                                                          refine Go.aloadN 333 rfl d3_332 rfl rfl ?_
                                                          refine Go.iconst 334 rfl (0 : Int32) d3_333 rfl ?_
                                                          refine Go.callP2 337 rfl (C := B14) a [.int (0 : Int32)] (rest := [.int (ix + (1 : Int32)), .ref t]) 81 82 2 83 3 84 (c14 Z hw h308 a (0 : Int32) fa la ba (2 : Int32) e0 xs ys zs 0 rfl (by decide) P0 S6) F316 d3_334 rfl rfl rfl rfl rfl rfl (by decide) pd14 rfl rfl rfl (W := 2) (Nat.le_of_ble_eq_true rfl) (by decide) (by decide) (by decide) (by decide) fun v325 h326 q327 => ?_
                                                          obtain ⟨y328, rfl, rfl⟩ := q327
                                                          refine Go.i2l 338 rfl d3_337 ?_
                                                          refine Go.aloadN 339 rfl d3_338 rfl rfl ?_
                                                          refine Go.getF 342 rfl (v := .ref ba) 15 d3_339 rfl F319 ?_
                                                          refine Go.iconst 343 rfl (0 : Int32) d3_342 rfl ?_
                                                          refine Go.laload 344 rfl (zs.getD 0 0) d3_343 F324 0 rfl (JL.get l202 (by decide)) ?_
                                                          refine Go.nameJ fun v329 hv329 => ?_
                                                          refine Go.iload 346 rfl d3_344 rfl ?_
                                                          refine Go.lshl 347 rfl d3_346 ?_
                                                          refine Go.lor 348 rfl d3_347 ?_
                                                          refine Go.nameJ fun v330 hv330 => ?_
                                                          refine Go.stJ 349 rfl d3_348 A315 (N + 1) (own_sm hN (k := 1) rfl (by omega) (by decide)) (by simp only [List.length_map]; rw [l314]; omega) hgt fun h331 K332 A333 => ?_
                                                          have A334 : Ary Z h331 t .long ((JL ws312).set (N + 1) (.long v330)) := A333
                                                          obtain ⟨ws335, e336⟩ : ∃ q, q = ws312.set (N + 1) v330 := ⟨_, rfl⟩
                                                          have l337 : ws335.length = 8 := by rw [e336]; exact own_set5 l314
                                                          have A338 : Ary Z h331 t .long (JL ws335) := by rw [e336]; show Ary Z _ _ _ (List.map _ _); rw [List.map_set]; exact A334
                                                          have F339 : Exa Z h331 a "com/example/albatross/albatross/storage/ProducerState" := (F316.keep K332)
                                                          have F340 : Fld Z h331 a "com/example/albatross/albatross/storage/ProducerState" "firstSequences" "[I" (.ref fa) := (F317.keep K332 (ninS nta nin0))
                                                          have F341 : Fld Z h331 a "com/example/albatross/albatross/storage/ProducerState" "lastSequences" "[I" (.ref la) := (F318.keep K332 (ninS nta nin0))
                                                          have F342 : Fld Z h331 a "com/example/albatross/albatross/storage/ProducerState" "baseOffsets" "[J" (.ref ba) := (F319.keep K332 (ninS nta nin0))
                                                          have F343 : Fld Z h331 a "com/example/albatross/albatross/storage/ProducerState" "remembered" "I" (.int (2 : Int32)) := (F320.keep K332 (ninS nta nin0))
                                                          have F344 : Fld Z h331 a "com/example/albatross/albatross/storage/ProducerState" "epoch" "S" (.int e0) := (F321.keep K332 (ninS nta nin0))
                                                          have F345 : Ary Z h331 fa .int (IL xs) := (F322.keep K332 (ninS ntf nin0))
                                                          have F346 : Ary Z h331 la .int (IL ys) := (F323.keep K332 (ninS ntl nin0))
                                                          have F347 : Ary Z h331 ba .long (JL zs) := (F324.keep K332 (ninS ntb nin0))
                                                          have S7 : ST Z h331 a fa la ba (2 : Int32) e0 xs ys zs := ⟨F339, F340, F341, F342, F343, F344, F345, F346, F347, l200, l201, l202⟩
                                                          refine Go.aloadN 350 rfl d3_349 rfl rfl ?_
                                                          refine Go.iloadN 351 rfl d3_350 rfl ?_
                                                          refine Go.iconst 352 rfl (2 : Int32) d3_351 rfl ?_
                                                          refine Go.iadd 353 rfl d3_352 ?_
                                                          refine Go.aloadN 354 rfl d3_353 rfl rfl ?_
                                                          refine Go.getF 357 rfl (v := .ref ba) 15 d3_354 rfl F342 ?_
                                                          refine Go.iconst 358 rfl (0 : Int32) d3_357 rfl ?_
                                                          refine Go.laload 359 rfl (zs.getD 0 0) d3_358 F347 0 rfl (JL.get l202 (by decide)) ?_
                                                          refine Go.nameJ fun v348 hv348 => ?_
                                                          refine Go.iconst 360 rfl (1 : Int32) d3_359 rfl ?_
                                                          refine Go.lushr 361 rfl d3_360 ?_
                                                          refine Go.bipush 363 rfl (63 : Int32) d3_361 rfl ?_
                                                          refine Go.iload 365 rfl d3_363 rfl ?_
                                                          refine Go.isub 366 rfl d3_365 ?_
                                                          refine Go.lushr 367 rfl d3_366 ?_
                                                          refine Go.nameJ fun v349 hv349 => ?_
                                                          refine Go.stJ 368 rfl d3_367 A338 (N + 2) (own_sm hN (k := 2) rfl (by omega) (by decide)) (by simp only [List.length_map]; rw [l337]; omega) hgt fun h350 K351 A352 => ?_
                                                          have A353 : Ary Z h350 t .long ((JL ws335).set (N + 2) (.long v349)) := A352
                                                          obtain ⟨ws354, e355⟩ : ∃ q, q = ws335.set (N + 2) v349 := ⟨_, rfl⟩
                                                          have l356 : ws354.length = 8 := by rw [e355]; exact own_set5 l337
                                                          have A357 : Ary Z h350 t .long (JL ws354) := by rw [e355]; show Ary Z _ _ _ (List.map _ _); rw [List.map_set]; exact A353
                                                          have F358 : Exa Z h350 a "com/example/albatross/albatross/storage/ProducerState" := (F339.keep K351)
                                                          have F359 : Fld Z h350 a "com/example/albatross/albatross/storage/ProducerState" "firstSequences" "[I" (.ref fa) := (F340.keep K351 (ninS nta nin0))
                                                          have F360 : Fld Z h350 a "com/example/albatross/albatross/storage/ProducerState" "lastSequences" "[I" (.ref la) := (F341.keep K351 (ninS nta nin0))
                                                          have F361 : Fld Z h350 a "com/example/albatross/albatross/storage/ProducerState" "baseOffsets" "[J" (.ref ba) := (F342.keep K351 (ninS nta nin0))
                                                          have F362 : Fld Z h350 a "com/example/albatross/albatross/storage/ProducerState" "remembered" "I" (.int (2 : Int32)) := (F343.keep K351 (ninS nta nin0))
                                                          have F363 : Fld Z h350 a "com/example/albatross/albatross/storage/ProducerState" "epoch" "S" (.int e0) := (F344.keep K351 (ninS nta nin0))
                                                          have F364 : Ary Z h350 fa .int (IL xs) := (F345.keep K351 (ninS ntf nin0))
                                                          have F365 : Ary Z h350 la .int (IL ys) := (F346.keep K351 (ninS ntl nin0))
                                                          have F366 : Ary Z h350 ba .long (JL zs) := (F347.keep K351 (ninS ntb nin0))
                                                          have S8 : ST Z h350 a fa la ba (2 : Int32) e0 xs ys zs := ⟨F358, F359, F360, F361, F362, F363, F364, F365, F366, l200, l201, l202⟩
                                                          have g2 : ¬ ws354.getD N 0 &&& 7 = 0 := by rw [e355, own_setN (by omega), e336, own_setN (by omega)]; exact g1
                                                          refine Go.iconst 369 rfl (1 : Int32) d3_368 rfl ?_
                                                          refine Go.istore 371 rfl d3_369 (Ls' := #[.val (.ref a), .val (.ref t), .val (.int ix), .val (.long v256), .second, .val (.long v257), .second, .val (.int v267), .val (.int y272), .val (.int y276), .val (.int y281), .val (.int w2), .val (.int (1 : Int32))]) rfl ?_
                                                          refine Go.iload 373 rfl d3_371 rfl ?_
                                                          refine Go.aloadN 374 rfl d3_373 rfl rfl ?_
                                                          refine Go.getF 377 rfl (v := .int (2 : Int32)) 23 d3_374 rfl F362 ?_
                                                          refine Go.icmp_ge 405 380 d3_377 (by decide) rfl rfl (fun (b367 : ¬ (1 : Int32) < (2 : Int32)) => ?_) (fun (b367 : (1 : Int32) < (2 : Int32)) => ?_)
                                                          · exact absurd (show (1 : Int32) < (2 : Int32) from by decide) b367
                                                          · refine Go.aloadN 381 rfl d3_380 rfl rfl ?_
                                                            refine Go.iloadN 382 rfl d3_381 rfl ?_
                                                            refine Go.aloadN 383 rfl d3_382 rfl rfl ?_
                                                            refine Go.iload 385 rfl d3_383 rfl ?_
                                                            refine Go.callP2 388 rfl (C := B14) a [.int (1 : Int32)] (rest := [.int ix, .ref t]) 81 82 2 83 3 84 (c14 Z hw h350 a (1 : Int32) fa la ba (2 : Int32) e0 xs ys zs 1 rfl (by decide) P0 S8) F358 d3_385 rfl rfl rfl rfl rfl rfl (by decide) pd14 rfl rfl rfl (W := 2) (Nat.le_of_ble_eq_true rfl) (by decide) (by decide) (by decide) (by decide) fun v368 h369 q370 => ?_
                                                            obtain ⟨y371, rfl, rfl⟩ := q370
                                                            refine Go.aloadN 389 rfl d3_388 rfl rfl ?_
                                                            refine Go.getF 392 rfl (v := .ref ba) 15 d3_389 rfl F361 ?_
                                                            refine Go.iload 394 rfl d3_392 rfl ?_
                                                            refine Go.laload 395 rfl (zs.getD 1 0) d3_394 F366 1 rfl (JL.get l202 (by decide)) ?_
                                                            refine Go.nameJ fun v372 hv372 => ?_
                                                            refine Go.callS 398 rfl (C := B22) [.ref t, .int ix, .int y371, .long v372] (rest := []) 110 111 3 112 (c22 Z hw h350 t ix y371 v372 ws354 N hN hN3 l356 A357 hgt) d3_395 rfl rfl rfl rfl (by decide) pd22 rfl rfl rfl (W := 0) (Nat.le_of_ble_eq_true rfl) (by decide) (by decide) (by decide) (by decide) fun v373 h374 q375 => ?_
                                                            obtain ⟨r376, ws377, rfl, K378, A379, l380, D381⟩ := q375
                                                            have g382 : ¬ ws377.getD N 0 &&& 7 = 0 := by rcases D381 with q | q; (rw [q]; exact g2); exact q
                                                            have F383 : Exa Z h374 a "com/example/albatross/albatross/storage/ProducerState" := (F358.keep K378)
                                                            have F384 : Fld Z h374 a "com/example/albatross/albatross/storage/ProducerState" "firstSequences" "[I" (.ref fa) := (F359.keep K378 (ninS nta nin0))
                                                            have F385 : Fld Z h374 a "com/example/albatross/albatross/storage/ProducerState" "lastSequences" "[I" (.ref la) := (F360.keep K378 (ninS nta nin0))
                                                            have F386 : Fld Z h374 a "com/example/albatross/albatross/storage/ProducerState" "baseOffsets" "[J" (.ref ba) := (F361.keep K378 (ninS nta nin0))
                                                            have F387 : Fld Z h374 a "com/example/albatross/albatross/storage/ProducerState" "remembered" "I" (.int (2 : Int32)) := (F362.keep K378 (ninS nta nin0))
                                                            have F388 : Fld Z h374 a "com/example/albatross/albatross/storage/ProducerState" "epoch" "S" (.int e0) := (F363.keep K378 (ninS nta nin0))
                                                            have F389 : Ary Z h374 fa .int (IL xs) := (F364.keep K378 (ninS ntf nin0))
                                                            have F390 : Ary Z h374 la .int (IL ys) := (F365.keep K378 (ninS ntl nin0))
                                                            have F391 : Ary Z h374 ba .long (JL zs) := (F366.keep K378 (ninS ntb nin0))
                                                            have S9 : ST Z h374 a fa la ba (2 : Int32) e0 xs ys zs := ⟨F383, F384, F385, F386, F387, F388, F389, F390, F391, l200, l201, l202⟩
                                                            refine Go.pop 399 rfl d3_398 rfl ?_
                                                            refine Go.iinc 402 rfl (1 : Int32) d3_399 rfl rfl (Ls' := #[.val (.ref a), .val (.ref t), .val (.int ix), .val (.long v256), .second, .val (.long v257), .second, .val (.int v267), .val (.int y272), .val (.int y276), .val (.int y281), .val (.int w2), .val (.int ((1 : Int32) + (1 : Int32)))]) rfl ?_
                                                            refine Go.goto 371 d3_402 (by decide) (by decide) ?_
                                                            refine Go.iload 373 rfl d3_371 rfl ?_
                                                            refine Go.aloadN 374 rfl d3_373 rfl rfl ?_
                                                            refine Go.getF 377 rfl (v := .int (2 : Int32)) 23 d3_374 rfl F387 ?_
                                                            refine Go.icmp_ge 405 380 d3_377 (by decide) rfl rfl (fun (b392 : ¬ ((1 : Int32) + (1 : Int32)) < (2 : Int32)) => ?_) (fun (b392 : ((1 : Int32) + (1 : Int32)) < (2 : Int32)) => ?_)
                                                            · refine Go.iconst 406 rfl (1 : Int32) d3_405 rfl ?_
                                                              exact Go.retN (t := .boolean) (z' := 1) d3_406 rfl (by decide) (by decide) (by decide) (by decide) ⟨1, ws377, rfl, (((((((((Keep.refl h0 [t]).trans K3 (by simp)).trans K12 (by simp)).trans K21 (by simp)).trans K30 (by simp)).trans K309 (by simp)).trans K332 (by simp)).trans K351 (by simp)).trans K378 (by simp)), A379, l380, Or.inr ⟨rfl, g382⟩⟩
                                                            · exact absurd b392 (show ¬ ((1 : Int32) + (1 : Int32)) < (2 : Int32) from by decide)
                                                    · exact absurd b268 (show ¬ (((0 : Int32) + (1 : Int32)) + (1 : Int32)) < (2 : Int32) from by decide)
                                                · exact absurd b251 (show ¬ (1 : Int32) = 0 from by decide)
                                  · refine Go.iconst 169 rfl (0 : Int32) d3_168 rfl ?_
                                    exact Go.retN (t := .boolean) (z' := 0) d3_169 rfl (by decide) (by decide) (by decide) (by decide) ⟨0, ws33, rfl, K4, A36, l35, Or.inl ⟨rfl, hz0⟩⟩
                        · exact absurd (show (0 : Int32) = 0 from by decide) b210
                      · exact absurd b209 (show ¬ (0 : Int32) = ((2 : Int32) - (1 : Int32)) from by decide)
                  · refine Go.iconst 47 rfl (0 : Int32) d3_46 rfl ?_
                    exact Go.retN (t := .boolean) (z' := 0) d3_47 rfl (by decide) (by decide) (by decide) (by decide) ⟨0, ws33, rfl, K4, A36, l35, Or.inl ⟨rfl, hz0⟩⟩
            · obtain ⟨E393, F394, F395, F396, F397, F398, A399, A400, A401, l402, l403, l404⟩ := id S
              obtain ⟨pg1, pg2, pg3, pg4, pn1, pn2, pn3, pn4, pn5, pn6⟩ := id P0
              refine Go.aloadN 20 rfl d3_19 rfl rfl ?_
              refine Go.getF 23 rfl (v := .int (3 : Int32)) 23 d3_20 rfl F397 ?_
              refine Go.if_eq 46 26 d3_23 (by decide) rfl rfl (fun (b405 : (3 : Int32) = 0) => ?_) (fun (b405 : ¬ (3 : Int32) = 0) => ?_)
              · exact absurd b405 (show ¬ (3 : Int32) = 0 from by decide)
              · refine Go.aloadN 27 rfl d3_26 rfl rfl ?_
                refine Go.getF 30 rfl (v := .ref fa) 11 d3_27 rfl F394 ?_
                refine Go.iconst 31 rfl (0 : Int32) d3_30 rfl ?_
                refine Go.iaload 32 rfl (xs.getD 0 0) d3_31 A399 0 rfl (IL.get l402 (by decide)) ?_
                refine Go.nameI fun v406 hv406 => ?_
                refine Go.if_lt 46 35 d3_32 (by decide) rfl rfl (fun (b407 : v406 < 0) => ?_) (fun (b407 : ¬ v406 < 0) => ?_)
                · refine Go.iconst 47 rfl (0 : Int32) d3_46 rfl ?_
                  exact Go.retN (t := .boolean) (z' := 0) d3_47 rfl (by decide) (by decide) (by decide) (by decide) ⟨0, ws33, rfl, K4, A36, l35, Or.inl ⟨rfl, hz0⟩⟩
                · refine Go.aloadN 36 rfl d3_35 rfl rfl ?_
                  refine Go.getF 39 rfl (v := .ref ba) 15 d3_36 rfl F396 ?_
                  refine Go.iconst 40 rfl (0 : Int32) d3_39 rfl ?_
                  refine Go.laload 41 rfl (zs.getD 0 0) d3_40 A401 0 rfl (JL.get l404 (by decide)) ?_
                  refine Go.nameJ fun v408 hv408 => ?_
                  refine Go.lconst 42 rfl (0 : Int64) d3_41 rfl ?_
                  refine Go.lcmp 43 rfl d3_42 ?_
                  refine Go.if_ge 48 46 d3_43 (by decide) rfl rfl (fun (b409 : ¬ (XT.cmpL v408 (0 : Int64)) < 0) => ?_) (fun (b409 : (XT.cmpL v408 (0 : Int64)) < 0) => ?_)
                  · refine Go.lconst 49 rfl (0 : Int64) d3_48 rfl ?_
                    refine Go.lstoreN 50 rfl d3_49 (Ls' := #[.val (.ref a), .val (.ref t), .val (.int ix), .val (.long (0 : Int64)), .second, .unset, .unset, .unset, .unset, .unset, .unset, .unset, .unset]) rfl ?_
                    refine Go.lconst 51 rfl (0 : Int64) d3_50 rfl ?_
                    refine Go.lstore 53 rfl d3_51 (Ls' := #[.val (.ref a), .val (.ref t), .val (.int ix), .val (.long (0 : Int64)), .second, .val (.long (0 : Int64)), .second, .unset, .unset, .unset, .unset, .unset, .unset]) rfl ?_
                    refine Go.iconst 54 rfl (1 : Int32) d3_53 rfl ?_
                    refine Go.istore 56 rfl d3_54 (Ls' := #[.val (.ref a), .val (.ref t), .val (.int ix), .val (.long (0 : Int64)), .second, .val (.long (0 : Int64)), .second, .val (.int (1 : Int32)), .unset, .unset, .unset, .unset, .unset]) rfl ?_
                    refine Go.iconst 57 rfl (0 : Int32) d3_56 rfl ?_
                    refine Go.istore 59 rfl d3_57 (Ls' := #[.val (.ref a), .val (.ref t), .val (.int ix), .val (.long (0 : Int64)), .second, .val (.long (0 : Int64)), .second, .val (.int (1 : Int32)), .val (.int (0 : Int32)), .unset, .unset, .unset, .unset]) rfl ?_
                    refine Go.iload 61 rfl d3_59 rfl ?_
                    refine Go.aloadN 62 rfl d3_61 rfl rfl ?_
                    refine Go.getF 65 rfl (v := .int (3 : Int32)) 23 d3_62 rfl F397 ?_
                    refine Go.icmp_ge 217 68 d3_65 (by decide) rfl rfl (fun (b410 : ¬ (0 : Int32) < (3 : Int32)) => ?_) (fun (b410 : (0 : Int32) < (3 : Int32)) => ?_)
                    · exact absurd (show (0 : Int32) < (3 : Int32) from by decide) b410
                    · refine Go.iload 70 rfl d3_68 rfl ?_
                      refine Go.aloadN 71 rfl d3_70 rfl rfl ?_
                      refine Go.getF 74 rfl (v := .int (3 : Int32)) 23 d3_71 rfl F397 ?_
                      refine Go.iconst 75 rfl (1 : Int32) d3_74 rfl ?_
                      refine Go.isub 76 rfl d3_75 ?_
                      refine Go.icmp_ne 83 79 d3_76 (by decide) rfl rfl (fun (b411 : ¬ (0 : Int32) = ((3 : Int32) - (1 : Int32))) => ?_) (fun (b411 : (0 : Int32) = ((3 : Int32) - (1 : Int32))) => ?_)
                      · refine Go.iconst 84 rfl (0 : Int32) d3_83 rfl ?_
                        refine Go.istore 86 rfl d3_84 (Ls' := #[.val (.ref a), .val (.ref t), .val (.int ix), .val (.long (0 : Int64)), .second, .val (.long (0 : Int64)), .second, .val (.int (1 : Int32)), .val (.int (0 : Int32)), .val (.int (0 : Int32)), .unset, .unset, .unset]) rfl ?_
                        refine Go.iload 88 rfl d3_86 rfl ?_
                        refine Go.if_eq 95 91 d3_88 (by decide) rfl rfl (fun (b412 : (0 : Int32) = 0) => ?_) (fun (b412 : ¬ (0 : Int32) = 0) => ?_)
                        · refine Go.aloadN 96 rfl d3_95 rfl rfl ?_
                          refine Go.iload 98 rfl d3_96 rfl ?_
                          refine Go.callP2 101 rfl (C := B13) a [.int (0 : Int32)] (rest := []) 77 78 2 79 3 80 (c13 Z hw h29 a (0 : Int32) fa la ba (3 : Int32) e0 xs ys zs 0 rfl (by decide) P0 S) E393 d3_98 rfl rfl rfl rfl rfl rfl (by decide) pd13 rfl rfl rfl (W := 0) (Nat.le_of_ble_eq_true rfl) (by decide) (by decide) (by decide) (by decide) fun v413 h414 q415 => ?_
                          obtain ⟨y416, rfl, rfl⟩ := q415
                          refine Go.lstore 103 rfl d3_101 (Ls' := #[.val (.ref a), .val (.ref t), .val (.int ix), .val (.long (0 : Int64)), .second, .val (.long (0 : Int64)), .second, .val (.int (1 : Int32)), .val (.int (0 : Int32)), .val (.int (0 : Int32)), .val (.long y416), .second, .unset]) rfl ?_
                          refine Go.aloadN 104 rfl d3_103 rfl rfl ?_
                          refine Go.getF 107 rfl (v := .ref la) 13 d3_104 rfl F395 ?_
                          refine Go.iload 109 rfl d3_107 rfl ?_
                          refine Go.iaload 110 rfl (ys.getD 0 0) d3_109 A400 0 rfl (IL.get l403 (by decide)) ?_
                          refine Go.nameI fun v417 hv417 => ?_
                          refine Go.if_lt 168 113 d3_110 (by decide) rfl rfl (fun (b418 : v417 < 0) => ?_) (fun (b418 : ¬ v417 < 0) => ?_)
                          · refine Go.iconst 169 rfl (0 : Int32) d3_168 rfl ?_
                            exact Go.retN (t := .boolean) (z' := 0) d3_169 rfl (by decide) (by decide) (by decide) (by decide) ⟨0, ws33, rfl, K4, A36, l35, Or.inl ⟨rfl, hz0⟩⟩
                          · refine Go.lload 115 rfl d3_113 rfl ?_
                            refine Go.lconst 116 rfl (0 : Int64) d3_115 rfl ?_
                            refine Go.lcmp 117 rfl d3_116 ?_
                            refine Go.if_lt 168 120 d3_117 (by decide) rfl rfl (fun (b419 : (XT.cmpL y416 (0 : Int64)) < 0) => ?_) (fun (b419 : ¬ (XT.cmpL y416 (0 : Int64)) < 0) => ?_)
                            · refine Go.iconst 169 rfl (0 : Int32) d3_168 rfl ?_
                              exact Go.retN (t := .boolean) (z' := 0) d3_169 rfl (by decide) (by decide) (by decide) (by decide) ⟨0, ws33, rfl, K4, A36, l35, Or.inl ⟨rfl, hz0⟩⟩
                            · refine Go.iload 122 rfl d3_120 rfl ?_
                              refine Go.if_ne 170 125 d3_122 (by decide) rfl rfl (fun (b420 : ¬ (0 : Int32) = 0) => ?_) (fun (b420 : (0 : Int32) = 0) => ?_)
                              · exact absurd (show (0 : Int32) = 0 from by decide) b420
                              · refine Go.aloadN 126 rfl d3_125 rfl rfl ?_
                                refine Go.getF 129 rfl (v := .ref ba) 15 d3_126 rfl F396 ?_
                                refine Go.iload 131 rfl d3_129 rfl ?_
                                refine Go.iconst 132 rfl (1 : Int32) d3_131 rfl ?_
                                refine Go.iadd 133 rfl d3_132 ?_
                                refine Go.laload 134 rfl (zs.getD 1 0) d3_133 A401 1 rfl (JL.get l404 (by decide)) ?_
                                refine Go.nameJ fun v421 hv421 => ?_
                                refine Go.aloadN 135 rfl d3_134 rfl rfl ?_
                                refine Go.getF 138 rfl (v := .ref ba) 15 d3_135 rfl F396 ?_
                                refine Go.iload 140 rfl d3_138 rfl ?_
                                refine Go.laload 141 rfl (zs.getD 0 0) d3_140 A401 0 rfl (JL.get l404 (by decide)) ?_
                                refine Go.nameJ fun v422 hv422 => ?_
                                refine Go.lcmp 142 rfl d3_141 ?_
                                refine Go.if_lt 168 145 d3_142 (by decide) rfl rfl (fun (b423 : (XT.cmpL v421 v422) < 0) => ?_) (fun (b423 : ¬ (XT.cmpL v421 v422) < 0) => ?_)
                                · refine Go.iconst 169 rfl (0 : Int32) d3_168 rfl ?_
                                  exact Go.retN (t := .boolean) (z' := 0) d3_169 rfl (by decide) (by decide) (by decide) (by decide) ⟨0, ws33, rfl, K4, A36, l35, Or.inl ⟨rfl, hz0⟩⟩
                                · refine Go.aloadN 146 rfl d3_145 rfl rfl ?_
                                  refine Go.getF 149 rfl (v := .ref fa) 11 d3_146 rfl F394 ?_
                                  refine Go.iload 151 rfl d3_149 rfl ?_
                                  refine Go.iconst 152 rfl (1 : Int32) d3_151 rfl ?_
                                  refine Go.iadd 153 rfl d3_152 ?_
                                  refine Go.iaload 154 rfl (xs.getD 1 0) d3_153 A399 1 rfl (IL.get l402 (by decide)) ?_
                                  refine Go.nameI fun v424 hv424 => ?_
                                  refine Go.aloadN 155 rfl d3_154 rfl rfl ?_
                                  refine Go.getF 158 rfl (v := .ref la) 13 d3_155 rfl F395 ?_
                                  refine Go.iload 160 rfl d3_158 rfl ?_
                                  refine Go.iaload 161 rfl (ys.getD 0 0) d3_160 A400 0 rfl (IL.get l403 (by decide)) ?_
                                  refine Go.nameI fun v425 hv425 => ?_
                                  refine Go.iconst 162 rfl (1 : Int32) d3_161 rfl ?_
                                  refine Go.callS 165 rfl (C := B8) [.int v425, .int (1 : Int32)] (rest := [.int v424]) 42 43 3 44 (c8 Z hw h29 v425 (1 : Int32) ) d3_162 rfl rfl rfl rfl (by decide) pd8 rfl rfl rfl (W := 1) (Nat.le_of_ble_eq_true rfl) (by decide) (by decide) (by decide) (by decide) fun v426 h427 q428 => ?_
                                  obtain ⟨y429, rfl, rfl⟩ := q428
                                  refine Go.icmp_eq 170 168 d3_165 (by decide) rfl rfl (fun (b430 : v424 = y429) => ?_) (fun (b430 : ¬ v424 = y429) => ?_)
                                  · refine Go.lloadN 171 rfl d3_170 rfl ?_
                                    refine Go.aloadN 172 rfl d3_171 rfl rfl ?_
                                    refine Go.iload 174 rfl d3_172 rfl ?_
                                    refine Go.callP2 177 rfl (C := B14) a [.int (0 : Int32)] (rest := [.long (0 : Int64)]) 81 82 2 83 3 84 (c14 Z hw h29 a (0 : Int32) fa la ba (3 : Int32) e0 xs ys zs 0 rfl (by decide) P0 S) E393 d3_174 rfl rfl rfl rfl rfl rfl (by decide) pd14 rfl rfl rfl (W := 2) (Nat.le_of_ble_eq_true rfl) (by decide) (by decide) (by decide) (by decide) fun v431 h432 q433 => ?_
                                    obtain ⟨y434, rfl, rfl⟩ := q433
                                    refine Go.i2l 178 rfl d3_177 ?_
                                    refine Go.lor 179 rfl d3_178 ?_
                                    refine Go.nameJ fun v435 hv435 => ?_
                                    refine Go.lstoreN 180 rfl d3_179 (Ls' := #[.val (.ref a), .val (.ref t), .val (.int ix), .val (.long v435), .second, .val (.long (0 : Int64)), .second, .val (.int (1 : Int32)), .val (.int (0 : Int32)), .val (.int (0 : Int32)), .val (.long y416), .second, .unset]) rfl ?_
                                    refine Go.lload 182 rfl d3_180 rfl ?_
                                    refine Go.lload 184 rfl d3_182 rfl ?_
                                    refine Go.lor 185 rfl d3_184 ?_
                                    refine Go.nameJ fun v436 hv436 => ?_
                                    refine Go.lstore 187 rfl d3_185 (Ls' := #[.val (.ref a), .val (.ref t), .val (.int ix), .val (.long v435), .second, .val (.long v436), .second, .val (.int (1 : Int32)), .val (.int (0 : Int32)), .val (.int (0 : Int32)), .val (.long y416), .second, .unset]) rfl ?_
                                    refine Go.iload 189 rfl d3_187 rfl ?_
                                    refine Go.aloadN 190 rfl d3_189 rfl rfl ?_
                                    refine Go.iload 192 rfl d3_190 rfl ?_
                                    refine Go.callP2 195 rfl (C := B14) a [.int (0 : Int32)] (rest := [.int (1 : Int32)]) 81 82 2 83 3 84 (c14 Z hw h29 a (0 : Int32) fa la ba (3 : Int32) e0 xs ys zs 0 rfl (by decide) P0 S) E393 d3_192 rfl rfl rfl rfl rfl rfl (by decide) pd14 rfl rfl rfl (W := 1) (Nat.le_of_ble_eq_true rfl) (by decide) (by decide) (by decide) (by decide) fun v437 h438 q439 => ?_
                                    obtain ⟨y440, rfl, rfl⟩ := q439
                                    refine Go.aloadN 196 rfl d3_195 rfl rfl ?_
                                    refine Go.iconst 197 rfl (0 : Int32) d3_196 rfl ?_
                                    refine Go.callP2 200 rfl (C := B14) a [.int (0 : Int32)] (rest := [.int y440, .int (1 : Int32)]) 81 82 2 83 3 84 (c14 Z hw h29 a (0 : Int32) fa la ba (3 : Int32) e0 xs ys zs 0 rfl (by decide) P0 S) E393 d3_197 rfl rfl rfl rfl rfl rfl (by decide) pd14 rfl rfl rfl (W := 2) (Nat.le_of_ble_eq_true rfl) (by decide) (by decide) (by decide) (by decide) fun v441 h442 q443 => ?_
                                    obtain ⟨y444, rfl, rfl⟩ := q443
                                    refine Go.joinI (pcJ := 208) (LsJ := #[.val (.ref a), .val (.ref t), .val (.int ix), .val (.long v435), .second, .val (.long v436), .second, .val (.int (1 : Int32)), .val (.int (0 : Int32)), .val (.int (0 : Int32)), .val (.long y416), .second, .unset]) (stJ := [.int (1 : Int32)]) (fun v => True) (fun J => ?_) (fun v3_0 _h3_0 => ?_)
                                    · refine Go.icmp_ne 207 203 d3_200 (by decide) rfl rfl (fun (b445 : ¬ y440 = y444) => ?_) (fun (b445 : y440 = y444) => ?_)
                                      · refine Go.iconst 208 rfl (0 : Int32) d3_207 rfl ?_
                                        exact J _ trivial
                                      · refine Go.iconst 204 rfl (1 : Int32) d3_203 rfl ?_
                                        refine Go.goto 208 d3_204 (by decide) (by decide) ?_
                                        exact J _ trivial
                                    · refine Go.iand 209 rfl d3_208 ?_
                                      refine Go.nameI fun v446 hv446 => ?_
                                      refine Go.istore 211 rfl d3_209 (Ls' := #[.val (.ref a), .val (.ref t), .val (.int ix), .val (.long v435), .second, .val (.long v436), .second, .val (.int v446), .val (.int (0 : Int32)), .val (.int (0 : Int32)), .val (.long y416), .second, .unset]) rfl ?_
                                      refine Go.iinc 214 rfl (1 : Int32) d3_211 rfl rfl (Ls' := #[.val (.ref a), .val (.ref t), .val (.int ix), .val (.long v435), .second, .val (.long v436), .second, .val (.int v446), .val (.int ((0 : Int32) + (1 : Int32))), .val (.int (0 : Int32)), .val (.long y416), .second, .unset]) rfl ?_
                                      refine Go.goto 59 d3_214 (by decide) (by decide) ?_
                                      refine Go.iload 61 rfl d3_59 rfl ?_
                                      refine Go.aloadN 62 rfl d3_61 rfl rfl ?_
                                      refine Go.getF 65 rfl (v := .int (3 : Int32)) 23 d3_62 rfl F397 ?_
                                      refine Go.icmp_ge 217 68 d3_65 (by decide) rfl rfl (fun (b447 : ¬ ((0 : Int32) + (1 : Int32)) < (3 : Int32)) => ?_) (fun (b447 : ((0 : Int32) + (1 : Int32)) < (3 : Int32)) => ?_)
                                      · exact absurd (show ((0 : Int32) + (1 : Int32)) < (3 : Int32) from by decide) b447
                                      · refine Go.iload 70 rfl d3_68 rfl ?_
                                        refine Go.aloadN 71 rfl d3_70 rfl rfl ?_
                                        refine Go.getF 74 rfl (v := .int (3 : Int32)) 23 d3_71 rfl F397 ?_
                                        refine Go.iconst 75 rfl (1 : Int32) d3_74 rfl ?_
                                        refine Go.isub 76 rfl d3_75 ?_
                                        refine Go.icmp_ne 83 79 d3_76 (by decide) rfl rfl (fun (b448 : ¬ ((0 : Int32) + (1 : Int32)) = ((3 : Int32) - (1 : Int32))) => ?_) (fun (b448 : ((0 : Int32) + (1 : Int32)) = ((3 : Int32) - (1 : Int32))) => ?_)
                                        · refine Go.iconst 84 rfl (0 : Int32) d3_83 rfl ?_
                                          refine Go.istore 86 rfl d3_84 (Ls' := #[.val (.ref a), .val (.ref t), .val (.int ix), .val (.long v435), .second, .val (.long v436), .second, .val (.int v446), .val (.int ((0 : Int32) + (1 : Int32))), .val (.int (0 : Int32)), .val (.long y416), .second, .unset]) rfl ?_
                                          refine Go.iload 88 rfl d3_86 rfl ?_
                                          refine Go.if_eq 95 91 d3_88 (by decide) rfl rfl (fun (b449 : (0 : Int32) = 0) => ?_) (fun (b449 : ¬ (0 : Int32) = 0) => ?_)
                                          · refine Go.aloadN 96 rfl d3_95 rfl rfl ?_
                                            refine Go.iload 98 rfl d3_96 rfl ?_
                                            refine Go.callP2 101 rfl (C := B13) a [.int ((0 : Int32) + (1 : Int32))] (rest := []) 77 78 2 79 3 80 (c13 Z hw h29 a ((0 : Int32) + (1 : Int32)) fa la ba (3 : Int32) e0 xs ys zs 1 rfl (by decide) P0 S) E393 d3_98 rfl rfl rfl rfl rfl rfl (by decide) pd13 rfl rfl rfl (W := 0) (Nat.le_of_ble_eq_true rfl) (by decide) (by decide) (by decide) (by decide) fun v450 h451 q452 => ?_
                                            obtain ⟨y453, rfl, rfl⟩ := q452
                                            refine Go.lstore 103 rfl d3_101 (Ls' := #[.val (.ref a), .val (.ref t), .val (.int ix), .val (.long v435), .second, .val (.long v436), .second, .val (.int v446), .val (.int ((0 : Int32) + (1 : Int32))), .val (.int (0 : Int32)), .val (.long y453), .second, .unset]) rfl ?_
                                            refine Go.aloadN 104 rfl d3_103 rfl rfl ?_
                                            refine Go.getF 107 rfl (v := .ref la) 13 d3_104 rfl F395 ?_
                                            refine Go.iload 109 rfl d3_107 rfl ?_
                                            refine Go.iaload 110 rfl (ys.getD 1 0) d3_109 A400 1 rfl (IL.get l403 (by decide)) ?_
                                            refine Go.nameI fun v454 hv454 => ?_
                                            refine Go.if_lt 168 113 d3_110 (by decide) rfl rfl (fun (b455 : v454 < 0) => ?_) (fun (b455 : ¬ v454 < 0) => ?_)
                                            · refine Go.iconst 169 rfl (0 : Int32) d3_168 rfl ?_
                                              exact Go.retN (t := .boolean) (z' := 0) d3_169 rfl (by decide) (by decide) (by decide) (by decide) ⟨0, ws33, rfl, K4, A36, l35, Or.inl ⟨rfl, hz0⟩⟩
                                            · refine Go.lload 115 rfl d3_113 rfl ?_
                                              refine Go.lconst 116 rfl (0 : Int64) d3_115 rfl ?_
                                              refine Go.lcmp 117 rfl d3_116 ?_
                                              refine Go.if_lt 168 120 d3_117 (by decide) rfl rfl (fun (b456 : (XT.cmpL y453 (0 : Int64)) < 0) => ?_) (fun (b456 : ¬ (XT.cmpL y453 (0 : Int64)) < 0) => ?_)
                                              · refine Go.iconst 169 rfl (0 : Int32) d3_168 rfl ?_
                                                exact Go.retN (t := .boolean) (z' := 0) d3_169 rfl (by decide) (by decide) (by decide) (by decide) ⟨0, ws33, rfl, K4, A36, l35, Or.inl ⟨rfl, hz0⟩⟩
                                              · refine Go.iload 122 rfl d3_120 rfl ?_
                                                refine Go.if_ne 170 125 d3_122 (by decide) rfl rfl (fun (b457 : ¬ (0 : Int32) = 0) => ?_) (fun (b457 : (0 : Int32) = 0) => ?_)
                                                · exact absurd (show (0 : Int32) = 0 from by decide) b457
                                                · refine Go.aloadN 126 rfl d3_125 rfl rfl ?_
                                                  refine Go.getF 129 rfl (v := .ref ba) 15 d3_126 rfl F396 ?_
                                                  refine Go.iload 131 rfl d3_129 rfl ?_
                                                  refine Go.iconst 132 rfl (1 : Int32) d3_131 rfl ?_
                                                  refine Go.iadd 133 rfl d3_132 ?_
                                                  refine Go.laload 134 rfl (zs.getD 2 0) d3_133 A401 2 rfl (JL.get l404 (by decide)) ?_
                                                  refine Go.nameJ fun v458 hv458 => ?_
                                                  refine Go.aloadN 135 rfl d3_134 rfl rfl ?_
                                                  refine Go.getF 138 rfl (v := .ref ba) 15 d3_135 rfl F396 ?_
                                                  refine Go.iload 140 rfl d3_138 rfl ?_
                                                  refine Go.laload 141 rfl (zs.getD 1 0) d3_140 A401 1 rfl (JL.get l404 (by decide)) ?_
                                                  refine Go.nameJ fun v459 hv459 => ?_
                                                  refine Go.lcmp 142 rfl d3_141 ?_
                                                  refine Go.if_lt 168 145 d3_142 (by decide) rfl rfl (fun (b460 : (XT.cmpL v458 v459) < 0) => ?_) (fun (b460 : ¬ (XT.cmpL v458 v459) < 0) => ?_)
                                                  · refine Go.iconst 169 rfl (0 : Int32) d3_168 rfl ?_
                                                    exact Go.retN (t := .boolean) (z' := 0) d3_169 rfl (by decide) (by decide) (by decide) (by decide) ⟨0, ws33, rfl, K4, A36, l35, Or.inl ⟨rfl, hz0⟩⟩
                                                  · refine Go.aloadN 146 rfl d3_145 rfl rfl ?_
                                                    refine Go.getF 149 rfl (v := .ref fa) 11 d3_146 rfl F394 ?_
                                                    refine Go.iload 151 rfl d3_149 rfl ?_
                                                    refine Go.iconst 152 rfl (1 : Int32) d3_151 rfl ?_
                                                    refine Go.iadd 153 rfl d3_152 ?_
                                                    refine Go.iaload 154 rfl (xs.getD 2 0) d3_153 A399 2 rfl (IL.get l402 (by decide)) ?_
                                                    refine Go.nameI fun v461 hv461 => ?_
                                                    refine Go.aloadN 155 rfl d3_154 rfl rfl ?_
                                                    refine Go.getF 158 rfl (v := .ref la) 13 d3_155 rfl F395 ?_
                                                    refine Go.iload 160 rfl d3_158 rfl ?_
                                                    refine Go.iaload 161 rfl (ys.getD 1 0) d3_160 A400 1 rfl (IL.get l403 (by decide)) ?_
                                                    refine Go.nameI fun v462 hv462 => ?_
                                                    refine Go.iconst 162 rfl (1 : Int32) d3_161 rfl ?_
                                                    refine Go.callS 165 rfl (C := B8) [.int v462, .int (1 : Int32)] (rest := [.int v461]) 42 43 3 44 (c8 Z hw h29 v462 (1 : Int32) ) d3_162 rfl rfl rfl rfl (by decide) pd8 rfl rfl rfl (W := 1) (Nat.le_of_ble_eq_true rfl) (by decide) (by decide) (by decide) (by decide) fun v463 h464 q465 => ?_
                                                    obtain ⟨y466, rfl, rfl⟩ := q465
                                                    refine Go.icmp_eq 170 168 d3_165 (by decide) rfl rfl (fun (b467 : v461 = y466) => ?_) (fun (b467 : ¬ v461 = y466) => ?_)
                                                    · refine Go.lloadN 171 rfl d3_170 rfl ?_
                                                      refine Go.aloadN 172 rfl d3_171 rfl rfl ?_
                                                      refine Go.iload 174 rfl d3_172 rfl ?_
                                                      refine Go.callP2 177 rfl (C := B14) a [.int ((0 : Int32) + (1 : Int32))] (rest := [.long v435]) 81 82 2 83 3 84 (c14 Z hw h29 a ((0 : Int32) + (1 : Int32)) fa la ba (3 : Int32) e0 xs ys zs 1 rfl (by decide) P0 S) E393 d3_174 rfl rfl rfl rfl rfl rfl (by decide) pd14 rfl rfl rfl (W := 2) (Nat.le_of_ble_eq_true rfl) (by decide) (by decide) (by decide) (by decide) fun v468 h469 q470 => ?_
                                                      obtain ⟨y471, rfl, rfl⟩ := q470
                                                      refine Go.i2l 178 rfl d3_177 ?_
                                                      refine Go.lor 179 rfl d3_178 ?_
                                                      refine Go.nameJ fun v472 hv472 => ?_
                                                      refine Go.lstoreN 180 rfl d3_179 (Ls' := #[.val (.ref a), .val (.ref t), .val (.int ix), .val (.long v472), .second, .val (.long v436), .second, .val (.int v446), .val (.int ((0 : Int32) + (1 : Int32))), .val (.int (0 : Int32)), .val (.long y453), .second, .unset]) rfl ?_
                                                      refine Go.lload 182 rfl d3_180 rfl ?_
                                                      refine Go.lload 184 rfl d3_182 rfl ?_
                                                      refine Go.lor 185 rfl d3_184 ?_
                                                      refine Go.nameJ fun v473 hv473 => ?_
                                                      refine Go.lstore 187 rfl d3_185 (Ls' := #[.val (.ref a), .val (.ref t), .val (.int ix), .val (.long v472), .second, .val (.long v473), .second, .val (.int v446), .val (.int ((0 : Int32) + (1 : Int32))), .val (.int (0 : Int32)), .val (.long y453), .second, .unset]) rfl ?_
                                                      refine Go.iload 189 rfl d3_187 rfl ?_
                                                      refine Go.aloadN 190 rfl d3_189 rfl rfl ?_
                                                      refine Go.iload 192 rfl d3_190 rfl ?_
                                                      refine Go.callP2 195 rfl (C := B14) a [.int ((0 : Int32) + (1 : Int32))] (rest := [.int v446]) 81 82 2 83 3 84 (c14 Z hw h29 a ((0 : Int32) + (1 : Int32)) fa la ba (3 : Int32) e0 xs ys zs 1 rfl (by decide) P0 S) E393 d3_192 rfl rfl rfl rfl rfl rfl (by decide) pd14 rfl rfl rfl (W := 1) (Nat.le_of_ble_eq_true rfl) (by decide) (by decide) (by decide) (by decide) fun v474 h475 q476 => ?_
                                                      obtain ⟨y477, rfl, rfl⟩ := q476
                                                      refine Go.aloadN 196 rfl d3_195 rfl rfl ?_
                                                      refine Go.iconst 197 rfl (0 : Int32) d3_196 rfl ?_
                                                      refine Go.callP2 200 rfl (C := B14) a [.int (0 : Int32)] (rest := [.int y477, .int v446]) 81 82 2 83 3 84 (c14 Z hw h29 a (0 : Int32) fa la ba (3 : Int32) e0 xs ys zs 0 rfl (by decide) P0 S) E393 d3_197 rfl rfl rfl rfl rfl rfl (by decide) pd14 rfl rfl rfl (W := 2) (Nat.le_of_ble_eq_true rfl) (by decide) (by decide) (by decide) (by decide) fun v478 h479 q480 => ?_
                                                      obtain ⟨y481, rfl, rfl⟩ := q480
                                                      refine Go.joinI (pcJ := 208) (LsJ := #[.val (.ref a), .val (.ref t), .val (.int ix), .val (.long v472), .second, .val (.long v473), .second, .val (.int v446), .val (.int ((0 : Int32) + (1 : Int32))), .val (.int (0 : Int32)), .val (.long y453), .second, .unset]) (stJ := [.int v446]) (fun v => True) (fun J => ?_) (fun v3_1 _h3_1 => ?_)
                                                      · refine Go.icmp_ne 207 203 d3_200 (by decide) rfl rfl (fun (b482 : ¬ y477 = y481) => ?_) (fun (b482 : y477 = y481) => ?_)
                                                        · refine Go.iconst 208 rfl (0 : Int32) d3_207 rfl ?_
                                                          exact J _ trivial
                                                        · refine Go.iconst 204 rfl (1 : Int32) d3_203 rfl ?_
                                                          refine Go.goto 208 d3_204 (by decide) (by decide) ?_
                                                          exact J _ trivial
                                                      · refine Go.iand 209 rfl d3_208 ?_
                                                        refine Go.nameI fun v483 hv483 => ?_
                                                        refine Go.istore 211 rfl d3_209 (Ls' := #[.val (.ref a), .val (.ref t), .val (.int ix), .val (.long v472), .second, .val (.long v473), .second, .val (.int v483), .val (.int ((0 : Int32) + (1 : Int32))), .val (.int (0 : Int32)), .val (.long y453), .second, .unset]) rfl ?_
                                                        refine Go.iinc 214 rfl (1 : Int32) d3_211 rfl rfl (Ls' := #[.val (.ref a), .val (.ref t), .val (.int ix), .val (.long v472), .second, .val (.long v473), .second, .val (.int v483), .val (.int (((0 : Int32) + (1 : Int32)) + (1 : Int32))), .val (.int (0 : Int32)), .val (.long y453), .second, .unset]) rfl ?_
                                                        refine Go.goto 59 d3_214 (by decide) (by decide) ?_
                                                        refine Go.iload 61 rfl d3_59 rfl ?_
                                                        refine Go.aloadN 62 rfl d3_61 rfl rfl ?_
                                                        refine Go.getF 65 rfl (v := .int (3 : Int32)) 23 d3_62 rfl F397 ?_
                                                        refine Go.icmp_ge 217 68 d3_65 (by decide) rfl rfl (fun (b484 : ¬ (((0 : Int32) + (1 : Int32)) + (1 : Int32)) < (3 : Int32)) => ?_) (fun (b484 : (((0 : Int32) + (1 : Int32)) + (1 : Int32)) < (3 : Int32)) => ?_)
                                                        · exact absurd (show (((0 : Int32) + (1 : Int32)) + (1 : Int32)) < (3 : Int32) from by decide) b484
                                                        · refine Go.iload 70 rfl d3_68 rfl ?_
                                                          refine Go.aloadN 71 rfl d3_70 rfl rfl ?_
                                                          refine Go.getF 74 rfl (v := .int (3 : Int32)) 23 d3_71 rfl F397 ?_
                                                          refine Go.iconst 75 rfl (1 : Int32) d3_74 rfl ?_
                                                          refine Go.isub 76 rfl d3_75 ?_
                                                          refine Go.icmp_ne 83 79 d3_76 (by decide) rfl rfl (fun (b485 : ¬ (((0 : Int32) + (1 : Int32)) + (1 : Int32)) = ((3 : Int32) - (1 : Int32))) => ?_) (fun (b485 : (((0 : Int32) + (1 : Int32)) + (1 : Int32)) = ((3 : Int32) - (1 : Int32))) => ?_)
                                                          · exact absurd (show (((0 : Int32) + (1 : Int32)) + (1 : Int32)) = ((3 : Int32) - (1 : Int32)) from by decide) b485
                                                          · refine Go.iconst 80 rfl (1 : Int32) d3_79 rfl ?_
                                                            refine Go.goto 84 d3_80 (by decide) (by decide) ?_
                                                            refine Go.istore 86 rfl d3_84 (Ls' := #[.val (.ref a), .val (.ref t), .val (.int ix), .val (.long v472), .second, .val (.long v473), .second, .val (.int v483), .val (.int (((0 : Int32) + (1 : Int32)) + (1 : Int32))), .val (.int (1 : Int32)), .val (.long y453), .second, .unset]) rfl ?_
                                                            refine Go.iload 88 rfl d3_86 rfl ?_
                                                            refine Go.if_eq 95 91 d3_88 (by decide) rfl rfl (fun (b486 : (1 : Int32) = 0) => ?_) (fun (b486 : ¬ (1 : Int32) = 0) => ?_)
                                                            · exact absurd b486 (show ¬ (1 : Int32) = 0 from by decide)
                                                            · refine Go.lconst 92 rfl (0 : Int64) d3_91 rfl ?_
                                                              refine Go.goto 101 d3_92 (by decide) (by decide) ?_
                                                              refine Go.lstore 103 rfl d3_101 (Ls' := #[.val (.ref a), .val (.ref t), .val (.int ix), .val (.long v472), .second, .val (.long v473), .second, .val (.int v483), .val (.int (((0 : Int32) + (1 : Int32)) + (1 : Int32))), .val (.int (1 : Int32)), .val (.long (0 : Int64)), .second, .unset]) rfl ?_
                                                              refine Go.aloadN 104 rfl d3_103 rfl rfl ?_
                                                              refine Go.getF 107 rfl (v := .ref la) 13 d3_104 rfl F395 ?_
                                                              refine Go.iload 109 rfl d3_107 rfl ?_
                                                              refine Go.iaload 110 rfl (ys.getD 2 0) d3_109 A400 2 rfl (IL.get l403 (by decide)) ?_
                                                              refine Go.nameI fun v487 hv487 => ?_
                                                              refine Go.if_lt 168 113 d3_110 (by decide) rfl rfl (fun (b488 : v487 < 0) => ?_) (fun (b488 : ¬ v487 < 0) => ?_)
                                                              · refine Go.iconst 169 rfl (0 : Int32) d3_168 rfl ?_
                                                                exact Go.retN (t := .boolean) (z' := 0) d3_169 rfl (by decide) (by decide) (by decide) (by decide) ⟨0, ws33, rfl, K4, A36, l35, Or.inl ⟨rfl, hz0⟩⟩
                                                              · refine Go.lload 115 rfl d3_113 rfl ?_
                                                                refine Go.lconst 116 rfl (0 : Int64) d3_115 rfl ?_
                                                                refine Go.lcmp 117 rfl d3_116 ?_
                                                                refine Go.if_lt 168 120 d3_117 (by decide) rfl rfl (fun (b489 : (XT.cmpL (0 : Int64) (0 : Int64)) < 0) => ?_) (fun (b489 : ¬ (XT.cmpL (0 : Int64) (0 : Int64)) < 0) => ?_)
                                                                · refine Go.iconst 169 rfl (0 : Int32) d3_168 rfl ?_
                                                                  exact Go.retN (t := .boolean) (z' := 0) d3_169 rfl (by decide) (by decide) (by decide) (by decide) ⟨0, ws33, rfl, K4, A36, l35, Or.inl ⟨rfl, hz0⟩⟩
                                                                · refine Go.iload 122 rfl d3_120 rfl ?_
                                                                  refine Go.if_ne 170 125 d3_122 (by decide) rfl rfl (fun (b490 : ¬ (1 : Int32) = 0) => ?_) (fun (b490 : (1 : Int32) = 0) => ?_)
                                                                  · refine Go.lloadN 171 rfl d3_170 rfl ?_
                                                                    refine Go.aloadN 172 rfl d3_171 rfl rfl ?_
                                                                    refine Go.iload 174 rfl d3_172 rfl ?_
                                                                    refine Go.callP2 177 rfl (C := B14) a [.int (((0 : Int32) + (1 : Int32)) + (1 : Int32))] (rest := [.long v472]) 81 82 2 83 3 84 (c14 Z hw h29 a (((0 : Int32) + (1 : Int32)) + (1 : Int32)) fa la ba (3 : Int32) e0 xs ys zs 2 rfl (by decide) P0 S) E393 d3_174 rfl rfl rfl rfl rfl rfl (by decide) pd14 rfl rfl rfl (W := 2) (Nat.le_of_ble_eq_true rfl) (by decide) (by decide) (by decide) (by decide) fun v491 h492 q493 => ?_
                                                                    obtain ⟨y494, rfl, rfl⟩ := q493
                                                                    refine Go.i2l 178 rfl d3_177 ?_
                                                                    refine Go.lor 179 rfl d3_178 ?_
                                                                    refine Go.nameJ fun v495 hv495 => ?_
                                                                    refine Go.lstoreN 180 rfl d3_179 (Ls' := #[.val (.ref a), .val (.ref t), .val (.int ix), .val (.long v495), .second, .val (.long v473), .second, .val (.int v483), .val (.int (((0 : Int32) + (1 : Int32)) + (1 : Int32))), .val (.int (1 : Int32)), .val (.long (0 : Int64)), .second, .unset]) rfl ?_
                                                                    refine Go.lload 182 rfl d3_180 rfl ?_
                                                                    refine Go.lload 184 rfl d3_182 rfl ?_
                                                                    refine Go.lor 185 rfl d3_184 ?_
                                                                    refine Go.nameJ fun v496 hv496 => ?_
                                                                    refine Go.lstore 187 rfl d3_185 (Ls' := #[.val (.ref a), .val (.ref t), .val (.int ix), .val (.long v495), .second, .val (.long v496), .second, .val (.int v483), .val (.int (((0 : Int32) + (1 : Int32)) + (1 : Int32))), .val (.int (1 : Int32)), .val (.long (0 : Int64)), .second, .unset]) rfl ?_
                                                                    refine Go.iload 189 rfl d3_187 rfl ?_
                                                                    refine Go.aloadN 190 rfl d3_189 rfl rfl ?_
                                                                    refine Go.iload 192 rfl d3_190 rfl ?_
                                                                    refine Go.callP2 195 rfl (C := B14) a [.int (((0 : Int32) + (1 : Int32)) + (1 : Int32))] (rest := [.int v483]) 81 82 2 83 3 84 (c14 Z hw h29 a (((0 : Int32) + (1 : Int32)) + (1 : Int32)) fa la ba (3 : Int32) e0 xs ys zs 2 rfl (by decide) P0 S) E393 d3_192 rfl rfl rfl rfl rfl rfl (by decide) pd14 rfl rfl rfl (W := 1) (Nat.le_of_ble_eq_true rfl) (by decide) (by decide) (by decide) (by decide) fun v497 h498 q499 => ?_
                                                                    obtain ⟨y500, rfl, rfl⟩ := q499
                                                                    refine Go.aloadN 196 rfl d3_195 rfl rfl ?_
                                                                    refine Go.iconst 197 rfl (0 : Int32) d3_196 rfl ?_
                                                                    refine Go.callP2 200 rfl (C := B14) a [.int (0 : Int32)] (rest := [.int y500, .int v483]) 81 82 2 83 3 84 (c14 Z hw h29 a (0 : Int32) fa la ba (3 : Int32) e0 xs ys zs 0 rfl (by decide) P0 S) E393 d3_197 rfl rfl rfl rfl rfl rfl (by decide) pd14 rfl rfl rfl (W := 2) (Nat.le_of_ble_eq_true rfl) (by decide) (by decide) (by decide) (by decide) fun v501 h502 q503 => ?_
                                                                    obtain ⟨y504, rfl, rfl⟩ := q503
                                                                    refine Go.joinI (pcJ := 208) (LsJ := #[.val (.ref a), .val (.ref t), .val (.int ix), .val (.long v495), .second, .val (.long v496), .second, .val (.int v483), .val (.int (((0 : Int32) + (1 : Int32)) + (1 : Int32))), .val (.int (1 : Int32)), .val (.long (0 : Int64)), .second, .unset]) (stJ := [.int v483]) (fun v => True) (fun J => ?_) (fun v3_2 _h3_2 => ?_)
                                                                    · refine Go.icmp_ne 207 203 d3_200 (by decide) rfl rfl (fun (b505 : ¬ y500 = y504) => ?_) (fun (b505 : y500 = y504) => ?_)
                                                                      · refine Go.iconst 208 rfl (0 : Int32) d3_207 rfl ?_
                                                                        exact J _ trivial
                                                                      · refine Go.iconst 204 rfl (1 : Int32) d3_203 rfl ?_
                                                                        refine Go.goto 208 d3_204 (by decide) (by decide) ?_
                                                                        exact J _ trivial
                                                                    · refine Go.iand 209 rfl d3_208 ?_
                                                                      refine Go.nameI fun v506 hv506 => ?_
                                                                      refine Go.istore 211 rfl d3_209 (Ls' := #[.val (.ref a), .val (.ref t), .val (.int ix), .val (.long v495), .second, .val (.long v496), .second, .val (.int v506), .val (.int (((0 : Int32) + (1 : Int32)) + (1 : Int32))), .val (.int (1 : Int32)), .val (.long (0 : Int64)), .second, .unset]) rfl ?_
                                                                      refine Go.iinc 214 rfl (1 : Int32) d3_211 rfl rfl (Ls' := #[.val (.ref a), .val (.ref t), .val (.int ix), .val (.long v495), .second, .val (.long v496), .second, .val (.int v506), .val (.int ((((0 : Int32) + (1 : Int32)) + (1 : Int32)) + (1 : Int32))), .val (.int (1 : Int32)), .val (.long (0 : Int64)), .second, .unset]) rfl ?_
                                                                      refine Go.goto 59 d3_214 (by decide) (by decide) ?_
                                                                      refine Go.iload 61 rfl d3_59 rfl ?_
                                                                      refine Go.aloadN 62 rfl d3_61 rfl rfl ?_
                                                                      refine Go.getF 65 rfl (v := .int (3 : Int32)) 23 d3_62 rfl F397 ?_
                                                                      refine Go.icmp_ge 217 68 d3_65 (by decide) rfl rfl (fun (b507 : ¬ ((((0 : Int32) + (1 : Int32)) + (1 : Int32)) + (1 : Int32)) < (3 : Int32)) => ?_) (fun (b507 : ((((0 : Int32) + (1 : Int32)) + (1 : Int32)) + (1 : Int32)) < (3 : Int32)) => ?_)
                                                                      · refine Go.lloadN 218 rfl d3_217 rfl ?_
                                                                        refine Go.callS 221 rfl (C := B15) [.long v495] (rest := []) 85 86 3 87 (c15 Z hw h29 v495 ) d3_218 rfl rfl rfl rfl (by decide) pd15 rfl rfl rfl (W := 0) (Nat.le_of_ble_eq_true rfl) (by decide) (by decide) (by decide) (by decide) fun v508 h509 q510 => ?_
                                                                        obtain ⟨y511, rfl, rfl⟩ := q510
                                                                        refine Go.istore 223 rfl d3_221 (Ls' := #[.val (.ref a), .val (.ref t), .val (.int ix), .val (.long v495), .second, .val (.long v496), .second, .val (.int v506), .val (.int y511), .val (.int (1 : Int32)), .val (.long (0 : Int64)), .second, .unset]) rfl ?_
                                                                        refine Go.lload 225 rfl d3_223 rfl ?_
                                                                        refine Go.callS 228 rfl (C := B15) [.long v496] (rest := []) 85 86 3 87 (c15 Z hw h29 v496 ) d3_225 rfl rfl rfl rfl (by decide) pd15 rfl rfl rfl (W := 0) (Nat.le_of_ble_eq_true rfl) (by decide) (by decide) (by decide) (by decide) fun v512 h513 q514 => ?_
                                                                        obtain ⟨y515, rfl, rfl⟩ := q514
                                                                        refine Go.istore 230 rfl d3_228 (Ls' := #[.val (.ref a), .val (.ref t), .val (.int ix), .val (.long v495), .second, .val (.long v496), .second, .val (.int v506), .val (.int y511), .val (.int y515), .val (.long (0 : Int64)), .second, .unset]) rfl ?_
                                                                        refine Go.aloadN 231 rfl d3_230 rfl rfl ?_
                                                                        refine Go.getF 234 rfl (v := .ref ba) 15 d3_231 rfl F396 ?_
                                                                        refine Go.aloadN 235 rfl d3_234 rfl rfl ?_
                                                                        refine Go.getF 238 rfl (v := .int (3 : Int32)) 23 d3_235 rfl F397 ?_
                                                                        refine Go.iconst 239 rfl (1 : Int32) d3_238 rfl ?_
                                                                        refine Go.isub 240 rfl d3_239 ?_
                                                                        refine Go.laload 241 rfl (zs.getD 2 0) d3_240 A401 2 rfl (JL.get l404 (by decide)) ?_
                                                                        refine Go.nameJ fun v516 hv516 => ?_
                                                                        refine Go.callS 244 rfl (C := B15) [.long v516] (rest := []) 85 86 3 87 (c15 Z hw h29 v516 ) d3_241 rfl rfl rfl rfl (by decide) pd15 rfl rfl rfl (W := 0) (Nat.le_of_ble_eq_true rfl) (by decide) (by decide) (by decide) (by decide) fun v517 h518 q519 => ?_
                                                                        obtain ⟨y520, rfl, rfl⟩ := q519
                                                                        refine Go.istore 246 rfl d3_244 (Ls' := #[.val (.ref a), .val (.ref t), .val (.int ix), .val (.long v495), .second, .val (.long v496), .second, .val (.int v506), .val (.int y511), .val (.int y515), .val (.int y520), .unset, .unset]) rfl ?_
                                                                        refine Go.aloadN 247 rfl d3_246 rfl rfl ?_
                                                                        refine Go.getF 250 rfl (v := .int (3 : Int32)) 23 d3_247 rfl F397 ?_
                                                                        refine Go.iload 252 rfl d3_250 rfl ?_
                                                                        refine Go.iload 254 rfl d3_252 rfl ?_
                                                                        refine Go.iconst 255 rfl (0 : Int32) d3_254 rfl ?_
                                                                        refine Go.callS 258 rfl (C := B18) [.int (3 : Int32), .int y511, .int y515, .int (0 : Int32)] (rest := []) 97 98 3 99 (c18 Z hw h29 (3 : Int32) y511 y515 (0 : Int32) ) d3_255 rfl rfl rfl rfl (by decide) pd18 rfl rfl rfl (W := 0) (Nat.le_of_ble_eq_true rfl) (by decide) (by decide) (by decide) (by decide) fun v521 h522 q523 => ?_
                                                                        obtain ⟨y524, rfl, rfl⟩ := q523
                                                                        refine Go.iload 260 rfl d3_258 rfl ?_
                                                                        refine Go.callS 263 rfl (C := B20) [.int y524, .int y520] (rest := []) 103 104 3 105 (c20 Z hw h29 y524 y520 ) d3_260 rfl rfl rfl rfl (by decide) pd20 rfl rfl rfl (W := 0) (Nat.le_of_ble_eq_true rfl) (by decide) (by decide) (by decide) (by decide) fun v525 h526 q527 => ?_
                                                                        obtain ⟨y528, rfl, rfl⟩ := q527
                                                                        refine Go.joinI (pcJ := 271) (LsJ := #[.val (.ref a), .val (.ref t), .val (.int ix), .val (.long v495), .second, .val (.long v496), .second, .val (.int v506), .val (.int y511), .val (.int y515), .val (.int y520), .unset, .unset]) (stJ := []) (fun v => True) (fun J => ?_) (fun w3 _w3 => ?_)
                                                                        · refine Go.if_ne 270 266 d3_263 (by decide) rfl rfl (fun (b529 : ¬ y528 = 0) => ?_) (fun (b529 : y528 = 0) => ?_)
                                                                          · refine Go.iconst 271 rfl (0 : Int32) d3_270 rfl ?_
                                                                            exact J _ trivial
                                                                          · refine Go.iconst 267 rfl (1 : Int32) d3_266 rfl ?_
                                                                            refine Go.goto 271 d3_267 (by decide) (by decide) ?_
                                                                            exact J _ trivial
                                                                        · refine Go.istore 273 rfl d3_271 (Ls' := #[.val (.ref a), .val (.ref t), .val (.int ix), .val (.long v495), .second, .val (.long v496), .second, .val (.int v506), .val (.int y511), .val (.int y515), .val (.int y520), .val (.int w3), .unset]) rfl ?_
                                                                          refine Go.iload 275 rfl d3_273 rfl ?_
                                                                          refine cut (Go (Q3 Z t N h0) Z B3 0 0 h29 305 #[.val (.ref a), .val (.ref t), .val (.int ix), .val (.long v495), .second, .val (.long v496), .second, .val (.int v506), .val (.int y511), .val (.int y515), .val (.int y520), .val (.int w3), .unset] []) (fun J305 => ?_) (?_)
                                                                          · refine Go.if_eq 305 278 d3_275 (by decide) rfl rfl (fun (b530 : w3 = 0) => ?_) (fun (b530 : ¬ w3 = 0) => ?_)
                                                                            · exact J305 
                                                                            · refine Go.iload 280 rfl d3_278 rfl ?_
                                                                              refine Go.if_eq 303 283 d3_280 (by decide) rfl rfl (fun (b531 : v506 = 0) => ?_) (fun (b531 : ¬ v506 = 0) => ?_)
                                                                              · refine Go.iconst 304 rfl (0 : Int32) d3_303 rfl ?_
                                                                                exact Go.retN (t := .boolean) (z' := 0) d3_304 rfl (by decide) (by decide) (by decide) (by decide) ⟨0, ws33, rfl, K4, A36, l35, Or.inl ⟨rfl, hz0⟩⟩
                                                                              · refine Go.aloadN 284 rfl d3_283 rfl rfl ?_
                                                                                refine Go.getF 287 rfl (v := .int (3 : Int32)) 23 d3_284 rfl F397 ?_
                                                                                refine Go.iload 289 rfl d3_287 rfl ?_
                                                                                refine Go.iload 291 rfl d3_289 rfl ?_
                                                                                refine Go.iconst 292 rfl (1 : Int32) d3_291 rfl ?_
                                                                                refine Go.callS 295 rfl (C := B18) [.int (3 : Int32), .int y511, .int y515, .int (1 : Int32)] (rest := []) 97 98 3 99 (c18 Z hw h29 (3 : Int32) y511 y515 (1 : Int32) ) d3_292 rfl rfl rfl rfl (by decide) pd18 rfl rfl rfl (W := 0) (Nat.le_of_ble_eq_true rfl) (by decide) (by decide) (by decide) (by decide) fun v532 h533 q534 => ?_
                                                                                obtain ⟨y535, rfl, rfl⟩ := q534
                                                                                refine Go.iload 297 rfl d3_295 rfl ?_
                                                                                refine Go.callS 300 rfl (C := B20) [.int y535, .int y520] (rest := []) 103 104 3 105 (c20 Z hw h29 y535 y520 ) d3_297 rfl rfl rfl rfl (by decide) pd20 rfl rfl rfl (W := 0) (Nat.le_of_ble_eq_true rfl) (by decide) (by decide) (by decide) (by decide) fun v536 h537 q538 => ?_
                                                                                obtain ⟨y539, rfl, rfl⟩ := q538
                                                                                refine Go.if_ne 305 303 d3_300 (by decide) rfl rfl (fun (b540 : ¬ y539 = 0) => ?_) (fun (b540 : y539 = 0) => ?_)
                                                                                · exact J305 
                                                                                · refine Go.iconst 304 rfl (0 : Int32) d3_303 rfl ?_
                                                                                  exact Go.retN (t := .boolean) (z' := 0) d3_304 rfl (by decide) (by decide) (by decide) (by decide) ⟨0, ws33, rfl, K4, A36, l35, Or.inl ⟨rfl, hz0⟩⟩
                                                                          · refine Go.aloadN 306 rfl d3_305 rfl rfl ?_
                                                                            refine Go.iloadN 307 rfl d3_306 rfl ?_
                                                                            refine Go.iconst 308 rfl (1 : Int32) d3_307 rfl ?_
                                                                            refine Go.aloadN 309 rfl d3_308 rfl rfl ?_
                                                                            refine Go.getF 312 rfl (v := .int e0) 64 d3_309 rfl F398 ?_
                                                                            refine Go.aloadN 313 rfl d3_312 rfl rfl ?_
                                                                            refine Go.getF 316 rfl (v := .ref la) 13 d3_313 rfl F395 ?_
                                                                            refine Go.iconst 317 rfl (0 : Int32) d3_316 rfl ?_
                                                                            refine Go.iaload 318 rfl (ys.getD 0 0) d3_317 A400 0 rfl (IL.get l403 (by decide)) ?_
                                                                            refine Go.nameI fun v541 hv541 => ?_
                                                                            refine Go.iload 320 rfl d3_318 rfl ?_
                                                                            refine Go.iload 322 rfl d3_320 rfl ?_
                                                                            refine Go.iload 324 rfl d3_322 rfl ?_
                                                                            refine Go.callS 327 rfl (C := B21) [.int (1 : Int32), .int e0, .int v541, .int y511, .int y515, .int w3] (rest := [.int ix, .ref t]) 106 107 3 108 (c21 Z hw h29 (1 : Int32) e0 v541 y511 y515 w3 (by decide) (by decide)) d3_324 rfl rfl rfl rfl (by decide) pd21 rfl rfl rfl (W := 2) (Nat.le_of_ble_eq_true rfl) (by decide) (by decide) (by decide) (by decide) fun v542 h543 q544 => ?_
                                                                            obtain ⟨y545, rfl, rfl, p546⟩ := q544
                                                                            refine Go.stJ 328 rfl d3_327 A36 N hN (by simp only [List.length_map]; rw [l35]; omega) hgt fun h547 K548 A549 => ?_
                                                                            have A550 : Ary Z h547 t .long ((JL ws33).set N (.long y545)) := A549
                                                                            obtain ⟨ws551, e552⟩ : ∃ q, q = ws33.set N y545 := ⟨_, rfl⟩
                                                                            have l553 : ws551.length = 8 := by rw [e552]; exact own_set5 l35
                                                                            have A554 : Ary Z h547 t .long (JL ws551) := by rw [e552]; show Ary Z _ _ _ (List.map _ _); rw [List.map_set]; exact A550
                                                                            have g1 : ¬ ws551.getD N 0 &&& 7 = 0 := by rw [e552, own_setD l35 (by omega)]; exact p546
                                                                            have F555 : Exa Z h547 a "com/example/albatross/albatross/storage/ProducerState" := (E393.keep K548)
                                                                            have F556 : Fld Z h547 a "com/example/albatross/albatross/storage/ProducerState" "firstSequences" "[I" (.ref fa) := (F394.keep K548 (ninS nta nin0))
                                                                            have F557 : Fld Z h547 a "com/example/albatross/albatross/storage/ProducerState" "lastSequences" "[I" (.ref la) := (F395.keep K548 (ninS nta nin0))
                                                                            have F558 : Fld Z h547 a "com/example/albatross/albatross/storage/ProducerState" "baseOffsets" "[J" (.ref ba) := (F396.keep K548 (ninS nta nin0))
                                                                            have F559 : Fld Z h547 a "com/example/albatross/albatross/storage/ProducerState" "remembered" "I" (.int (3 : Int32)) := (F397.keep K548 (ninS nta nin0))
                                                                            have F560 : Fld Z h547 a "com/example/albatross/albatross/storage/ProducerState" "epoch" "S" (.int e0) := (F398.keep K548 (ninS nta nin0))
                                                                            have F561 : Ary Z h547 fa .int (IL xs) := (A399.keep K548 (ninS ntf nin0))
                                                                            have F562 : Ary Z h547 la .int (IL ys) := (A400.keep K548 (ninS ntl nin0))
                                                                            have F563 : Ary Z h547 ba .long (JL zs) := (A401.keep K548 (ninS ntb nin0))
                                                                            have S6 : ST Z h547 a fa la ba (3 : Int32) e0 xs ys zs := ⟨F555, F556, F557, F558, F559, F560, F561, F562, F563, l402, l403, l404⟩
                                                                            refine Go.aloadN 329 rfl d3_328 rfl rfl ?_
                                                                            refine Go.iloadN 330 rfl d3_329 rfl ?_
                                                                            refine Go.iconst 331 rfl (1 : Int32) d3_330 rfl ?_
                                                                            refine Go.iadd 332 rfl d3_331 ?_
                                                                            refine Go.aloadN 333 rfl d3_332 rfl rfl ?_
                                                                            refine Go.iconst 334 rfl (0 : Int32) d3_333 rfl ?_
                                                                            refine Go.callP2 337 rfl (C := B14) a [.int (0 : Int32)] (rest := [.int (ix + (1 : Int32)), .ref t]) 81 82 2 83 3 84 (c14 Z hw h547 a (0 : Int32) fa la ba (3 : Int32) e0 xs ys zs 0 rfl (by decide) P0 S6) F555 d3_334 rfl rfl rfl rfl rfl rfl (by decide) pd14 rfl rfl rfl (W := 2) (Nat.le_of_ble_eq_true rfl) (by decide) (by decide) (by decide) (by decide) fun v564 h565 q566 => ?_
                                                                            obtain ⟨y567, rfl, rfl⟩ := q566
                                                                            refine Go.i2l 338 rfl d3_337 ?_
                                                                            refine Go.aloadN 339 rfl d3_338 rfl rfl ?_
                                                                            refine Go.getF 342 rfl (v := .ref ba) 15 d3_339 rfl F558 ?_
                                                                            refine Go.iconst 343 rfl (0 : Int32) d3_342 rfl ?_
                                                                            refine Go.laload 344 rfl (zs.getD 0 0) d3_343 F563 0 rfl (JL.get l404 (by decide)) ?_
                                                                            refine Go.nameJ fun v568 hv568 => ?_
                                                                            refine Go.iload 346 rfl d3_344 rfl ?_
                                                                            refine Go.lshl 347 rfl d3_346 ?_
                                                                            refine Go.lor 348 rfl d3_347 ?_
                                                                            refine Go.nameJ fun v569 hv569 => ?_
                                                                            refine Go.stJ 349 rfl d3_348 A554 (N + 1) (own_sm hN (k := 1) rfl (by omega) (by decide)) (by simp only [List.length_map]; rw [l553]; omega) hgt fun h570 K571 A572 => ?_
                                                                            have A573 : Ary Z h570 t .long ((JL ws551).set (N + 1) (.long v569)) := A572
                                                                            obtain ⟨ws574, e575⟩ : ∃ q, q = ws551.set (N + 1) v569 := ⟨_, rfl⟩
                                                                            have l576 : ws574.length = 8 := by rw [e575]; exact own_set5 l553
                                                                            have A577 : Ary Z h570 t .long (JL ws574) := by rw [e575]; show Ary Z _ _ _ (List.map _ _); rw [List.map_set]; exact A573
                                                                            have F578 : Exa Z h570 a "com/example/albatross/albatross/storage/ProducerState" := (F555.keep K571)
                                                                            have F579 : Fld Z h570 a "com/example/albatross/albatross/storage/ProducerState" "firstSequences" "[I" (.ref fa) := (F556.keep K571 (ninS nta nin0))
                                                                            have F580 : Fld Z h570 a "com/example/albatross/albatross/storage/ProducerState" "lastSequences" "[I" (.ref la) := (F557.keep K571 (ninS nta nin0))
                                                                            have F581 : Fld Z h570 a "com/example/albatross/albatross/storage/ProducerState" "baseOffsets" "[J" (.ref ba) := (F558.keep K571 (ninS nta nin0))
                                                                            have F582 : Fld Z h570 a "com/example/albatross/albatross/storage/ProducerState" "remembered" "I" (.int (3 : Int32)) := (F559.keep K571 (ninS nta nin0))
                                                                            have F583 : Fld Z h570 a "com/example/albatross/albatross/storage/ProducerState" "epoch" "S" (.int e0) := (F560.keep K571 (ninS nta nin0))
                                                                            have F584 : Ary Z h570 fa .int (IL xs) := (F561.keep K571 (ninS ntf nin0))
                                                                            have F585 : Ary Z h570 la .int (IL ys) := (F562.keep K571 (ninS ntl nin0))
                                                                            have F586 : Ary Z h570 ba .long (JL zs) := (F563.keep K571 (ninS ntb nin0))
                                                                            have S7 : ST Z h570 a fa la ba (3 : Int32) e0 xs ys zs := ⟨F578, F579, F580, F581, F582, F583, F584, F585, F586, l402, l403, l404⟩
                                                                            refine Go.aloadN 350 rfl d3_349 rfl rfl ?_
                                                                            refine Go.iloadN 351 rfl d3_350 rfl ?_
                                                                            refine Go.iconst 352 rfl (2 : Int32) d3_351 rfl ?_
                                                                            refine Go.iadd 353 rfl d3_352 ?_
                                                                            refine Go.aloadN 354 rfl d3_353 rfl rfl ?_
                                                                            refine Go.getF 357 rfl (v := .ref ba) 15 d3_354 rfl F581 ?_
                                                                            refine Go.iconst 358 rfl (0 : Int32) d3_357 rfl ?_
                                                                            refine Go.laload 359 rfl (zs.getD 0 0) d3_358 F586 0 rfl (JL.get l404 (by decide)) ?_
                                                                            refine Go.nameJ fun v587 hv587 => ?_
                                                                            refine Go.iconst 360 rfl (1 : Int32) d3_359 rfl ?_
                                                                            refine Go.lushr 361 rfl d3_360 ?_
                                                                            refine Go.bipush 363 rfl (63 : Int32) d3_361 rfl ?_
                                                                            refine Go.iload 365 rfl d3_363 rfl ?_
                                                                            refine Go.isub 366 rfl d3_365 ?_
                                                                            refine Go.lushr 367 rfl d3_366 ?_
                                                                            refine Go.nameJ fun v588 hv588 => ?_
                                                                            refine Go.stJ 368 rfl d3_367 A577 (N + 2) (own_sm hN (k := 2) rfl (by omega) (by decide)) (by simp only [List.length_map]; rw [l576]; omega) hgt fun h589 K590 A591 => ?_
                                                                            have A592 : Ary Z h589 t .long ((JL ws574).set (N + 2) (.long v588)) := A591
                                                                            obtain ⟨ws593, e594⟩ : ∃ q, q = ws574.set (N + 2) v588 := ⟨_, rfl⟩
                                                                            have l595 : ws593.length = 8 := by rw [e594]; exact own_set5 l576
                                                                            have A596 : Ary Z h589 t .long (JL ws593) := by rw [e594]; show Ary Z _ _ _ (List.map _ _); rw [List.map_set]; exact A592
                                                                            have F597 : Exa Z h589 a "com/example/albatross/albatross/storage/ProducerState" := (F578.keep K590)
                                                                            have F598 : Fld Z h589 a "com/example/albatross/albatross/storage/ProducerState" "firstSequences" "[I" (.ref fa) := (F579.keep K590 (ninS nta nin0))
                                                                            have F599 : Fld Z h589 a "com/example/albatross/albatross/storage/ProducerState" "lastSequences" "[I" (.ref la) := (F580.keep K590 (ninS nta nin0))
                                                                            have F600 : Fld Z h589 a "com/example/albatross/albatross/storage/ProducerState" "baseOffsets" "[J" (.ref ba) := (F581.keep K590 (ninS nta nin0))
                                                                            have F601 : Fld Z h589 a "com/example/albatross/albatross/storage/ProducerState" "remembered" "I" (.int (3 : Int32)) := (F582.keep K590 (ninS nta nin0))
                                                                            have F602 : Fld Z h589 a "com/example/albatross/albatross/storage/ProducerState" "epoch" "S" (.int e0) := (F583.keep K590 (ninS nta nin0))
                                                                            have F603 : Ary Z h589 fa .int (IL xs) := (F584.keep K590 (ninS ntf nin0))
                                                                            have F604 : Ary Z h589 la .int (IL ys) := (F585.keep K590 (ninS ntl nin0))
                                                                            have F605 : Ary Z h589 ba .long (JL zs) := (F586.keep K590 (ninS ntb nin0))
                                                                            have S8 : ST Z h589 a fa la ba (3 : Int32) e0 xs ys zs := ⟨F597, F598, F599, F600, F601, F602, F603, F604, F605, l402, l403, l404⟩
                                                                            have g2 : ¬ ws593.getD N 0 &&& 7 = 0 := by rw [e594, own_setN (by omega), e575, own_setN (by omega)]; exact g1
                                                                            refine Go.iconst 369 rfl (1 : Int32) d3_368 rfl ?_
                                                                            refine Go.istore 371 rfl d3_369 (Ls' := #[.val (.ref a), .val (.ref t), .val (.int ix), .val (.long v495), .second, .val (.long v496), .second, .val (.int v506), .val (.int y511), .val (.int y515), .val (.int y520), .val (.int w3), .val (.int (1 : Int32))]) rfl ?_
                                                                            refine Go.iload 373 rfl d3_371 rfl ?_
                                                                            refine Go.aloadN 374 rfl d3_373 rfl rfl ?_
                                                                            refine Go.getF 377 rfl (v := .int (3 : Int32)) 23 d3_374 rfl F601 ?_
                                                                            refine Go.icmp_ge 405 380 d3_377 (by decide) rfl rfl (fun (b606 : ¬ (1 : Int32) < (3 : Int32)) => ?_) (fun (b606 : (1 : Int32) < (3 : Int32)) => ?_)
                                                                            · exact absurd (show (1 : Int32) < (3 : Int32) from by decide) b606
                                                                            · refine Go.aloadN 381 rfl d3_380 rfl rfl ?_
                                                                              refine Go.iloadN 382 rfl d3_381 rfl ?_
                                                                              refine Go.aloadN 383 rfl d3_382 rfl rfl ?_
                                                                              refine Go.iload 385 rfl d3_383 rfl ?_
                                                                              refine Go.callP2 388 rfl (C := B14) a [.int (1 : Int32)] (rest := [.int ix, .ref t]) 81 82 2 83 3 84 (c14 Z hw h589 a (1 : Int32) fa la ba (3 : Int32) e0 xs ys zs 1 rfl (by decide) P0 S8) F597 d3_385 rfl rfl rfl rfl rfl rfl (by decide) pd14 rfl rfl rfl (W := 2) (Nat.le_of_ble_eq_true rfl) (by decide) (by decide) (by decide) (by decide) fun v607 h608 q609 => ?_
                                                                              obtain ⟨y610, rfl, rfl⟩ := q609
                                                                              refine Go.aloadN 389 rfl d3_388 rfl rfl ?_
                                                                              refine Go.getF 392 rfl (v := .ref ba) 15 d3_389 rfl F600 ?_
                                                                              refine Go.iload 394 rfl d3_392 rfl ?_
                                                                              refine Go.laload 395 rfl (zs.getD 1 0) d3_394 F605 1 rfl (JL.get l404 (by decide)) ?_
                                                                              refine Go.nameJ fun v611 hv611 => ?_
                                                                              refine Go.callS 398 rfl (C := B22) [.ref t, .int ix, .int y610, .long v611] (rest := []) 110 111 3 112 (c22 Z hw h589 t ix y610 v611 ws593 N hN hN3 l595 A596 hgt) d3_395 rfl rfl rfl rfl (by decide) pd22 rfl rfl rfl (W := 0) (Nat.le_of_ble_eq_true rfl) (by decide) (by decide) (by decide) (by decide) fun v612 h613 q614 => ?_
                                                                              obtain ⟨r615, ws616, rfl, K617, A618, l619, D620⟩ := q614
                                                                              have g621 : ¬ ws616.getD N 0 &&& 7 = 0 := by rcases D620 with q | q; (rw [q]; exact g2); exact q
                                                                              have F622 : Exa Z h613 a "com/example/albatross/albatross/storage/ProducerState" := (F597.keep K617)
                                                                              have F623 : Fld Z h613 a "com/example/albatross/albatross/storage/ProducerState" "firstSequences" "[I" (.ref fa) := (F598.keep K617 (ninS nta nin0))
                                                                              have F624 : Fld Z h613 a "com/example/albatross/albatross/storage/ProducerState" "lastSequences" "[I" (.ref la) := (F599.keep K617 (ninS nta nin0))
                                                                              have F625 : Fld Z h613 a "com/example/albatross/albatross/storage/ProducerState" "baseOffsets" "[J" (.ref ba) := (F600.keep K617 (ninS nta nin0))
                                                                              have F626 : Fld Z h613 a "com/example/albatross/albatross/storage/ProducerState" "remembered" "I" (.int (3 : Int32)) := (F601.keep K617 (ninS nta nin0))
                                                                              have F627 : Fld Z h613 a "com/example/albatross/albatross/storage/ProducerState" "epoch" "S" (.int e0) := (F602.keep K617 (ninS nta nin0))
                                                                              have F628 : Ary Z h613 fa .int (IL xs) := (F603.keep K617 (ninS ntf nin0))
                                                                              have F629 : Ary Z h613 la .int (IL ys) := (F604.keep K617 (ninS ntl nin0))
                                                                              have F630 : Ary Z h613 ba .long (JL zs) := (F605.keep K617 (ninS ntb nin0))
                                                                              have S9 : ST Z h613 a fa la ba (3 : Int32) e0 xs ys zs := ⟨F622, F623, F624, F625, F626, F627, F628, F629, F630, l402, l403, l404⟩
                                                                              refine Go.pop 399 rfl d3_398 rfl ?_
                                                                              refine Go.iinc 402 rfl (1 : Int32) d3_399 rfl rfl (Ls' := #[.val (.ref a), .val (.ref t), .val (.int ix), .val (.long v495), .second, .val (.long v496), .second, .val (.int v506), .val (.int y511), .val (.int y515), .val (.int y520), .val (.int w3), .val (.int ((1 : Int32) + (1 : Int32)))]) rfl ?_
                                                                              refine Go.goto 371 d3_402 (by decide) (by decide) ?_
                                                                              refine Go.iload 373 rfl d3_371 rfl ?_
                                                                              refine Go.aloadN 374 rfl d3_373 rfl rfl ?_
                                                                              refine Go.getF 377 rfl (v := .int (3 : Int32)) 23 d3_374 rfl F626 ?_
                                                                              refine Go.icmp_ge 405 380 d3_377 (by decide) rfl rfl (fun (b631 : ¬ ((1 : Int32) + (1 : Int32)) < (3 : Int32)) => ?_) (fun (b631 : ((1 : Int32) + (1 : Int32)) < (3 : Int32)) => ?_)
                                                                              · exact absurd (show ((1 : Int32) + (1 : Int32)) < (3 : Int32) from by decide) b631
                                                                              · refine Go.aloadN 381 rfl d3_380 rfl rfl ?_
                                                                                refine Go.iloadN 382 rfl d3_381 rfl ?_
                                                                                refine Go.aloadN 383 rfl d3_382 rfl rfl ?_
                                                                                refine Go.iload 385 rfl d3_383 rfl ?_
                                                                                refine Go.callP2 388 rfl (C := B14) a [.int ((1 : Int32) + (1 : Int32))] (rest := [.int ix, .ref t]) 81 82 2 83 3 84 (c14 Z hw h613 a ((1 : Int32) + (1 : Int32)) fa la ba (3 : Int32) e0 xs ys zs 2 rfl (by decide) P0 S9) F622 d3_385 rfl rfl rfl rfl rfl rfl (by decide) pd14 rfl rfl rfl (W := 2) (Nat.le_of_ble_eq_true rfl) (by decide) (by decide) (by decide) (by decide) fun v632 h633 q634 => ?_
                                                                                obtain ⟨y635, rfl, rfl⟩ := q634
                                                                                refine Go.aloadN 389 rfl d3_388 rfl rfl ?_
                                                                                refine Go.getF 392 rfl (v := .ref ba) 15 d3_389 rfl F625 ?_
                                                                                refine Go.iload 394 rfl d3_392 rfl ?_
                                                                                refine Go.laload 395 rfl (zs.getD 2 0) d3_394 F630 2 rfl (JL.get l404 (by decide)) ?_
                                                                                refine Go.nameJ fun v636 hv636 => ?_
                                                                                refine Go.callS 398 rfl (C := B22) [.ref t, .int ix, .int y635, .long v636] (rest := []) 110 111 3 112 (c22 Z hw h613 t ix y635 v636 ws616 N hN hN3 l619 A618 hgt) d3_395 rfl rfl rfl rfl (by decide) pd22 rfl rfl rfl (W := 0) (Nat.le_of_ble_eq_true rfl) (by decide) (by decide) (by decide) (by decide) fun v637 h638 q639 => ?_
                                                                                obtain ⟨r640, ws641, rfl, K642, A643, l644, D645⟩ := q639
                                                                                have g646 : ¬ ws641.getD N 0 &&& 7 = 0 := by rcases D645 with q | q; (rw [q]; exact g621); exact q
                                                                                have F647 : Exa Z h638 a "com/example/albatross/albatross/storage/ProducerState" := (F622.keep K642)
                                                                                have F648 : Fld Z h638 a "com/example/albatross/albatross/storage/ProducerState" "firstSequences" "[I" (.ref fa) := (F623.keep K642 (ninS nta nin0))
                                                                                have F649 : Fld Z h638 a "com/example/albatross/albatross/storage/ProducerState" "lastSequences" "[I" (.ref la) := (F624.keep K642 (ninS nta nin0))
                                                                                have F650 : Fld Z h638 a "com/example/albatross/albatross/storage/ProducerState" "baseOffsets" "[J" (.ref ba) := (F625.keep K642 (ninS nta nin0))
                                                                                have F651 : Fld Z h638 a "com/example/albatross/albatross/storage/ProducerState" "remembered" "I" (.int (3 : Int32)) := (F626.keep K642 (ninS nta nin0))
                                                                                have F652 : Fld Z h638 a "com/example/albatross/albatross/storage/ProducerState" "epoch" "S" (.int e0) := (F627.keep K642 (ninS nta nin0))
                                                                                have F653 : Ary Z h638 fa .int (IL xs) := (F628.keep K642 (ninS ntf nin0))
                                                                                have F654 : Ary Z h638 la .int (IL ys) := (F629.keep K642 (ninS ntl nin0))
                                                                                have F655 : Ary Z h638 ba .long (JL zs) := (F630.keep K642 (ninS ntb nin0))
                                                                                have S10 : ST Z h638 a fa la ba (3 : Int32) e0 xs ys zs := ⟨F647, F648, F649, F650, F651, F652, F653, F654, F655, l402, l403, l404⟩
                                                                                refine Go.pop 399 rfl d3_398 rfl ?_
                                                                                refine Go.iinc 402 rfl (1 : Int32) d3_399 rfl rfl (Ls' := #[.val (.ref a), .val (.ref t), .val (.int ix), .val (.long v495), .second, .val (.long v496), .second, .val (.int v506), .val (.int y511), .val (.int y515), .val (.int y520), .val (.int w3), .val (.int (((1 : Int32) + (1 : Int32)) + (1 : Int32)))]) rfl ?_
                                                                                refine Go.goto 371 d3_402 (by decide) (by decide) ?_
                                                                                refine Go.iload 373 rfl d3_371 rfl ?_
                                                                                refine Go.aloadN 374 rfl d3_373 rfl rfl ?_
                                                                                refine Go.getF 377 rfl (v := .int (3 : Int32)) 23 d3_374 rfl F651 ?_
                                                                                refine Go.icmp_ge 405 380 d3_377 (by decide) rfl rfl (fun (b656 : ¬ (((1 : Int32) + (1 : Int32)) + (1 : Int32)) < (3 : Int32)) => ?_) (fun (b656 : (((1 : Int32) + (1 : Int32)) + (1 : Int32)) < (3 : Int32)) => ?_)
                                                                                · refine Go.iconst 406 rfl (1 : Int32) d3_405 rfl ?_
                                                                                  exact Go.retN (t := .boolean) (z' := 1) d3_406 rfl (by decide) (by decide) (by decide) (by decide) ⟨1, ws641, rfl, ((((((((((Keep.refl h0 [t]).trans K3 (by simp)).trans K12 (by simp)).trans K21 (by simp)).trans K30 (by simp)).trans K548 (by simp)).trans K571 (by simp)).trans K590 (by simp)).trans K617 (by simp)).trans K642 (by simp)), A643, l644, Or.inr ⟨rfl, g646⟩⟩
                                                                                · exact absurd b656 (show ¬ (((1 : Int32) + (1 : Int32)) + (1 : Int32)) < (3 : Int32) from by decide)
                                                                      · exact absurd b507 (show ¬ ((((0 : Int32) + (1 : Int32)) + (1 : Int32)) + (1 : Int32)) < (3 : Int32) from by decide)
                                                                  · exact absurd b490 (show ¬ (1 : Int32) = 0 from by decide)
                                                    · refine Go.iconst 169 rfl (0 : Int32) d3_168 rfl ?_
                                                      exact Go.retN (t := .boolean) (z' := 0) d3_169 rfl (by decide) (by decide) (by decide) (by decide) ⟨0, ws33, rfl, K4, A36, l35, Or.inl ⟨rfl, hz0⟩⟩
                                          · exact absurd (show (0 : Int32) = 0 from by decide) b449
                                        · exact absurd b448 (show ¬ ((0 : Int32) + (1 : Int32)) = ((3 : Int32) - (1 : Int32)) from by decide)
                                  · refine Go.iconst 169 rfl (0 : Int32) d3_168 rfl ?_
                                    exact Go.retN (t := .boolean) (z' := 0) d3_169 rfl (by decide) (by decide) (by decide) (by decide) ⟨0, ws33, rfl, K4, A36, l35, Or.inl ⟨rfl, hz0⟩⟩
                        · exact absurd (show (0 : Int32) = 0 from by decide) b412
                      · exact absurd b411 (show ¬ (0 : Int32) = ((3 : Int32) - (1 : Int32)) from by decide)
                  · refine Go.iconst 47 rfl (0 : Int32) d3_46 rfl ?_
                    exact Go.retN (t := .boolean) (z' := 0) d3_47 rfl (by decide) (by decide) (by decide) (by decide) ⟨0, ws33, rfl, K4, A36, l35, Or.inl ⟨rfl, hz0⟩⟩
          · exact absurd b37 (own_nlt4 hN hN3 iv4)
theorem pn0 : plainFor (⟨"com/example/albatross/albatross/storage/ProducerStateIsPackedPinLaw", "law", "(IIIJJI)Z"⟩ : MethodName) = true := by first | (refine plainFor_of_name ?_; simp [plainName, overriddenIn]; done) | (refine plainFor_of_name ?_; decide +kernel) | decide +kernel
abbrev B0 : Bd := (x, code, maxLocals, ret, room_1, tables_1)
theorem ef0 (mid : MethodId) (p1 : Int32) (p2 : Int32) (p3 : Int32) (p4 : Int64) (p5 : Int64) (p6 : Int32) : entryFrame mid (List.toArray [.int p1, .int p2, .int p3, .long p4, .long p5, .int p6]) maxLocals = mkF mid 0 #[.val (.int p1), .val (.int p2), .val (.int p3), .val (.long p4), .second, .val (.long p5), .second, .val (.int p6), .unset, .unset, .unset, .unset, .unset, .unset, .unset, .unset, .unset, .unset, .unset, .unset, .unset, .unset, .unset, .unset, .unset, .unset, .unset, .unset, .unset, .unset, .unset, .unset] [] := by first | (simp [entryFrame, mkF, argsToLocals, Value.category, maxLocals]; done) | rfl
def Q0  (v : Option Value) (h : Heap) : Prop := v = some (.int 1)
set_option maxRecDepth 65536 in
set_option maxHeartbeats 40000000 in
theorem c0 (Z : State) (hw : Wd Z tables_1) (h0 : Heap) (p1 : Int32) (p2 : Int32) (p3 : Int32) (p4 : Int64) (p5 : Int64) (p6 : Int32)  (sa : Addr) (so : Addr) (si : Addr) (oa : Addr) (oo : Addr) (oi : Addr) (hv : Ev1 Z sa so si oa oo oi) : Con Z B0 (List.toArray [.int p1, .int p2, .int p3, .long p4, .long p5, .int p6]) h0 (Q0 ) := by
  refine Con.mk hw pn0 (fun mid => ef0 mid p1 p2 p3 p4 p5 p6) (Go.old fun hle' => ?_)
  have hle := hle'.1
  obtain ⟨vS1, vE1, vF1, vS2, vE2, vF2, vS3, vE3, vF3, vS4⟩ := id hv
  refine Go.iloadN 1 rfl at_0 rfl ?_
  refine Go.iconst 2 rfl (3 : Int32) at_1 rfl ?_
  refine Go.iand 3 rfl at_2 ?_
  refine Go.nameI fun v1 hv1 => ?_
  refine Go.istore 5 rfl at_3 (Ls' := #[.val (.int p1), .val (.int p2), .val (.int p3), .val (.long p4), .second, .val (.long p5), .second, .val (.int p6), .val (.int v1), .unset, .unset, .unset, .unset, .unset, .unset, .unset, .unset, .unset, .unset, .unset, .unset, .unset, .unset, .unset, .unset, .unset, .unset, .unset, .unset, .unset, .unset, .unset]) rfl ?_
  refine Go.iloadN 6 rfl at_5 rfl ?_
  refine Go.iconst 7 rfl (2 : Int32) at_6 rfl ?_
  refine Go.iushr 8 rfl at_7 ?_
  refine Go.iconst 9 rfl (3 : Int32) at_8 rfl ?_
  refine Go.iand 10 rfl at_9 ?_
  refine Go.nameI fun v2 hv2 => ?_
  refine Go.istore 12 rfl at_10 (Ls' := #[.val (.int p1), .val (.int p2), .val (.int p3), .val (.long p4), .second, .val (.long p5), .second, .val (.int p6), .val (.int v1), .val (.int v2), .unset, .unset, .unset, .unset, .unset, .unset, .unset, .unset, .unset, .unset, .unset, .unset, .unset, .unset, .unset, .unset, .unset, .unset, .unset, .unset, .unset, .unset]) rfl ?_
  refine Go.lload 14 rfl at_12 rfl ?_
  refine Go.lconst 15 rfl (1 : Int64) at_14 rfl ?_
  refine Go.lor 16 rfl at_15 ?_
  refine Go.nameJ fun v3 hv3 => ?_
  refine Go.lstore 18 rfl at_16 (Ls' := #[.val (.int p1), .val (.int p2), .val (.int p3), .val (.long p4), .second, .val (.long p5), .second, .val (.int p6), .val (.int v1), .val (.int v2), .val (.long v3), .second, .unset, .unset, .unset, .unset, .unset, .unset, .unset, .unset, .unset, .unset, .unset, .unset, .unset, .unset, .unset, .unset, .unset, .unset, .unset, .unset]) rfl ?_
  refine Go.bipush 20 rfl (8 : Int32) at_18 rfl ?_
  refine Go.newA 22 rfl 0 8 8 at_20 rfl rfl (by decide) (by decide) (by decide) (by decide) fun h5 a4 g6 z7 K8 A9 E10 => ?_
  have A11 : Ary Z h5 a4 .long [.long 0, .long 0, .long 0, .long 0, .long 0, .long 0, .long 0, .long 0] := A9
  refine Go.astore 24 rfl at_22 rfl (Ls' := #[.val (.int p1), .val (.int p2), .val (.int p3), .val (.long p4), .second, .val (.long p5), .second, .val (.int p6), .val (.int v1), .val (.int v2), .val (.long v3), .second, .val (.ref a4), .unset, .unset, .unset, .unset, .unset, .unset, .unset, .unset, .unset, .unset, .unset, .unset, .unset, .unset, .unset, .unset, .unset, .unset, .unset]) rfl ?_
  refine Go.aload 26 rfl at_24 rfl rfl ?_
  refine Go.iconst 27 rfl (0 : Int32) at_26 rfl ?_
  refine Go.lload 29 rfl at_27 rfl ?_
  refine Go.stJ 30 rfl at_29 A11 0 rfl (Nat.le_of_ble_eq_true rfl) z7 fun h12 K13 A14 => ?_
  have A15 : Ary Z h12 a4 .long [.long v3, .long 0, .long 0, .long 0, .long 0, .long 0, .long 0, .long 0] := A14
  refine Go.aload 32 rfl at_30 rfl rfl ?_
  refine Go.iconst 33 rfl (1 : Int32) at_32 rfl ?_
  refine Go.lload 35 rfl at_33 rfl ?_
  refine Go.stJ 36 rfl at_35 A15 1 rfl (Nat.le_of_ble_eq_true rfl) z7 fun h16 K17 A18 => ?_
  have A19 : Ary Z h16 a4 .long [.long v3, .long v3, .long 0, .long 0, .long 0, .long 0, .long 0, .long 0] := A18
  refine Go.aload 38 rfl at_36 rfl rfl ?_
  refine Go.iconst 39 rfl (2 : Int32) at_38 rfl ?_
  refine Go.lload 41 rfl at_39 rfl ?_
  refine Go.stJ 42 rfl at_41 A19 2 rfl (Nat.le_of_ble_eq_true rfl) z7 fun h20 K21 A22 => ?_
  have A23 : Ary Z h20 a4 .long [.long v3, .long v3, .long v3, .long 0, .long 0, .long 0, .long 0, .long 0] := A22
  refine Go.aload 44 rfl at_42 rfl rfl ?_
  refine Go.iconst 45 rfl (3 : Int32) at_44 rfl ?_
  refine Go.lload 47 rfl at_45 rfl ?_
  refine Go.stJ 48 rfl at_47 A23 3 rfl (Nat.le_of_ble_eq_true rfl) z7 fun h24 K25 A26 => ?_
  have A27 : Ary Z h24 a4 .long [.long v3, .long v3, .long v3, .long v3, .long 0, .long 0, .long 0, .long 0] := A26
  refine Go.aload 50 rfl at_48 rfl rfl ?_
  refine Go.iconst 51 rfl (4 : Int32) at_50 rfl ?_
  refine Go.lload 53 rfl at_51 rfl ?_
  refine Go.stJ 54 rfl at_53 A27 4 rfl (Nat.le_of_ble_eq_true rfl) z7 fun h28 K29 A30 => ?_
  have A31 : Ary Z h28 a4 .long [.long v3, .long v3, .long v3, .long v3, .long v3, .long 0, .long 0, .long 0] := A30
  refine Go.aload 56 rfl at_54 rfl rfl ?_
  refine Go.iconst 57 rfl (5 : Int32) at_56 rfl ?_
  refine Go.lload 59 rfl at_57 rfl ?_
  refine Go.stJ 60 rfl at_59 A31 5 rfl (Nat.le_of_ble_eq_true rfl) z7 fun h32 K33 A34 => ?_
  have A35 : Ary Z h32 a4 .long [.long v3, .long v3, .long v3, .long v3, .long v3, .long v3, .long 0, .long 0] := A34
  refine Go.aload 62 rfl at_60 rfl rfl ?_
  refine Go.bipush 64 rfl (6 : Int32) at_62 rfl ?_
  refine Go.lload 66 rfl at_64 rfl ?_
  refine Go.stJ 67 rfl at_66 A35 6 rfl (Nat.le_of_ble_eq_true rfl) z7 fun h36 K37 A38 => ?_
  have A39 : Ary Z h36 a4 .long [.long v3, .long v3, .long v3, .long v3, .long v3, .long v3, .long v3, .long 0] := A38
  refine Go.aload 69 rfl at_67 rfl rfl ?_
  refine Go.bipush 71 rfl (7 : Int32) at_69 rfl ?_
  refine Go.lload 73 rfl at_71 rfl ?_
  refine Go.stJ 74 rfl at_73 A39 7 rfl (Nat.le_of_ble_eq_true rfl) z7 fun h40 K41 A42 => ?_
  have A43 : Ary Z h40 a4 .long [.long v3, .long v3, .long v3, .long v3, .long v3, .long v3, .long v3, .long v3] := A42
  refine Go.newO 77 rfl 1 2 3 at_74 rfl rfl rfl (by decide) (by decide) fun h45 a44 g46 z47 K48 E49 D50 => ?_
  refine Go.dup 78 rfl at_77 rfl ?_
  refine Go.callI 81 rfl (C := B1) a44 [] (rest := [.ref a44]) 4 5 3 6 (c1 Z hw h45 a44 z47 E49 (D50 12 (Or.inr rfl) (ty := (.array .int)) (by decide) : Fld Z h45 a44 "com/example/albatross/albatross/storage/ProducerState" "firstSequences" "[I" (.null)) (D50 14 (Or.inr rfl) (ty := (.array .int)) (by decide) : Fld Z h45 a44 "com/example/albatross/albatross/storage/ProducerState" "lastSequences" "[I" (.null)) (D50 16 (Or.inr rfl) (ty := (.array .long)) (by decide) : Fld Z h45 a44 "com/example/albatross/albatross/storage/ProducerState" "baseOffsets" "[J" (.null)) (D50 24 (Or.inl rfl) (ty := .int) (by decide) : Fld Z h45 a44 "com/example/albatross/albatross/storage/ProducerState" "remembered" "I" (.int (0 : Int32))) (D50 65 (Or.inl rfl) (ty := .short) (by decide) : Fld Z h45 a44 "com/example/albatross/albatross/storage/ProducerState" "epoch" "S" (.int (0 : Int32)))) at_78 rfl rfl rfl rfl rfl rfl (by decide) pd1 rfl rfl rfl (W := 1) (Nat.le_of_ble_eq_true rfl) (by decide) (by decide) (by decide) (by decide) fun v51 h52 q53 => ?_
  obtain ⟨rfl, fa, la, ba, K0, gf, gl, gb, P0, S⟩ := q53
  have z54 : Z.heap.size ≤ fa := Nat.le_trans (Nat.le_trans (Nat.le_trans (Nat.le_trans (Nat.le_trans (Nat.le_trans (Nat.le_trans (Nat.le_trans (Nat.le_trans (Nat.le_trans (Nat.le_trans hle K8.1) K13.1) K17.1) K21.1) K25.1) K29.1) K33.1) K37.1) K41.1) K48.1) gf
  have z55 : Z.heap.size ≤ la := Nat.le_trans (Nat.le_trans (Nat.le_trans (Nat.le_trans (Nat.le_trans (Nat.le_trans (Nat.le_trans (Nat.le_trans (Nat.le_trans (Nat.le_trans (Nat.le_trans hle K8.1) K13.1) K17.1) K21.1) K25.1) K29.1) K33.1) K37.1) K41.1) K48.1) gl
  have z56 : Z.heap.size ≤ ba := Nat.le_trans (Nat.le_trans (Nat.le_trans (Nat.le_trans (Nat.le_trans (Nat.le_trans (Nat.le_trans (Nat.le_trans (Nat.le_trans (Nat.le_trans (Nat.le_trans hle K8.1) K13.1) K17.1) K21.1) K25.1) K29.1) K33.1) K37.1) K41.1) K48.1) gb
  have ne57 : a4 ≠ a44 := (show @Ne Nat a4 a44 from by have := ltN A43.lt; have := g46; omega)
  have ne58 : a4 ≠ fa := (show @Ne Nat a4 fa from by have := ltN A43.lt; have := K48.1; have := gf; omega)
  have ne59 : a4 ≠ la := (show @Ne Nat a4 la from by have := ltN A43.lt; have := K48.1; have := gl; omega)
  have ne60 : a4 ≠ ba := (show @Ne Nat a4 ba from by have := ltN A43.lt; have := K48.1; have := gb; omega)
  have F61 : Ary Z h52 a4 .long [.long v3, .long v3, .long v3, .long v3, .long v3, .long v3, .long v3, .long v3] := ((A43.keep K48 nin0).keep K0 (ninS ne57 nin0))
  have At : Ary Z h52 a4 .long (JL [v3, v3, v3, v3, v3, v3, v3, v3]) := F61
  refine Go.astore 83 rfl at_81 rfl (Ls' := #[.val (.int p1), .val (.int p2), .val (.int p3), .val (.long p4), .second, .val (.long p5), .second, .val (.int p6), .val (.int v1), .val (.int v2), .val (.long v3), .second, .val (.ref a4), .val (.ref a44), .unset, .unset, .unset, .unset, .unset, .unset, .unset, .unset, .unset, .unset, .unset, .unset, .unset, .unset, .unset, .unset, .unset, .unset]) rfl ?_
  refine Go.iload 85 rfl at_83 rfl ?_
  refine Go.i2s 86 rfl at_85 ?_
  refine Go.nameI fun v62 hv62 => ?_
  refine Go.istore 88 rfl at_86 (Ls' := #[.val (.int p1), .val (.int p2), .val (.int p3), .val (.long p4), .second, .val (.long p5), .second, .val (.int p6), .val (.int v1), .val (.int v2), .val (.long v3), .second, .val (.ref a4), .val (.ref a44), .val (.int v62), .unset, .unset, .unset, .unset, .unset, .unset, .unset, .unset, .unset, .unset, .unset, .unset, .unset, .unset, .unset, .unset, .unset]) rfl ?_
  refine Go.iloadN 89 rfl at_88 rfl ?_
  refine Go.bipush 91 rfl (9 : Int32) at_89 rfl ?_
  refine Go.iushr 92 rfl at_91 ?_
  refine Go.iconst 93 rfl (1 : Int32) at_92 rfl ?_
  refine Go.iand 94 rfl at_93 ?_
  refine Go.joinI (pcJ := 108) (LsJ := #[.val (.int p1), .val (.int p2), .val (.int p3), .val (.long p4), .second, .val (.long p5), .second, .val (.int p6), .val (.int v1), .val (.int v2), .val (.long v3), .second, .val (.ref a4), .val (.ref a44), .val (.int v62), .unset, .unset, .unset, .unset, .unset, .unset, .unset, .unset, .unset, .unset, .unset, .unset, .unset, .unset, .unset, .unset, .unset]) (stJ := []) (fun v => True) (fun J => ?_) (fun e2 _e2 => ?_)
  · refine Go.if_eq 106 97 at_94 (by decide) rfl rfl (fun (b63 : ((XT.ushr p1 (9 : Int32)) &&& (1 : Int32)) = 0) => ?_) (fun (b63 : ¬ ((XT.ushr p1 (9 : Int32)) &&& (1 : Int32)) = 0) => ?_)
    · refine Go.iload 108 rfl at_106 rfl ?_
      exact J _ trivial
    · refine Go.iload 99 rfl at_97 rfl ?_
      refine Go.bipush 101 rfl (16 : Int32) at_99 rfl ?_
      refine Go.iushr 102 rfl at_101 ?_
      refine Go.i2s 103 rfl at_102 ?_
      refine Go.goto 108 at_103 (by decide) (by decide) ?_
      exact J _ trivial
  · refine Go.istore 110 rfl at_108 (Ls' := #[.val (.int p1), .val (.int p2), .val (.int p3), .val (.long p4), .second, .val (.long p5), .second, .val (.int p6), .val (.int v1), .val (.int v2), .val (.long v3), .second, .val (.ref a4), .val (.ref a44), .val (.int v62), .val (.int e2), .unset, .unset, .unset, .unset, .unset, .unset, .unset, .unset, .unset, .unset, .unset, .unset, .unset, .unset, .unset, .unset]) rfl ?_
    refine Go.iloadN 111 rfl at_110 rfl ?_
    refine Go.iconst 112 rfl (4 : Int32) at_111 rfl ?_
    refine Go.iushr 113 rfl at_112 ?_
    refine Go.iconst 114 rfl (1 : Int32) at_113 rfl ?_
    refine Go.iand 115 rfl at_114 ?_
    refine Go.joinI (pcJ := 126) (LsJ := #[.val (.int p1), .val (.int p2), .val (.int p3), .val (.long p4), .second, .val (.long p5), .second, .val (.int p6), .val (.int v1), .val (.int v2), .val (.long v3), .second, .val (.ref a4), .val (.ref a44), .val (.int v62), .val (.int e2), .unset, .unset, .unset, .unset, .unset, .unset, .unset, .unset, .unset, .unset, .unset, .unset, .unset, .unset, .unset, .unset]) (stJ := []) (fun v => True) (fun J => ?_) (fun f1 _f1 => ?_)
    · refine Go.if_eq 122 118 at_115 (by decide) rfl rfl (fun (b64 : ((XT.ushr p1 (4 : Int32)) &&& (1 : Int32)) = 0) => ?_) (fun (b64 : ¬ ((XT.ushr p1 (4 : Int32)) &&& (1 : Int32)) = 0) => ?_)
      · refine Go.iloadN 123 rfl at_122 rfl ?_
        refine Go.ldcI 125 rfl (v := (2147483647 : Int32)) 17 at_123 rfl ?_
        refine Go.iand 126 rfl at_125 ?_
        exact J _ trivial
      · refine Go.iloadN 119 rfl at_118 rfl ?_
        refine Go.goto 126 at_119 (by decide) (by decide) ?_
        exact J _ trivial
    · refine Go.istore 128 rfl at_126 (Ls' := #[.val (.int p1), .val (.int p2), .val (.int p3), .val (.long p4), .second, .val (.long p5), .second, .val (.int p6), .val (.int v1), .val (.int v2), .val (.long v3), .second, .val (.ref a4), .val (.ref a44), .val (.int v62), .val (.int e2), .val (.int f1), .unset, .unset, .unset, .unset, .unset, .unset, .unset, .unset, .unset, .unset, .unset, .unset, .unset, .unset, .unset]) rfl ?_
      refine Go.iconst 129 rfl (1 : Int32) at_128 rfl ?_
      refine Go.iloadN 130 rfl at_129 rfl ?_
      refine Go.sipush 133 rfl (255 : Int32) at_130 rfl ?_
      refine Go.iand 134 rfl at_133 ?_
      refine Go.iadd 135 rfl at_134 ?_
      refine Go.nameI fun v65 hv65 => ?_
      refine Go.istore 137 rfl at_135 (Ls' := #[.val (.int p1), .val (.int p2), .val (.int p3), .val (.long p4), .second, .val (.long p5), .second, .val (.int p6), .val (.int v1), .val (.int v2), .val (.long v3), .second, .val (.ref a4), .val (.ref a44), .val (.int v62), .val (.int e2), .val (.int f1), .val (.int v65), .unset, .unset, .unset, .unset, .unset, .unset, .unset, .unset, .unset, .unset, .unset, .unset, .unset, .unset]) rfl ?_
      refine Go.iconst 138 rfl (1 : Int32) at_137 rfl ?_
      refine Go.iloadN 139 rfl at_138 rfl ?_
      refine Go.bipush 141 rfl (8 : Int32) at_139 rfl ?_
      refine Go.iushr 142 rfl at_141 ?_
      refine Go.sipush 145 rfl (255 : Int32) at_142 rfl ?_
      refine Go.iand 146 rfl at_145 ?_
      refine Go.iadd 147 rfl at_146 ?_
      refine Go.nameI fun v66 hv66 => ?_
      refine Go.istore 149 rfl at_147 (Ls' := #[.val (.int p1), .val (.int p2), .val (.int p3), .val (.long p4), .second, .val (.long p5), .second, .val (.int p6), .val (.int v1), .val (.int v2), .val (.long v3), .second, .val (.ref a4), .val (.ref a44), .val (.int v62), .val (.int e2), .val (.int f1), .val (.int v65), .val (.int v66), .unset, .unset, .unset, .unset, .unset, .unset, .unset, .unset, .unset, .unset, .unset, .unset, .unset]) rfl ?_
      refine Go.iconst 150 rfl (1 : Int32) at_149 rfl ?_
      refine Go.iloadN 151 rfl at_150 rfl ?_
      refine Go.bipush 153 rfl (16 : Int32) at_151 rfl ?_
      refine Go.iushr 154 rfl at_153 ?_
      refine Go.sipush 157 rfl (255 : Int32) at_154 rfl ?_
      refine Go.iand 158 rfl at_157 ?_
      refine Go.iadd 159 rfl at_158 ?_
      refine Go.nameI fun v67 hv67 => ?_
      refine Go.istore 161 rfl at_159 (Ls' := #[.val (.int p1), .val (.int p2), .val (.int p3), .val (.long p4), .second, .val (.long p5), .second, .val (.int p6), .val (.int v1), .val (.int v2), .val (.long v3), .second, .val (.ref a4), .val (.ref a44), .val (.int v62), .val (.int e2), .val (.int f1), .val (.int v65), .val (.int v66), .val (.int v67), .unset, .unset, .unset, .unset, .unset, .unset, .unset, .unset, .unset, .unset, .unset, .unset]) rfl ?_
      refine Go.iloadN 162 rfl at_161 rfl ?_
      refine Go.bipush 164 rfl (24 : Int32) at_162 rfl ?_
      refine Go.iushr 165 rfl at_164 ?_
      refine Go.bipush 167 rfl (7 : Int32) at_165 rfl ?_
      refine Go.iand 168 rfl at_167 ?_
      refine Go.i2l 169 rfl at_168 ?_
      refine Go.nameJ fun v68 hv68 => ?_
      refine Go.lstore 171 rfl at_169 (Ls' := #[.val (.int p1), .val (.int p2), .val (.int p3), .val (.long p4), .second, .val (.long p5), .second, .val (.int p6), .val (.int v1), .val (.int v2), .val (.long v3), .second, .val (.ref a4), .val (.ref a44), .val (.int v62), .val (.int e2), .val (.int f1), .val (.int v65), .val (.int v66), .val (.int v67), .val (.long v68), .second, .unset, .unset, .unset, .unset, .unset, .unset, .unset, .unset, .unset, .unset]) rfl ?_
      refine Go.iloadN 172 rfl at_171 rfl ?_
      refine Go.bipush 174 rfl (6 : Int32) at_172 rfl ?_
      refine Go.iushr 175 rfl at_174 ?_
      refine Go.bipush 177 rfl (7 : Int32) at_175 rfl ?_
      refine Go.iand 178 rfl at_177 ?_
      refine Go.i2l 179 rfl at_178 ?_
      refine Go.nameJ fun v69 hv69 => ?_
      refine Go.lstore 181 rfl at_179 (Ls' := #[.val (.int p1), .val (.int p2), .val (.int p3), .val (.long p4), .second, .val (.long p5), .second, .val (.int p6), .val (.int v1), .val (.int v2), .val (.long v3), .second, .val (.ref a4), .val (.ref a44), .val (.int v62), .val (.int e2), .val (.int f1), .val (.int v65), .val (.int v66), .val (.int v67), .val (.long v68), .second, .val (.long v69), .second, .unset, .unset, .unset, .unset, .unset, .unset, .unset, .unset]) rfl ?_
      refine Go.iloadN 182 rfl at_181 rfl ?_
      refine Go.iconst 183 rfl (5 : Int32) at_182 rfl ?_
      refine Go.iushr 184 rfl at_183 ?_
      refine Go.iconst 185 rfl (1 : Int32) at_184 rfl ?_
      refine Go.iand 186 rfl at_185 ?_
      refine Go.nameI fun v70 hv70 => ?_
      refine Go.istore 188 rfl at_186 (Ls' := #[.val (.int p1), .val (.int p2), .val (.int p3), .val (.long p4), .second, .val (.long p5), .second, .val (.int p6), .val (.int v1), .val (.int v2), .val (.long v3), .second, .val (.ref a4), .val (.ref a44), .val (.int v62), .val (.int e2), .val (.int f1), .val (.int v65), .val (.int v66), .val (.int v67), .val (.long v68), .second, .val (.long v69), .second, .val (.int v70), .unset, .unset, .unset, .unset, .unset, .unset, .unset]) rfl ?_
      refine Go.iload 190 rfl at_188 rfl ?_
      refine Go.iload 192 rfl at_190 rfl ?_
      refine Go.iadd 193 rfl at_192 ?_
      refine Go.ldcI 195 rfl (v := (2147483647 : Int32)) 17 at_193 rfl ?_
      refine Go.iand 196 rfl at_195 ?_
      refine Go.iload 198 rfl at_196 rfl ?_
      refine Go.iadd 199 rfl at_198 ?_
      refine Go.nameI fun v71 hv71 => ?_
      refine Go.istore 201 rfl at_199 (Ls' := #[.val (.int p1), .val (.int p2), .val (.int p3), .val (.long p4), .second, .val (.long p5), .second, .val (.int p6), .val (.int v1), .val (.int v2), .val (.long v3), .second, .val (.ref a4), .val (.ref a44), .val (.int v62), .val (.int e2), .val (.int f1), .val (.int v65), .val (.int v66), .val (.int v67), .val (.long v68), .second, .val (.long v69), .second, .val (.int v70), .val (.int v71), .unset, .unset, .unset, .unset, .unset, .unset]) rfl ?_
      refine Go.iload 203 rfl at_201 rfl ?_
      refine Go.iload 205 rfl at_203 rfl ?_
      refine Go.iadd 206 rfl at_205 ?_
      refine Go.ldcI 208 rfl (v := (2147483647 : Int32)) 17 at_206 rfl ?_
      refine Go.iand 209 rfl at_208 ?_
      refine Go.nameI fun v72 hv72 => ?_
      refine Go.istore 211 rfl at_209 (Ls' := #[.val (.int p1), .val (.int p2), .val (.int p3), .val (.long p4), .second, .val (.long p5), .second, .val (.int p6), .val (.int v1), .val (.int v2), .val (.long v3), .second, .val (.ref a4), .val (.ref a44), .val (.int v62), .val (.int e2), .val (.int f1), .val (.int v65), .val (.int v66), .val (.int v67), .val (.long v68), .second, .val (.long v69), .second, .val (.int v70), .val (.int v71), .val (.int v72), .unset, .unset, .unset, .unset, .unset]) rfl ?_
      refine Go.lloadN 212 rfl at_211 rfl ?_
      refine Go.iload 214 rfl at_212 rfl ?_
      refine Go.i2l 215 rfl at_214 ?_
      refine Go.ladd 216 rfl at_215 ?_
      refine Go.lload 218 rfl at_216 rfl ?_
      refine Go.ladd 219 rfl at_218 ?_
      refine Go.nameJ fun v73 hv73 => ?_
      refine Go.lstore 221 rfl at_219 (Ls' := #[.val (.int p1), .val (.int p2), .val (.int p3), .val (.long p4), .second, .val (.long p5), .second, .val (.int p6), .val (.int v1), .val (.int v2), .val (.long v3), .second, .val (.ref a4), .val (.ref a44), .val (.int v62), .val (.int e2), .val (.int f1), .val (.int v65), .val (.int v66), .val (.int v67), .val (.long v68), .second, .val (.long v69), .second, .val (.int v70), .val (.int v71), .val (.int v72), .val (.long v73), .second, .unset, .unset, .unset]) rfl ?_
      refine Go.lload 223 rfl at_221 rfl ?_
      refine Go.iload 225 rfl at_223 rfl ?_
      refine Go.i2l 226 rfl at_225 ?_
      refine Go.ladd 227 rfl at_226 ?_
      refine Go.lload 229 rfl at_227 rfl ?_
      refine Go.ladd 230 rfl at_229 ?_
      refine Go.nameJ fun v74 hv74 => ?_
      refine Go.lstore 232 rfl at_230 (Ls' := #[.val (.int p1), .val (.int p2), .val (.int p3), .val (.long p4), .second, .val (.long p5), .second, .val (.int p6), .val (.int v1), .val (.int v2), .val (.long v3), .second, .val (.ref a4), .val (.ref a44), .val (.int v62), .val (.int e2), .val (.int f1), .val (.int v65), .val (.int v66), .val (.int v67), .val (.long v68), .second, .val (.long v69), .second, .val (.int v70), .val (.int v71), .val (.int v72), .val (.long v73), .second, .val (.long v74), .second, .unset]) rfl ?_
      have hn1 := own_n hv65
      have hn2 := own_n hv66
      have hn3 := own_n hv67
      have hg0 := own_g hv70
      have d12 : ¬ f1 = v71 := own_d1 hn1 hg0 hv71
      have d23 : ¬ v71 = v72 := own_d2 hn2 hv72
      have d13 : ¬ f1 = v72 := own_d3 hn1 hn2 hg0 hv71 hv72
      refine cut (∀ hJ : Heap, Keep h52 hJ [a44, fa, la, ba] → (∃ (R e0 : Int32) (xs ys : List Int32) (zs : List Int64), (R = 0 ∨ R = 1 ∨ R = 2 ∨ R = 3) ∧ ST Z hJ a44 fa la ba R e0 xs ys zs) → Go Q0 Z B0 5 28 hJ 288 #[.val (.int p1), .val (.int p2), .val (.int p3), .val (.long p4), .second, .val (.long p5), .second, .val (.int p6), .val (.int v1), .val (.int v2), .val (.long v3), .second, .val (.ref a4), .val (.ref a44), .val (.int v62), .val (.int e2), .val (.int f1), .val (.int v65), .val (.int v66), .val (.int v67), .val (.long v68), .second, .val (.long v69), .second, .val (.int v70), .val (.int v71), .val (.int v72), .val (.long v73), .second, .val (.long v74), .second, .unset] []) (fun J => ?_) (fun hJ KJ PJ => ?_)
      · refine Go.iload 234 rfl at_232 rfl ?_
        refine Go.iconst 235 rfl (1 : Int32) at_234 rfl ?_
        refine Go.icmp_lt 250 238 at_235 (by decide) rfl rfl (fun (b75 : v1 < (1 : Int32)) => ?_) (fun (b75 : ¬ v1 < (1 : Int32)) => ?_)
        · refine Go.iload 252 rfl at_250 rfl ?_
          refine Go.iconst 253 rfl (2 : Int32) at_252 rfl ?_
          refine Go.icmp_lt 269 256 at_253 (by decide) rfl rfl (fun (b76 : v1 < (2 : Int32)) => ?_) (fun (b76 : ¬ v1 < (2 : Int32)) => ?_)
          · refine Go.iload 271 rfl at_269 rfl ?_
            refine Go.iconst 272 rfl (3 : Int32) at_271 rfl ?_
            refine Go.icmp_lt 288 275 at_272 (by decide) rfl rfl (fun (b77 : v1 < (3 : Int32)) => ?_) (fun (b77 : ¬ v1 < (3 : Int32)) => ?_)
            · exact J _ (Keep.refl _ _) ⟨0, _, _, _, _, Or.inl rfl, S⟩
            · exact absurd (own_l23 (own_l12 b75)) b77
          · exact absurd (own_l12 b75) b76
        · refine Go.aload 240 rfl at_238 rfl rfl ?_
          refine Go.iload 242 rfl at_240 rfl ?_
          refine Go.iload 244 rfl at_242 rfl ?_
          refine Go.iload 246 rfl at_244 rfl ?_
          refine Go.lloadN 247 rfl at_246 rfl ?_
          refine Go.callV 250 rfl (C := B5) a44 [.int v62, .int f1, .int v65, .long p4] (rest := []) 29 30 32 31 3 33 (c5r0 Z hw h52 a44 v62 f1 v65 p4 fa la ba [0, 0, 0, 0, 0] [0, 0, 0, 0, 0] [0, 0, 0, 0, 0] _ P0 S sa so si oa oo oi hv  (own_n1 hn1)) S.1 at_247 rfl rfl rfl rfl rfl rfl (by decide) pd5 rfl rfl rfl (W := 0) (Nat.le_of_ble_eq_true rfl) (by decide) (by decide) (by decide) (by decide) fun v78 h79 q80 => ?_
          obtain ⟨l81, e82, rfl, K83, S84⟩ := q80
          have K85 : Keep h52 h79 [a44, fa, la, ba] := (Keep.refl h52 [a44, fa, la, ba]).trans K83 (fun x hx => Or.inl hx)
          refine Go.iload 252 rfl at_250 rfl ?_
          refine Go.iconst 253 rfl (2 : Int32) at_252 rfl ?_
          refine Go.icmp_lt 269 256 at_253 (by decide) rfl rfl (fun (b86 : v1 < (2 : Int32)) => ?_) (fun (b86 : ¬ v1 < (2 : Int32)) => ?_)
          · refine Go.iload 271 rfl at_269 rfl ?_
            refine Go.iconst 272 rfl (3 : Int32) at_271 rfl ?_
            refine Go.icmp_lt 288 275 at_272 (by decide) rfl rfl (fun (b87 : v1 < (3 : Int32)) => ?_) (fun (b87 : ¬ v1 < (3 : Int32)) => ?_)
            · exact J _ K85 ⟨1, _, _, _, _, Or.inr (Or.inl rfl), S84⟩
            · exact absurd (own_l23 b86) b87
          · refine Go.aload 258 rfl at_256 rfl rfl ?_
            refine Go.iload 260 rfl at_258 rfl ?_
            refine Go.iload 262 rfl at_260 rfl ?_
            refine Go.iload 264 rfl at_262 rfl ?_
            refine Go.lload 266 rfl at_264 rfl ?_
            refine Go.callV 269 rfl (C := B5) a44 [.int v62, .int v71, .int v66, .long v73] (rest := []) 29 30 32 31 3 33 (c5r1 Z hw h79 a44 v62 v71 v66 v73 fa la ba ([0, 0, 0, 0, 0].set 0 f1) ([0, 0, 0, 0, 0].set 0 l81) ([0, 0, 0, 0, 0].set 0 p4) _ P0 S84 sa so si oa oo oi hv (fun q => d12 ((own_setD (d := (0 : Int32)) (v := f1) (j := 0) (show ([0, 0, 0, 0, 0] : List Int32).length = 5 from rfl) (by decide)).symm.trans q)) (own_n1 hn2)) S84.1 at_266 rfl rfl rfl rfl rfl rfl (by decide) pd5 rfl rfl rfl (W := 0) (Nat.le_of_ble_eq_true rfl) (by decide) (by decide) (by decide) (by decide) fun v88 h89 q90 => ?_
            obtain ⟨l91, e92, rfl, K93, S94⟩ := q90
            have K95 : Keep h52 h89 [a44, fa, la, ba] := K85.trans K93 (fun x hx => Or.inl hx)
            rcases S94 with S94 | S94
            · refine Go.iload 271 rfl at_269 rfl ?_
              refine Go.iconst 272 rfl (3 : Int32) at_271 rfl ?_
              refine Go.icmp_lt 288 275 at_272 (by decide) rfl rfl (fun (b96 : v1 < (3 : Int32)) => ?_) (fun (b96 : ¬ v1 < (3 : Int32)) => ?_)
              · exact J _ K95 ⟨2, _, _, _, _, Or.inr (Or.inr (Or.inl rfl)), S94⟩
              · refine Go.aload 277 rfl at_275 rfl rfl ?_
                refine Go.iload 279 rfl at_277 rfl ?_
                refine Go.iload 281 rfl at_279 rfl ?_
                refine Go.iload 283 rfl at_281 rfl ?_
                refine Go.lload 285 rfl at_283 rfl ?_
                refine Go.callV 288 rfl (C := B5) a44 [.int e2, .int v72, .int v67, .long v74] (rest := []) 29 30 32 31 3 33 (c5r2 Z hw h89 a44 e2 v72 v67 v74 fa la ba (([0, 0, 0, 0, 0].set 0 f1).set 1 v71) (([0, 0, 0, 0, 0].set 0 l81).set 1 l91) (([0, 0, 0, 0, 0].set 0 p4).set 1 v73) _ P0 S94 sa so si oa oo oi hv (fun q => d13 (((own_setN (d := (0 : Int32)) (v := v71) (i := 1) (j := 0) (by decide)).trans (own_setD (d := (0 : Int32)) (v := f1) (j := 0) (show ([0, 0, 0, 0, 0] : List Int32).length = 5 from rfl) (by decide))).symm.trans q)) (fun q => d23 ((own_setD (d := (0 : Int32)) (v := v71) (j := 1) (own_set5 (show ([0, 0, 0, 0, 0] : List Int32).length = 5 from rfl)) (by decide)).symm.trans q)) (own_n1 hn3)) S94.1 at_285 rfl rfl rfl rfl rfl rfl (by decide) pd5 rfl rfl rfl (W := 0) (Nat.le_of_ble_eq_true rfl) (by decide) (by decide) (by decide) (by decide) fun v97 h98 q99 => ?_
                obtain ⟨l100, e101, rfl, K102, S103⟩ := q99
                have K104 : Keep h52 h98 [a44, fa, la, ba] := K95.trans K102 (fun x hx => Or.inl hx)
                rcases S103 with S103 | S103
                · exact J _ K104 ⟨3, _, _, _, _, Or.inr (Or.inr (Or.inr rfl)), S103⟩
                · exact J _ K104 ⟨1, _, _, _, _, Or.inr (Or.inl rfl), S103⟩
            · refine Go.iload 271 rfl at_269 rfl ?_
              refine Go.iconst 272 rfl (3 : Int32) at_271 rfl ?_
              refine Go.icmp_lt 288 275 at_272 (by decide) rfl rfl (fun (b105 : v1 < (3 : Int32)) => ?_) (fun (b105 : ¬ v1 < (3 : Int32)) => ?_)
              · exact J _ K95 ⟨1, _, _, _, _, Or.inr (Or.inl rfl), S94⟩
              · refine Go.aload 277 rfl at_275 rfl rfl ?_
                refine Go.iload 279 rfl at_277 rfl ?_
                refine Go.iload 281 rfl at_279 rfl ?_
                refine Go.iload 283 rfl at_281 rfl ?_
                refine Go.lload 285 rfl at_283 rfl ?_
                refine Go.callV 288 rfl (C := B5) a44 [.int e2, .int v72, .int v67, .long v74] (rest := []) 29 30 32 31 3 33 (c5r1 Z hw h89 a44 e2 v72 v67 v74 fa la ba (([0, 0, 0, 0, 0].set 0 f1).set 0 v71) (([0, 0, 0, 0, 0].set 0 l81).set 0 l91) (([0, 0, 0, 0, 0].set 0 p4).set 0 v73) _ P0 S94 sa so si oa oo oi hv (fun q => d23 ((own_setD (d := (0 : Int32)) (v := v71) (j := 0) (own_set5 (show ([0, 0, 0, 0, 0] : List Int32).length = 5 from rfl)) (by decide)).symm.trans q)) (own_n1 hn3)) S94.1 at_285 rfl rfl rfl rfl rfl rfl (by decide) pd5 rfl rfl rfl (W := 0) (Nat.le_of_ble_eq_true rfl) (by decide) (by decide) (by decide) (by decide) fun v106 h107 q108 => ?_
                obtain ⟨l109, e110, rfl, K111, S112⟩ := q108
                have K113 : Keep h52 h107 [a44, fa, la, ba] := K95.trans K111 (fun x hx => Or.inl hx)
                rcases S112 with S112 | S112
                · exact J _ K113 ⟨2, _, _, _, _, Or.inr (Or.inr (Or.inl rfl)), S112⟩
                · exact J _ K113 ⟨1, _, _, _, _, Or.inr (Or.inl rfl), S112⟩
      · obtain ⟨N, hN, hN3⟩ := own_ix hv2
        have Aj : Ary Z hJ a4 .long (JL [v3, v3, v3, v3, v3, v3, v3, v3]) := At.keep KJ (ninS ne57 (ninS ne58 (ninS ne59 (ninS ne60 nin0))))
        refine Go.aload 290 rfl at_288 rfl rfl ?_
        refine Go.aload 292 rfl at_290 rfl rfl ?_
        refine Go.iload 294 rfl at_292 rfl ?_
        have Ej : Exa Z hJ a44 "com/example/albatross/albatross/storage/ProducerState" := by obtain ⟨_, _, _, _, _, _, SJ⟩ := id PJ; exact SJ.1
        refine Go.callV 297 rfl (C := B3) a44 [.ref a4, .int v2] (rest := []) 18 19 21 20 3 22 (c3 Z hw hJ a44 a4 v2 N hN hN3 [v3, v3, v3, v3, v3, v3, v3, v3] rfl Aj fa la ba P0 PJ z7 (Ne.symm ne57) (Ne.symm ne58) (Ne.symm ne59) (Ne.symm ne60)) Ej at_294 rfl rfl rfl rfl rfl rfl (by decide) pd3 rfl rfl rfl (W := 0) (Nat.le_of_ble_eq_true rfl) (by decide) (by decide) (by decide) (by decide) fun v114 h115 q116 => ?_
        obtain ⟨r, us, rfl, KK, AA, LL, DD⟩ := q116
        refine Go.istore 299 rfl at_297 (Ls' := #[.val (.int p1), .val (.int p2), .val (.int p3), .val (.long p4), .second, .val (.long p5), .second, .val (.int p6), .val (.int v1), .val (.int v2), .val (.long v3), .second, .val (.ref a4), .val (.ref a44), .val (.int v62), .val (.int e2), .val (.int f1), .val (.int v65), .val (.int v66), .val (.int v67), .val (.long v68), .second, .val (.long v69), .second, .val (.int v70), .val (.int v71), .val (.int v72), .val (.long v73), .second, .val (.long v74), .second, .val (.int r)]) rfl ?_
        refine Go.iload 301 rfl at_299 rfl ?_
        refine Go.aload 303 rfl at_301 rfl rfl ?_
        refine Go.iload 305 rfl at_303 rfl ?_
        refine Go.callS 308 rfl (C := B4) [.ref a4, .int v2] (rest := [.int r]) 25 26 3 27 (c4 Z hw h115 a4 v2 us N hN hN3 LL AA) at_305 rfl rfl rfl rfl (by decide) pd4 rfl rfl rfl (W := 1) (Nat.le_of_ble_eq_true rfl) (by decide) (by decide) (by decide) (by decide) fun v117 h118 q119 => ?_
        obtain ⟨rfl, rfl⟩ := q119
        refine Go.icmp_ne 315 311 at_308 (by decide) rfl rfl (fun (b120 : ¬ r = (if us.getD N 0 &&& 7 = 0 then 0 else 1)) => ?_) (fun (b120 : r = (if us.getD N 0 &&& 7 = 0 then 0 else 1)) => ?_)
        · exact absurd (own_fin DD) b120
        · refine Go.iconst 312 rfl (1 : Int32) at_311 rfl ?_
          refine Go.goto 316 at_312 (by decide) (by decide) ?_
          exact Go.retN (t := .boolean) (z' := 1) at_316 rfl (by decide) (by decide) (by decide) (by decide) rfl
set_option maxRecDepth 65536 in
set_option maxHeartbeats 40000000 in
theorem comes_1 {Post : Tables → Env → Array Value → State → Outcome → State → Prop} (hpost : ∀ tb e args s v u, (limb_1_1.after args s (.returned v) u = true ∧ limb_1_2.after args s (.returned v) u = true ∧ True) → FrameEnd s (.returned v) u (Jvm.fieldLocs frame_1_writes args s ++ Jvm.arrayLocs frame_1_arrays args s ++ Jvm.staticLocs frame_1_statics s) 24 128 → Post tb e args s (.returned v) u) :
    ArmFor flags0 classFile x code maxLocals ret World_1 tables_1 room_1 Calls_1 rest_1 Pre_1 Post := by
  intro l hfl _ _ p e ha hc hk s m args below hf hA hF happ hP
  obtain ⟨hcalls, hrest, hpre⟩ := hP
  obtain ⟨-, -, -, hnamed, -, -, -, hat⟩ := (Spec.applies_iff hf).mp happ
  obtain ⟨hg, hn⟩ := and_e (Cond.before_iff.mp (show (Jvm.Cond.and given_1 narrow_1).before args s = true from hpre))
  obtain ⟨hg1, hg2⟩ := and_e hg
  obtain ⟨w0, w1, w2, w3, w4, w5, rfl⟩ : ∃ w0 w1 w2 w3 w4 w5 : Value, args = #[w0, w1, w2, w3, w4, w5] := by
    have hs : args.size = 6 := by simpa [Cond.value, given_1] using hg1
    obtain ⟨L⟩ := args
    match L, hs with
    | [w0, w1, w2, w3, w4, w5], _ => exact ⟨w0, w1, w2, w3, w4, w5, rfl⟩
  obtain ⟨ga0, gb0⟩ := and_e hg2
  obtain ⟨i0, e0⟩ := is_v ga0
  obtain rfl : w0 = (.int i0) := Option.some.inj e0
  obtain ⟨ga1, gb1⟩ := and_e gb0
  obtain ⟨i1, e1⟩ := is_v ga1
  obtain rfl : w1 = (.int i1) := Option.some.inj e1
  obtain ⟨ga2, gb2⟩ := and_e gb1
  obtain ⟨i2, e2⟩ := is_v ga2
  obtain rfl : w2 = (.int i2) := Option.some.inj e2
  obtain ⟨ga3, gb3⟩ := and_e gb2
  obtain ⟨i3, e3⟩ := isL_v ga3
  obtain rfl : w3 = (.long i3) := Option.some.inj e3
  obtain ⟨ga4, gb4⟩ := and_e gb3
  obtain ⟨i4, e4⟩ := isL_v ga4
  obtain rfl : w4 = (.long i4) := Option.some.inj e4
  obtain ⟨i5, e5⟩ := is_v gb4
  obtain rfl : w5 = (.int i5) := Option.some.inj e5
  have hw : Wd s tables_1 := ⟨_, fun d (hd : d ∈ tables_1) => atoms_spec (ws := Jvm.Cond.code x code maxLocals ret :: tables_1) hat d (List.mem_cons_of_mem _ hd)⟩
  have hfit : Fit s := fun {y c} hc i hi => by
    obtain ⟨ha, rfl⟩ := Array.getElem?_eq_some_iff.mp hc
    have q := List.all_eq_true.mp ((Array.all_eq_true_iff_forall_mem.mp hF) _ (Array.getElem_mem ha)) i (List.mem_range.mpr hi)
    simpa [Array.getElem?_eq_getElem hi] using q

  obtain ⟨hn1, hn⟩ := and_e hn
  obtain ⟨hn2, hn⟩ := and_e hn
  obtain ⟨hn3, hn⟩ := and_e hn
  obtain ⟨hn4, hn⟩ := and_e hn
  obtain ⟨hn5, hn⟩ := and_e hn
  obtain ⟨hn6, hn⟩ := and_e hn
  obtain ⟨hn7, hn⟩ := and_e hn
  obtain ⟨hn8, hn⟩ := and_e hn
  obtain ⟨hn9, hn⟩ := and_e hn
  obtain ⟨hn10, hn⟩ := and_e hn
  obtain ⟨hn11, hn12⟩ := and_e hn
  obtain ⟨so, eso⟩ := exa_v hn1
  obtain ⟨oo, eoo⟩ := exa_v hn2
  obtain ⟨oa, eoa⟩ := exa_v hn4
  obtain ⟨sa, esa⟩ := exa_v hn7
  obtain ⟨si, esi⟩ := exa_v hn9
  obtain ⟨oi, eoi⟩ := exa_v hn10
  have wd : ∀ (i : Nat) (d : Cond), tables_1[i]? = some d → d.before _ s = true := fun i d q => atoms_spec (ws := Jvm.Cond.code x code maxLocals ret :: tables_1) hat d (List.mem_cons_of_mem _ (List.mem_of_getElem? q))
  have hv : Ev1 s sa so si oa oo oi := ⟨Sta.start esa (Or.inr ⟨wd 47 _ rfl, wd 76 _ rfl⟩), Exa.start esa hn7, own_fe esa eoa hn8, Sta.start eso (Or.inr ⟨wd 47 _ rfl, wd 48 _ rfl⟩), Exa.start eso hn1, own_fe eso eoo hn3, Sta.start esi (Or.inr ⟨wd 47 _ rfl, wd 142 _ rfl⟩), Exa.start esi hn9, own_fe esi eoi hn11, Sta.start eoa (Or.inr ⟨wd 56 _ rfl, wd 59 _ rfl⟩)⟩
  obtain ⟨n, o, h1, h2, h3, _, L, rfl, ⟨hv, -, N⟩, hq⟩ := c0 s hw s.heap i0 i1 i2 i3 i4 i5 sa so si oa oo oi hv ⟨Nat.le_refl _, fun _ _ q => q⟩ l tables_1 p e ha hc hk s m _ below hf ((Spec.applies_iff_loose hf).mp happ).1 ⟨rfl, State.Warmed39.refl s, rfl⟩ trivial
  cases (show _ = some (Value.int 1) from hv)
  refine ⟨n, _, h1, h2, h3, hpost _ _ _ _ _ _ ⟨Cond.after_iff.mpr rfl, Cond.after_iff.mpr (eq_i res_at (Term.int_eval (1)) rfl), trivial⟩ ⟨hq.1, hq.2.1, (hq.2.2.sift fun y hy => Or.inr (N y hy)).mono (by decide) (by decide)⟩⟩
theorem main_1_1 : Claimed_1_1 := comes_1 fun _ _ _ _ _ _ h hF => ⟨h.1, hF⟩
theorem main_1_2 : Claimed_1_2 := comes_1 fun _ _ _ _ _ _ h hF => ⟨h.2.1, hF⟩
end Jvm.Pilot.@@N@@
namespace Jvm.Pilot.@@N@@
open Jvm Jvm.ClassFile Sem Op Lib Jvm.Free Jvm.Stand Jvm.Pilot.@@N@@.Jvm.D
/-! MADE BY PROGRAM (witnessworld.py) out of the Statement's table words and the real class files: 21 classes; the members and pool entries that the words name. The judged class is class 1, her method 1. -/
namespace start1
open Jvm.ClassFile
def u (s : String) : CpInfo := .utf8 (stringToUtf16 s)
/-- a pool by its gaps: so many unusable entries, then the entry; so many at the end -/
def gap : Nat → List CpInfo → List CpInfo
  | 0, r => r
  | n + 1, r => .unusable :: gap n r
def poolList (es : List (Nat × CpInfo)) (last : Nat) : List CpInfo := es.foldr (fun e r => gap e.1 (e.2 :: r)) (gap last [])
def pool (es : List (Nat × CpInfo)) (last : Nat) : Array CpInfo := ⟨poolList es last⟩
def fileOf (pool : Array CpInfo) (this : Nat) (attrs : Array Attribute := #[]) (ms : Array MethodInfo := #[]) (fl : Nat := 33) (sup : Nat := 0) (ifs : Array Nat := #[]) (fds : Array FieldInfo := #[]) : ClassFile where
  minorVersion := 0
  majorVersion := 65
  constantPool := pool
  accessFlags := fl
  thisClass := this
  superClass := sup
  interfaces := ifs
  fields := fds
  methods := ms
  attributes := attrs
def plain (name : String) (sup : Option ClassId) : Class where
  name := name
  kind := .ordinary
  loader := none
  accessFlags := 33
  super := sup
  interfaces := #[]
  cf := none
  fields := #[]
  methods := #[]
  instanceTypes := #[]
  staticTypes := #[]
  resolved := #[]
  callSites := []
  init := .initialized
  statics := none
  mirror := none

def pool0 : Array CpInfo := pool [(5, u "<init>"), (0, u "()V"), (1, .class_ 10), (1, u "java/lang/Object")] 113

def k0c0 : Code := { maxStack := 0, maxLocals := 1, code := object_method_1_code, exceptionTable := #[], attributes := #[] }
def k0m0 : Method := { name := "<init>", desc := "()V", sig := { parameters := [], returnType := none }, accessFlags := 1, code := some k0c0 }
/-- java/lang/Object -/
def k0 : Class := { plain "java/lang/Object" none with
  accessFlags := 33
  interfaces := #[]
  cf := some (fileOf pool0 8 #[] #[{ accessFlags := 1, nameIndex := 5, descriptorIndex := 6, attributes := #[] }] 33 0 #[] #[])
  fields := #[]
  methods := #[k0m0]
  instanceTypes := #[]
  staticTypes := #[]
  resolved := Array.replicate 124 none
  statics := none }

def pool1 : Array CpInfo := pool [(2, .class_ 4), (0, .nameAndType 5 6), (0, u "java/lang/Object"), (0, u "<init>"), (0, u "()V"), (0, .class_ 8), (0, u "com/example/albatross/albatross/storage/ProducerState"), (0, .methodref 7 3), (0, .integer 2147483647), (0, .methodref 7 12), (0, .nameAndType 13 14), (0, u "replay"), (0, u "(SIIJ)V"), (0, .methodref 7 16), (0, .nameAndType 17 18), (0, u "packInto"), (0, u "([JI)Z"), (0, .methodref 7 20), (0, .nameAndType 21 18), (0, u "isPacked"), (0, .class_ 23), (0, u "com/example/albatross/albatross/storage/ProducerStateIsPackedPinLaw"), (2, u "law"), (0, u "(IIIJJI)Z")] 5

def k1m0 : Method := { name := "<init>", desc := "()V", sig := { parameters := [], returnType := none }, accessFlags := 1, code := none }
def k1c1 : Code := { maxStack := 6, maxLocals := 32, code := code, exceptionTable := #[], attributes := #[] }
def k1m1 : Method := { name := "law", desc := "(IIIJJI)Z", sig := { parameters := [.int, .int, .int, .long, .long, .int], returnType := some .boolean }, accessFlags := 9, code := some k1c1 }
/-- com/example/albatross/albatross/storage/ProducerStateIsPackedPinLaw -/
def k1 : Class := { plain "com/example/albatross/albatross/storage/ProducerStateIsPackedPinLaw" (some 0) with
  accessFlags := 49
  interfaces := #[]
  cf := some (fileOf pool1 22 #[] #[{ accessFlags := 1, nameIndex := 5, descriptorIndex := 6, attributes := #[] }, { accessFlags := 9, nameIndex := 26, descriptorIndex := 27, attributes := #[] }] 49 2 #[] #[])
  fields := #[]
  methods := #[k1m0, k1m1]
  instanceTypes := #[]
  staticTypes := #[]
  resolved := Array.replicate 33 none
  statics := none }

def pool2 : Array CpInfo := pool [(3, .class_ 4), (0, u "java/lang/Long"), (0, .class_ 6), (0, u "com/example/albatross/albatross/storage/ProducerState"), (0, .methodref 8 9), (0, .class_ 10), (0, .nameAndType 11 12), (0, u "java/lang/Object"), (0, u "<init>"), (0, u "()V"), (0, .fieldref 5 14), (0, .nameAndType 15 16), (0, u "firstSequences"), (0, u "[I"), (0, .fieldref 5 18), (0, .nameAndType 19 16), (0, u "lastSequences"), (0, .fieldref 5 21), (0, .nameAndType 22 23), (0, u "baseOffsets"), (0, u "[J"), (0, .methodref 5 25), (0, .nameAndType 26 27), (0, u "lastSequence"), (0, u "(II)I"), (0, .fieldref 5 29), (0, .nameAndType 30 31), (0, u "remembered"), (0, u "I"), (0, .fieldref 5 33), (0, .nameAndType 34 35), (0, u "epoch"), (0, u "S"), (0, .fieldref 37 38), (0, .class_ 39), (0, .nameAndType 40 41), (0, u "com/example/albatross/albatross/storage/SequenceCheck"), (0, u "APPEND"), (0, u "Lcom/example/albatross/albatross/storage/SequenceCheck;"), (0, .fieldref 37 43), (0, .nameAndType 44 41), (0, u "OUT_OF_ORDER_SEQUENCE"), (0, .fieldref 37 46), (0, .nameAndType 47 41), (0, u "INVALID_PRODUCER_EPOCH"), (0, .methodref 5 49), (0, .nameAndType 50 51), (0, u "checkCurrentEpoch"), (0, u "(II)Lcom/example/albatross/albatross/storage/SequenceCheck;"), (9, .methodref 5 62), (0, .nameAndType 63 64), (0, u "check"), (0, u "(SII)Lcom/example/albatross/albatross/storage/SequenceCheck;"), (0, .methodref 37 66), (0, .nameAndType 67 68), (0, u "outcome"), (0, u "()Lcom/example/albatross/albatross/storage/SequenceCheck$Outcome;"), (0, .fieldref 70 71), (0, .class_ 72), (0, .nameAndType 40 73), (0, u "com/example/albatross/albatross/storage/SequenceCheck$Outcome"), (0, u "Lcom/example/albatross/albatross/storage/SequenceCheck$Outcome;"), (12, .methodref 5 87), (0, .nameAndType 88 89), (0, u "push"), (0, u "(SIIJ)V"), (0, .methodref 5 91), (0, .nameAndType 92 93), (0, u "add"), (0, u "(IIJ)V"), (0, .methodref 5 95), (0, .nameAndType 96 97), (0, u "gapAfter"), (0, u "(I)J"), (0, .methodref 5 99), (0, .nameAndType 100 27), (0, u "advance"), (0, .methodref 5 102), (0, .nameAndType 103 104), (0, u "lessOne"), (0, u "(I)I"), (0, .methodref 5 106), (0, .nameAndType 107 108), (0, u "bitLength"), (0, u "(J)I"), (0, .methodref 5 110), (0, .nameAndType 111 112), (0, u "windowBits"), (0, u "(IIIZ)I"), (0, .methodref 5 114), (0, .nameAndType 115 116), (0, u "fits"), (0, u "(II)Z"), (0, .methodref 5 118), (0, .nameAndType 119 120), (0, u "header"), (0, u "(ISIIIZ)J"), (0, .methodref 5 122), (0, .nameAndType 123 124), (0, u "pushPacked"), (0, u "([JIIJ)Z"), (0, .methodref 5 126), (0, .nameAndType 127 128), (0, u "epochOf"), (0, u "(J)S"), (0, .methodref 5 130), (0, .nameAndType 131 108), (0, u "countWidthOf"), (0, .methodref 5 133), (0, .nameAndType 134 108), (0, u "gapWidthOf"), (0, .methodref 5 136), (0, .nameAndType 137 138), (0, u "sharesCount"), (0, u "(J)Z"), (4, .methodref 5 144), (0, .nameAndType 145 108), (0, u "lastSequenceOf"), (0, .methodref 5 147), (0, .nameAndType 148 149), (0, u "offsetAfter"), (0, u "(JJJI)J"), (0, .long 7), (5, .methodref 5 157), (0, .nameAndType 158 97), (0, u "lowBits"), (0, .methodref 160 161), (0, .class_ 162), (0, .nameAndType 163 27), (0, u "java/lang/Math"), (0, u "min"), (0, .methodref 160 165), (0, .nameAndType 166 27), (0, u "max"), (0, .methodref 5 168), (0, .nameAndType 169 170), (0, u "batchBits"), (0, u "(IIZ)I"), (0, .long 18446744073709551615), (7, .integer 2147483647), (7, .methodref 3 188), (0, .nameAndType 189 108), (0, u "numberOfLeadingZeros"), (0, .long 65535), (1, u "REMEMBERED_BATCHES"), (2, u "SEQUENCE_MASK"), (0, u "PACKED_WORDS"), (1, u "COUNT_MASK"), (1, u "EPOCH_AT"), (1, u "SEQUENCE_AT"), (1, u "COUNT_WIDTH_AT"), (1, u "COUNT_WIDTH_MASK"), (1, u "GAP_WIDTH_AT"), (1, u "GAP_WIDTH_MASK"), (1, u "SHARED_COUNT_AT"), (1, u "WINDOW_AT"), (1, u "STATE_BITS"), (1, u "UNWRAPPED_COUNT_WIDTH"), (5, u "replay"), (6, u "packInto"), (0, u "([JI)Z"), (5, u "isPacked")] 23

def k2c0 : Code := { maxStack := 2, maxLocals := 1, code := prog_35_method_1_code, exceptionTable := #[], attributes := #[] }
def k2m0 : Method := { name := "<init>", desc := "()V", sig := { parameters := [], returnType := none }, accessFlags := 1, code := some k2c0 }
def k2c1 : Code := { maxStack := 3, maxLocals := 6, code := prog_35_method_2_code, exceptionTable := #[], attributes := #[] }
def k2m1 : Method := { name := "check", desc := "(SII)Lcom/example/albatross/albatross/storage/SequenceCheck;", sig := { parameters := [.short, .int, .int], returnType := some (.object "com/example/albatross/albatross/storage/SequenceCheck") }, accessFlags := 1, code := some k2c1 }
def k2c2 : Code := { maxStack := 6, maxLocals := 6, code := prog_35_method_4_code, exceptionTable := #[], attributes := #[] }
def k2m2 : Method := { name := "replay", desc := "(SIIJ)V", sig := { parameters := [.short, .int, .int, .long], returnType := none }, accessFlags := 0, code := some k2c2 }
def k2c3 : Code := { maxStack := 8, maxLocals := 13, code := prog_35_method_11_code, exceptionTable := #[], attributes := #[] }
def k2m3 : Method := { name := "packInto", desc := "([JI)Z", sig := { parameters := [(.array .long), .int], returnType := some .boolean }, accessFlags := 0, code := some k2c3 }
def k2c4 : Code := { maxStack := 4, maxLocals := 2, code := prog_35_method_15_code, exceptionTable := #[], attributes := #[] }
def k2m4 : Method := { name := "isPacked", desc := "([JI)Z", sig := { parameters := [(.array .long), .int], returnType := some .boolean }, accessFlags := 8, code := some k2c4 }
def k2c5 : Code := { maxStack := 10, maxLocals := 27, code := prog_35_method_17_code, exceptionTable := #[], attributes := #[] }
def k2m5 : Method := { name := "pushPacked", desc := "([JIIJ)Z", sig := { parameters := [(.array .long), .int, .int, .long], returnType := some .boolean }, accessFlags := 10, code := some k2c5 }
def k2c6 : Code := { maxStack := 5, maxLocals := 6, code := prog_35_method_18_code, exceptionTable := #[], attributes := #[] }
def k2m6 : Method := { name := "push", desc := "(SIIJ)V", sig := { parameters := [.short, .int, .int, .long], returnType := none }, accessFlags := 2, code := some k2c6 }
def k2c7 : Code := { maxStack := 5, maxLocals := 5, code := prog_35_method_19_code, exceptionTable := #[], attributes := #[] }
def k2m7 : Method := { name := "add", desc := "(IIJ)V", sig := { parameters := [.int, .int, .long], returnType := none }, accessFlags := 2, code := some k2c7 }
def k2c8 : Code := { maxStack := 3, maxLocals := 2, code := prog_35_method_20_code, exceptionTable := #[], attributes := #[] }
def k2m8 : Method := { name := "lessOne", desc := "(I)I", sig := { parameters := [.int], returnType := some .int }, accessFlags := 2, code := some k2c8 }
def k2c9 : Code := { maxStack := 4, maxLocals := 2, code := prog_35_method_21_code, exceptionTable := #[], attributes := #[] }
def k2m9 : Method := { name := "gapAfter", desc := "(I)J", sig := { parameters := [.int], returnType := some .long }, accessFlags := 2, code := some k2c9 }
def k2c10 : Code := { maxStack := 4, maxLocals := 6, code := prog_35_method_22_code, exceptionTable := #[], attributes := #[] }
def k2m10 : Method := { name := "checkCurrentEpoch", desc := "(II)Lcom/example/albatross/albatross/storage/SequenceCheck;", sig := { parameters := [.int, .int], returnType := some (.object "com/example/albatross/albatross/storage/SequenceCheck") }, accessFlags := 2, code := some k2c10 }
def k2c11 : Code := { maxStack := 3, maxLocals := 2, code := prog_35_method_23_code, exceptionTable := #[], attributes := #[] }
def k2m11 : Method := { name := "lastSequence", desc := "(II)I", sig := { parameters := [.int, .int], returnType := some .int }, accessFlags := 10, code := some k2c11 }
def k2c12 : Code := { maxStack := 2, maxLocals := 2, code := prog_35_method_24_code, exceptionTable := #[], attributes := #[] }
def k2m12 : Method := { name := "advance", desc := "(II)I", sig := { parameters := [.int, .int], returnType := some .int }, accessFlags := 10, code := some k2c12 }
def k2c13 : Code := { maxStack := 3, maxLocals := 2, code := prog_35_method_25_code, exceptionTable := #[], attributes := #[] }
def k2m13 : Method := { name := "bitLength", desc := "(J)I", sig := { parameters := [.long], returnType := some .int }, accessFlags := 10, code := some k2c13 }
def k2c14 : Code := { maxStack := 6, maxLocals := 6, code := prog_35_method_26_code, exceptionTable := #[], attributes := #[] }
def k2m14 : Method := { name := "header", desc := "(ISIIIZ)J", sig := { parameters := [.int, .short, .int, .int, .int, .boolean], returnType := some .long }, accessFlags := 10, code := some k2c14 }
def k2c15 : Code := { maxStack := 3, maxLocals := 2, code := prog_35_method_27_code, exceptionTable := #[], attributes := #[] }
def k2m15 : Method := { name := "epochOf", desc := "(J)S", sig := { parameters := [.long], returnType := some .short }, accessFlags := 10, code := some k2c15 }
def k2c16 : Code := { maxStack := 3, maxLocals := 2, code := prog_35_method_28_code, exceptionTable := #[], attributes := #[] }
def k2m16 : Method := { name := "lastSequenceOf", desc := "(J)I", sig := { parameters := [.long], returnType := some .int }, accessFlags := 10, code := some k2c16 }
def k2c17 : Code := { maxStack := 3, maxLocals := 2, code := prog_35_method_29_code, exceptionTable := #[], attributes := #[] }
def k2m17 : Method := { name := "countWidthOf", desc := "(J)I", sig := { parameters := [.long], returnType := some .int }, accessFlags := 10, code := some k2c17 }
def k2c18 : Code := { maxStack := 3, maxLocals := 2, code := prog_35_method_30_code, exceptionTable := #[], attributes := #[] }
def k2m18 : Method := { name := "gapWidthOf", desc := "(J)I", sig := { parameters := [.long], returnType := some .int }, accessFlags := 10, code := some k2c18 }
def k2c19 : Code := { maxStack := 4, maxLocals := 2, code := prog_35_method_31_code, exceptionTable := #[], attributes := #[] }
def k2m19 : Method := { name := "sharesCount", desc := "(J)Z", sig := { parameters := [.long], returnType := some .boolean }, accessFlags := 10, code := some k2c19 }
def k2c20 : Code := { maxStack := 6, maxLocals := 9, code := prog_35_method_32_code, exceptionTable := #[], attributes := #[] }
def k2m20 : Method := { name := "offsetAfter", desc := "(JJJI)J", sig := { parameters := [.long, .long, .long, .int], returnType := some .long }, accessFlags := 10, code := some k2c20 }
def k2c21 : Code := { maxStack := 2, maxLocals := 3, code := prog_35_method_33_code, exceptionTable := #[], attributes := #[] }
def k2m21 : Method := { name := "batchBits", desc := "(IIZ)I", sig := { parameters := [.int, .int, .boolean], returnType := some .int }, accessFlags := 10, code := some k2c21 }
def k2c22 : Code := { maxStack := 5, maxLocals := 4, code := prog_35_method_34_code, exceptionTable := #[], attributes := #[] }
def k2m22 : Method := { name := "windowBits", desc := "(IIIZ)I", sig := { parameters := [.int, .int, .int, .boolean], returnType := some .int }, accessFlags := 10, code := some k2c22 }
def k2c23 : Code := { maxStack := 2, maxLocals := 2, code := prog_35_method_35_code, exceptionTable := #[], attributes := #[] }
def k2m23 : Method := { name := "fits", desc := "(II)Z", sig := { parameters := [.int, .int], returnType := some .boolean }, accessFlags := 10, code := some k2c23 }
def k2c24 : Code := { maxStack := 4, maxLocals := 1, code := prog_35_method_36_code, exceptionTable := #[], attributes := #[] }
def k2m24 : Method := { name := "lowBits", desc := "(I)J", sig := { parameters := [.int], returnType := some .long }, accessFlags := 10, code := some k2c24 }
/-- com/example/albatross/albatross/storage/ProducerState -/
def k2 : Class := { plain "com/example/albatross/albatross/storage/ProducerState" (some 0) with
  accessFlags := 49
  interfaces := #[]
  cf := some (fileOf pool2 5 #[] #[{ accessFlags := 1, nameIndex := 11, descriptorIndex := 12, attributes := #[] }, { accessFlags := 1, nameIndex := 63, descriptorIndex := 64, attributes := #[] }, { accessFlags := 0, nameIndex := 224, descriptorIndex := 89, attributes := #[] }, { accessFlags := 0, nameIndex := 231, descriptorIndex := 232, attributes := #[] }, { accessFlags := 8, nameIndex := 238, descriptorIndex := 232, attributes := #[] }, { accessFlags := 10, nameIndex := 123, descriptorIndex := 124, attributes := #[] }, { accessFlags := 2, nameIndex := 88, descriptorIndex := 89, attributes := #[] }, { accessFlags := 2, nameIndex := 92, descriptorIndex := 93, attributes := #[] }, { accessFlags := 2, nameIndex := 103, descriptorIndex := 104, attributes := #[] }, { accessFlags := 2, nameIndex := 96, descriptorIndex := 97, attributes := #[] }, { accessFlags := 2, nameIndex := 50, descriptorIndex := 51, attributes := #[] }, { accessFlags := 10, nameIndex := 26, descriptorIndex := 27, attributes := #[] }, { accessFlags := 10, nameIndex := 100, descriptorIndex := 27, attributes := #[] }, { accessFlags := 10, nameIndex := 107, descriptorIndex := 108, attributes := #[] }, { accessFlags := 10, nameIndex := 119, descriptorIndex := 120, attributes := #[] }, { accessFlags := 10, nameIndex := 127, descriptorIndex := 128, attributes := #[] }, { accessFlags := 10, nameIndex := 145, descriptorIndex := 108, attributes := #[] }, { accessFlags := 10, nameIndex := 131, descriptorIndex := 108, attributes := #[] }, { accessFlags := 10, nameIndex := 134, descriptorIndex := 108, attributes := #[] }, { accessFlags := 10, nameIndex := 137, descriptorIndex := 138, attributes := #[] }, { accessFlags := 10, nameIndex := 148, descriptorIndex := 149, attributes := #[] }, { accessFlags := 10, nameIndex := 169, descriptorIndex := 170, attributes := #[] }, { accessFlags := 10, nameIndex := 111, descriptorIndex := 112, attributes := #[] }, { accessFlags := 10, nameIndex := 115, descriptorIndex := 116, attributes := #[] }, { accessFlags := 10, nameIndex := 158, descriptorIndex := 97, attributes := #[] }] 49 8 #[] #[{ accessFlags := 24, nameIndex := 192, descriptorIndex := 31, attributes := #[] }, { accessFlags := 26, nameIndex := 195, descriptorIndex := 31, attributes := #[] }, { accessFlags := 24, nameIndex := 196, descriptorIndex := 31, attributes := #[] }, { accessFlags := 26, nameIndex := 198, descriptorIndex := 31, attributes := #[] }, { accessFlags := 26, nameIndex := 200, descriptorIndex := 31, attributes := #[] }, { accessFlags := 26, nameIndex := 202, descriptorIndex := 31, attributes := #[] }, { accessFlags := 26, nameIndex := 204, descriptorIndex := 31, attributes := #[] }, { accessFlags := 26, nameIndex := 206, descriptorIndex := 31, attributes := #[] }, { accessFlags := 26, nameIndex := 208, descriptorIndex := 31, attributes := #[] }, { accessFlags := 26, nameIndex := 210, descriptorIndex := 31, attributes := #[] }, { accessFlags := 26, nameIndex := 212, descriptorIndex := 31, attributes := #[] }, { accessFlags := 26, nameIndex := 214, descriptorIndex := 31, attributes := #[] }, { accessFlags := 26, nameIndex := 216, descriptorIndex := 31, attributes := #[] }, { accessFlags := 26, nameIndex := 218, descriptorIndex := 31, attributes := #[] }, { accessFlags := 2, nameIndex := 34, descriptorIndex := 35, attributes := #[] }, { accessFlags := 2, nameIndex := 30, descriptorIndex := 31, attributes := #[] }, { accessFlags := 18, nameIndex := 15, descriptorIndex := 16, attributes := #[] }, { accessFlags := 18, nameIndex := 19, descriptorIndex := 16, attributes := #[] }, { accessFlags := 18, nameIndex := 22, descriptorIndex := 23, attributes := #[] }])
  fields := #[{ name := "REMEMBERED_BATCHES", type := .int, accessFlags := 24, slot := 0, constantValue := 0 }, { name := "SEQUENCE_MASK", type := .int, accessFlags := 26, slot := 1, constantValue := 0 }, { name := "PACKED_WORDS", type := .int, accessFlags := 24, slot := 2, constantValue := 0 }, { name := "COUNT_MASK", type := .int, accessFlags := 26, slot := 3, constantValue := 0 }, { name := "EPOCH_AT", type := .int, accessFlags := 26, slot := 4, constantValue := 0 }, { name := "SEQUENCE_AT", type := .int, accessFlags := 26, slot := 5, constantValue := 0 }, { name := "COUNT_WIDTH_AT", type := .int, accessFlags := 26, slot := 6, constantValue := 0 }, { name := "COUNT_WIDTH_MASK", type := .int, accessFlags := 26, slot := 7, constantValue := 0 }, { name := "GAP_WIDTH_AT", type := .int, accessFlags := 26, slot := 8, constantValue := 0 }, { name := "GAP_WIDTH_MASK", type := .int, accessFlags := 26, slot := 9, constantValue := 0 }, { name := "SHARED_COUNT_AT", type := .int, accessFlags := 26, slot := 10, constantValue := 0 }, { name := "WINDOW_AT", type := .int, accessFlags := 26, slot := 11, constantValue := 0 }, { name := "STATE_BITS", type := .int, accessFlags := 26, slot := 12, constantValue := 0 }, { name := "UNWRAPPED_COUNT_WIDTH", type := .int, accessFlags := 26, slot := 13, constantValue := 0 }, { name := "epoch", type := .short, accessFlags := 2, slot := 0, constantValue := 0 }, { name := "remembered", type := .int, accessFlags := 2, slot := 1, constantValue := 0 }, { name := "firstSequences", type := (.array .int), accessFlags := 18, slot := 2, constantValue := 0 }, { name := "lastSequences", type := (.array .int), accessFlags := 18, slot := 3, constantValue := 0 }, { name := "baseOffsets", type := (.array .long), accessFlags := 18, slot := 4, constantValue := 0 }]
  methods := #[k2m0, k2m1, k2m2, k2m3, k2m4, k2m5, k2m6, k2m7, k2m8, k2m9, k2m10, k2m11, k2m12, k2m13, k2m14, k2m15, k2m16, k2m17, k2m18, k2m19, k2m20, k2m21, k2m22, k2m23, k2m24]
  instanceTypes := #[.short, .int, (.array .int), (.array .int), (.array .long)]
  staticTypes := #[.int, .int, .int, .int, .int, .int, .int, .int, .int, .int, .int, .int, .int, .int]
  resolved := Array.replicate 262 none
  statics := none }

def pool3 : Array CpInfo := pool [(2, .class_ 4), (1, u "java/lang/Object"), (2, .fieldref 8 9), (0, .class_ 10), (0, .nameAndType 11 12), (0, u "com/example/albatross/albatross/storage/SequenceCheck"), (0, u "outcome"), (0, u "Lcom/example/albatross/albatross/storage/SequenceCheck$Outcome;"), (2, u "originalBaseOffset"), (0, u "J"), (1, .class_ 20), (1, u "com/example/albatross/albatross/storage/SequenceCheck$Outcome"), (26, u "APPEND"), (4, u "Lcom/example/albatross/albatross/storage/SequenceCheck;"), (2, u "OUT_OF_ORDER_SEQUENCE"), (4, u "INVALID_PRODUCER_EPOCH"), (4, u "UNKNOWN_PRODUCER_ID"), (6, u "()Lcom/example/albatross/albatross/storage/SequenceCheck$Outcome;")] 29

def k3c0 : Code := { maxStack := 1, maxLocals := 1, code := prog_38_method_3_code, exceptionTable := #[], attributes := #[] }
def k3m0 : Method := { name := "outcome", desc := "()Lcom/example/albatross/albatross/storage/SequenceCheck$Outcome;", sig := { parameters := [], returnType := some (.object "com/example/albatross/albatross/storage/SequenceCheck$Outcome") }, accessFlags := 1, code := some k3c0 }
/-- com/example/albatross/albatross/storage/SequenceCheck -/
def k3 : Class := { plain "com/example/albatross/albatross/storage/SequenceCheck" (some 0) with
  accessFlags := 49
  interfaces := #[]
  cf := some (fileOf pool3 8 #[.nestMembers #[18]] #[{ accessFlags := 1, nameIndex := 11, descriptorIndex := 72, attributes := #[] }] 49 2 #[] #[{ accessFlags := 25, nameIndex := 47, descriptorIndex := 52, attributes := #[] }, { accessFlags := 25, nameIndex := 55, descriptorIndex := 52, attributes := #[] }, { accessFlags := 25, nameIndex := 60, descriptorIndex := 52, attributes := #[] }, { accessFlags := 25, nameIndex := 65, descriptorIndex := 52, attributes := #[] }, { accessFlags := 18, nameIndex := 11, descriptorIndex := 12, attributes := #[] }, { accessFlags := 18, nameIndex := 15, descriptorIndex := 16, attributes := #[] }])
  fields := #[{ name := "APPEND", type := (.object "com/example/albatross/albatross/storage/SequenceCheck"), accessFlags := 25, slot := 0, constantValue := 0 }, { name := "OUT_OF_ORDER_SEQUENCE", type := (.object "com/example/albatross/albatross/storage/SequenceCheck"), accessFlags := 25, slot := 1, constantValue := 0 }, { name := "INVALID_PRODUCER_EPOCH", type := (.object "com/example/albatross/albatross/storage/SequenceCheck"), accessFlags := 25, slot := 2, constantValue := 0 }, { name := "UNKNOWN_PRODUCER_ID", type := (.object "com/example/albatross/albatross/storage/SequenceCheck"), accessFlags := 25, slot := 3, constantValue := 0 }, { name := "outcome", type := (.object "com/example/albatross/albatross/storage/SequenceCheck$Outcome"), accessFlags := 18, slot := 0, constantValue := 0 }, { name := "originalBaseOffset", type := .long, accessFlags := 18, slot := 1, constantValue := 0 }]
  methods := #[k3m0]
  instanceTypes := #[(.object "com/example/albatross/albatross/storage/SequenceCheck$Outcome"), .long]
  staticTypes := #[(.object "com/example/albatross/albatross/storage/SequenceCheck"), (.object "com/example/albatross/albatross/storage/SequenceCheck"), (.object "com/example/albatross/albatross/storage/SequenceCheck"), (.object "com/example/albatross/albatross/storage/SequenceCheck")]
  resolved := Array.replicate 102 none
  statics := some 0 }

def pool4 : Array CpInfo := pool [(1, .class_ 2), (0, u "java/lang/constant/Constable"), (0, .class_ 4), (0, u "java/lang/Object")] 6

/-- java/lang/constant/Constable -/
def k4 : Class := { plain "java/lang/constant/Constable" (some 0) with
  accessFlags := 1537
  interfaces := #[]
  cf := some (fileOf pool4 1 #[] #[] 1537 3 #[] #[])
  fields := #[]
  methods := #[]
  instanceTypes := #[]
  staticTypes := #[]
  resolved := Array.replicate 11 none
  statics := none }

def pool5 : Array CpInfo := pool [(1, .class_ 2), (0, u "java/lang/Comparable"), (0, .class_ 4), (0, u "java/lang/Object")] 7

/-- java/lang/Comparable -/
def k5 : Class := { plain "java/lang/Comparable" (some 0) with
  accessFlags := 1537
  interfaces := #[]
  cf := some (fileOf pool5 1 #[] #[] 1537 3 #[] #[])
  fields := #[]
  methods := #[]
  instanceTypes := #[]
  staticTypes := #[]
  resolved := Array.replicate 12 none
  statics := none }

def pool6 : Array CpInfo := pool [(1, .class_ 2), (0, u "java/io/Serializable"), (0, .class_ 4), (0, u "java/lang/Object")] 2

/-- java/io/Serializable -/
def k6 : Class := { plain "java/io/Serializable" (some 0) with
  accessFlags := 1537
  interfaces := #[]
  cf := some (fileOf pool6 1 #[] #[] 1537 3 #[] #[])
  fields := #[]
  methods := #[]
  instanceTypes := #[]
  staticTypes := #[]
  resolved := Array.replicate 7 none
  statics := none }

def pool7 : Array CpInfo := pool [(2, .class_ 4), (1, u "java/lang/Enum"), (0, u "name"), (0, u "Ljava/lang/String;"), (2, u "ordinal"), (0, u "I"), (1, .class_ 14), (1, u "java/lang/Object"), (4, u "hash"), (86, .class_ 108), (1, u "java/lang/Enum$EnumDesc"), (2, .class_ 112), (0, u "java/lang/constant/Constable"), (0, .class_ 114), (0, u "java/lang/Comparable"), (0, .class_ 116), (0, u "java/io/Serializable")] 87

/-- java/lang/Enum -/
def k7 : Class := { plain "java/lang/Enum" (some 0) with
  accessFlags := 1057
  interfaces := #[4, 5, 6]
  cf := some (fileOf pool7 2 #[.nestMembers #[106]] #[] 1057 12 #[111, 113, 115] #[{ accessFlags := 18, nameIndex := 5, descriptorIndex := 6, attributes := #[] }, { accessFlags := 18, nameIndex := 9, descriptorIndex := 10, attributes := #[] }, { accessFlags := 2, nameIndex := 19, descriptorIndex := 10, attributes := #[] }])
  fields := #[{ name := "name", type := (.object "java/lang/String"), accessFlags := 18, slot := 0, constantValue := 0 }, { name := "ordinal", type := .int, accessFlags := 18, slot := 1, constantValue := 0 }, { name := "hash", type := .int, accessFlags := 2, slot := 2, constantValue := 0 }]
  methods := #[]
  instanceTypes := #[(.object "java/lang/String"), .int, .int]
  staticTypes := #[]
  resolved := Array.replicate 204 none
  statics := none }

def pool8 : Array CpInfo := pool [(1, .class_ 2), (0, u "com/example/albatross/albatross/storage/SequenceCheck$Outcome"), (2, u "APPEND"), (0, u "Lcom/example/albatross/albatross/storage/SequenceCheck$Outcome;"), (2, u "DUPLICATE"), (2, u "OUT_OF_ORDER_SEQUENCE"), (2, u "INVALID_PRODUCER_EPOCH"), (2, u "UNKNOWN_PRODUCER_ID"), (2, u "$VALUES"), (0, u "[Lcom/example/albatross/albatross/storage/SequenceCheck$Outcome;"), (6, .class_ 31), (1, u "java/lang/Enum"), (28, .class_ 61), (0, u "com/example/albatross/albatross/storage/SequenceCheck")] 2

/-- com/example/albatross/albatross/storage/SequenceCheck$Outcome -/
def k8 : Class := { plain "com/example/albatross/albatross/storage/SequenceCheck$Outcome" (some 7) with
  accessFlags := 16433
  interfaces := #[]
  cf := some (fileOf pool8 1 #[.nestHost 60] #[] 16433 29 #[] #[{ accessFlags := 16409, nameIndex := 5, descriptorIndex := 6, attributes := #[] }, { accessFlags := 16409, nameIndex := 9, descriptorIndex := 6, attributes := #[] }, { accessFlags := 16409, nameIndex := 12, descriptorIndex := 6, attributes := #[] }, { accessFlags := 16409, nameIndex := 15, descriptorIndex := 6, attributes := #[] }, { accessFlags := 16409, nameIndex := 18, descriptorIndex := 6, attributes := #[] }, { accessFlags := 4122, nameIndex := 21, descriptorIndex := 22, attributes := #[] }])
  fields := #[{ name := "APPEND", type := (.object "com/example/albatross/albatross/storage/SequenceCheck$Outcome"), accessFlags := 16409, slot := 0, constantValue := 0 }, { name := "DUPLICATE", type := (.object "com/example/albatross/albatross/storage/SequenceCheck$Outcome"), accessFlags := 16409, slot := 1, constantValue := 0 }, { name := "OUT_OF_ORDER_SEQUENCE", type := (.object "com/example/albatross/albatross/storage/SequenceCheck$Outcome"), accessFlags := 16409, slot := 2, constantValue := 0 }, { name := "INVALID_PRODUCER_EPOCH", type := (.object "com/example/albatross/albatross/storage/SequenceCheck$Outcome"), accessFlags := 16409, slot := 3, constantValue := 0 }, { name := "UNKNOWN_PRODUCER_ID", type := (.object "com/example/albatross/albatross/storage/SequenceCheck$Outcome"), accessFlags := 16409, slot := 4, constantValue := 0 }, { name := "$VALUES", type := (.array (.object "com/example/albatross/albatross/storage/SequenceCheck$Outcome")), accessFlags := 4122, slot := 5, constantValue := 0 }]
  methods := #[]
  instanceTypes := #[(.object "java/lang/String"), .int, .int]
  staticTypes := #[(.object "com/example/albatross/albatross/storage/SequenceCheck$Outcome"), (.object "com/example/albatross/albatross/storage/SequenceCheck$Outcome"), (.object "com/example/albatross/albatross/storage/SequenceCheck$Outcome"), (.object "com/example/albatross/albatross/storage/SequenceCheck$Outcome"), (.object "com/example/albatross/albatross/storage/SequenceCheck$Outcome"), (.array (.object "com/example/albatross/albatross/storage/SequenceCheck$Outcome"))]
  resolved := Array.replicate 64 none
  statics := some 1 }

def pool9 : Array CpInfo := pool [(2, .class_ 4), (1, u "java/lang/Object"), (0, u "<init>"), (0, u "()V"), (1, .class_ 10), (1, u "java/lang/Number"), (2, .class_ 14), (0, u "java/io/Serializable"), (0, u "serialVersionUID"), (0, u "J")] 20

def k9m0 : Method := { name := "<init>", desc := "()V", sig := { parameters := [], returnType := none }, accessFlags := 1, code := none }
/-- java/lang/Number -/
def k9 : Class := { plain "java/lang/Number" (some 0) with
  accessFlags := 1057
  interfaces := #[6]
  cf := some (fileOf pool9 8 #[] #[{ accessFlags := 1, nameIndex := 5, descriptorIndex := 6, attributes := #[] }] 1057 2 #[13] #[{ accessFlags := 26, nameIndex := 15, descriptorIndex := 16, attributes := #[] }])
  fields := #[{ name := "serialVersionUID", type := .long, accessFlags := 26, slot := 0, constantValue := 0 }]
  methods := #[k9m0]
  instanceTypes := #[]
  staticTypes := #[.long]
  resolved := Array.replicate 37 none
  statics := none }

def pool10 : Array CpInfo := pool [(1, .class_ 2), (0, u "java/lang/constant/ConstantDesc"), (0, .class_ 4), (0, u "java/lang/Object")] 32

/-- java/lang/constant/ConstantDesc -/
def k10 : Class := { plain "java/lang/constant/ConstantDesc" (some 0) with
  accessFlags := 1537
  interfaces := #[]
  cf := some (fileOf pool10 1 #[] #[] 1537 3 #[] #[])
  fields := #[]
  methods := #[]
  instanceTypes := #[]
  staticTypes := #[]
  resolved := Array.replicate 37 none
  statics := none }

def pool11 : Array CpInfo := pool [(1, .class_ 2), (0, u "java/lang/Long"), (15, .class_ 20), (1, u "java/lang/Integer"), (79, u "numberOfLeadingZeros"), (0, u "(J)I"), (133, .class_ 237), (1, u "java/lang/Long$LongCache"), (33, .class_ 272), (0, u "java/lang/Number"), (2, u "value"), (0, u "J"), (31, .methodref 18 309), (0, .nameAndType 100 310), (0, u "(I)I"), (50, u "TYPE"), (0, u "Ljava/lang/Class;"), (0, .class_ 364), (0, u "java/lang/Comparable"), (0, .class_ 366), (0, u "java/lang/constant/Constable"), (0, .class_ 368), (0, u "java/lang/constant/ConstantDesc"), (0, u "MIN_VALUE"), (1, u "MAX_VALUE"), (4, u "SIZE"), (0, u "I"), (1, u "BYTES"), (1, u "serialVersionUID")] 142

def k11c0 : Code := { maxStack := 3, maxLocals := 3, code := jdk_35_method_48_code, exceptionTable := #[], attributes := #[] }
def k11m0 : Method := { name := "numberOfLeadingZeros", desc := "(J)I", sig := { parameters := [.long], returnType := some .int }, accessFlags := 9, code := some k11c0 }
/-- java/lang/Long -/
def k11 : Class := { plain "java/lang/Long" (some 9) with
  accessFlags := 49
  interfaces := #[5, 4, 10]
  cf := some (fileOf pool11 1 #[.nestMembers #[235]] #[{ accessFlags := 9, nameIndex := 100, descriptorIndex := 101, attributes := #[] }] 49 271 #[363, 365, 367] #[{ accessFlags := 25, nameIndex := 369, descriptorIndex := 276, attributes := #[] }, { accessFlags := 25, nameIndex := 371, descriptorIndex := 276, attributes := #[] }, { accessFlags := 25, nameIndex := 361, descriptorIndex := 362, attributes := #[] }, { accessFlags := 18, nameIndex := 275, descriptorIndex := 276, attributes := #[] }, { accessFlags := 25, nameIndex := 376, descriptorIndex := 377, attributes := #[] }, { accessFlags := 25, nameIndex := 379, descriptorIndex := 377, attributes := #[] }, { accessFlags := 26, nameIndex := 381, descriptorIndex := 276, attributes := #[] }])
  fields := #[{ name := "MIN_VALUE", type := .long, accessFlags := 25, slot := 0, constantValue := 0 }, { name := "MAX_VALUE", type := .long, accessFlags := 25, slot := 1, constantValue := 0 }, { name := "TYPE", type := (.object "java/lang/Class"), accessFlags := 25, slot := 2, constantValue := 0 }, { name := "value", type := .long, accessFlags := 18, slot := 0, constantValue := 0 }, { name := "SIZE", type := .int, accessFlags := 25, slot := 3, constantValue := 0 }, { name := "BYTES", type := .int, accessFlags := 25, slot := 4, constantValue := 0 }, { name := "serialVersionUID", type := .long, accessFlags := 26, slot := 5, constantValue := 0 }]
  methods := #[k11m0]
  instanceTypes := #[.long]
  staticTypes := #[.long, .long, (.object "java/lang/Class"), .int, .int, .long]
  resolved := Array.replicate 524 none
  statics := none }

def pool12 : Array CpInfo := pool [(1, .class_ 2), (0, u "java/lang/Integer"), (16, u "digits"), (0, u "[C"), (32, u "numberOfLeadingZeros"), (0, u "(I)I"), (30, u "DigitOnes"), (0, u "[B"), (2, u "DigitTens"), (99, .class_ 190), (0, u "java/lang/Integer$IntegerCache"), (3, u "I"), (8, .class_ 204), (0, u "java/lang/Number"), (2, u "value"), (56, .integer 65536), (37, u "TYPE"), (0, u "Ljava/lang/Class;"), (0, .class_ 305), (0, u "java/lang/Comparable"), (0, .class_ 307), (0, u "java/lang/constant/Constable"), (0, .class_ 309), (0, u "java/lang/constant/ConstantDesc"), (0, u "MIN_VALUE"), (1, u "MAX_VALUE"), (3, u "SIZE"), (1, u "BYTES"), (1, u "serialVersionUID"), (0, u "J")] 131

def k12c0 : Code := { maxStack := 3, maxLocals := 2, code := jdk_33_method_47_code, exceptionTable := #[], attributes := #[] }
def k12m0 : Method := { name := "numberOfLeadingZeros", desc := "(I)I", sig := { parameters := [.int], returnType := some .int }, accessFlags := 9, code := some k12c0 }
/-- java/lang/Integer -/
def k12 : Class := { plain "java/lang/Integer" (some 9) with
  accessFlags := 49
  interfaces := #[5, 4, 10]
  cf := some (fileOf pool12 1 #[.nestMembers #[189]] #[{ accessFlags := 9, nameIndex := 53, descriptorIndex := 54, attributes := #[] }] 49 203 #[304, 306, 308] #[{ accessFlags := 25, nameIndex := 310, descriptorIndex := 194, attributes := #[] }, { accessFlags := 25, nameIndex := 312, descriptorIndex := 194, attributes := #[] }, { accessFlags := 25, nameIndex := 302, descriptorIndex := 303, attributes := #[] }, { accessFlags := 24, nameIndex := 19, descriptorIndex := 20, attributes := #[] }, { accessFlags := 24, nameIndex := 89, descriptorIndex := 86, attributes := #[] }, { accessFlags := 24, nameIndex := 85, descriptorIndex := 86, attributes := #[] }, { accessFlags := 18, nameIndex := 207, descriptorIndex := 194, attributes := #[] }, { accessFlags := 25, nameIndex := 316, descriptorIndex := 194, attributes := #[] }, { accessFlags := 25, nameIndex := 318, descriptorIndex := 194, attributes := #[] }, { accessFlags := 26, nameIndex := 320, descriptorIndex := 321, attributes := #[] }])
  fields := #[{ name := "MIN_VALUE", type := .int, accessFlags := 25, slot := 0, constantValue := 0 }, { name := "MAX_VALUE", type := .int, accessFlags := 25, slot := 1, constantValue := 0 }, { name := "TYPE", type := (.object "java/lang/Class"), accessFlags := 25, slot := 2, constantValue := 0 }, { name := "digits", type := (.array .char), accessFlags := 24, slot := 3, constantValue := 0 }, { name := "DigitTens", type := (.array .byte), accessFlags := 24, slot := 4, constantValue := 0 }, { name := "DigitOnes", type := (.array .byte), accessFlags := 24, slot := 5, constantValue := 0 }, { name := "value", type := .int, accessFlags := 18, slot := 0, constantValue := 0 }, { name := "SIZE", type := .int, accessFlags := 25, slot := 6, constantValue := 0 }, { name := "BYTES", type := .int, accessFlags := 25, slot := 7, constantValue := 0 }, { name := "serialVersionUID", type := .long, accessFlags := 26, slot := 8, constantValue := 0 }]
  methods := #[k12m0]
  instanceTypes := #[.int]
  staticTypes := #[.int, .int, (.object "java/lang/Class"), (.array .char), (.array .byte), (.array .byte), .int, .int, .long]
  resolved := Array.replicate 453 none
  statics := none }

def pool13 : Array CpInfo := pool [(1, .class_ 2), (0, u "java/lang/Math"), (1, .class_ 6), (1, u "java/lang/Object"), (0, u "<init>"), (0, u "()V"), (89, .class_ 100), (1, u "java/lang/Math$RandomNumberGeneratorHolder"), (71, u "negativeZeroFloatBits"), (0, u "J"), (2, u "negativeZeroDoubleBits"), (21, u "max"), (2, u "min"), (43, u "$assertionsDisabled"), (0, u "Z"), (88, u "(II)I"), (2, u "twoToTheDoubleScaleDown"), (0, u "D"), (4, u "twoToTheDoubleScaleUp"), (9, u "E"), (3, u "PI"), (2, u "TAU"), (2, u "DEGREES_TO_RADIANS"), (0, u "RADIANS_TO_DEGREES")] 94

def k13m0 : Method := { name := "<init>", desc := "()V", sig := { parameters := [], returnType := none }, accessFlags := 2, code := none }
def k13c1 : Code := { maxStack := 2, maxLocals := 2, code := jdk_29_method_65_code, exceptionTable := #[], attributes := #[] }
def k13m1 : Method := { name := "max", desc := "(II)I", sig := { parameters := [.int, .int], returnType := some .int }, accessFlags := 9, code := some k13c1 }
def k13c2 : Code := { maxStack := 2, maxLocals := 2, code := jdk_29_method_69_code, exceptionTable := #[], attributes := #[] }
def k13m2 : Method := { name := "min", desc := "(II)I", sig := { parameters := [.int, .int], returnType := some .int }, accessFlags := 9, code := some k13c2 }
/-- java/lang/Math -/
def k13 : Class := { plain "java/lang/Math" (some 0) with
  accessFlags := 49
  interfaces := #[]
  cf := some (fileOf pool13 1 #[.nestMembers #[98]] #[{ accessFlags := 2, nameIndex := 7, descriptorIndex := 8, attributes := #[] }, { accessFlags := 9, nameIndex := 198, descriptorIndex := 335, attributes := #[] }, { accessFlags := 9, nameIndex := 201, descriptorIndex := 335, attributes := #[] }] 49 4 #[] #[{ accessFlags := 25, nameIndex := 354, descriptorIndex := 339, attributes := #[] }, { accessFlags := 25, nameIndex := 358, descriptorIndex := 339, attributes := #[] }, { accessFlags := 25, nameIndex := 361, descriptorIndex := 339, attributes := #[] }, { accessFlags := 26, nameIndex := 364, descriptorIndex := 339, attributes := #[] }, { accessFlags := 26, nameIndex := 365, descriptorIndex := 339, attributes := #[] }, { accessFlags := 26, nameIndex := 172, descriptorIndex := 173, attributes := #[] }, { accessFlags := 26, nameIndex := 176, descriptorIndex := 173, attributes := #[] }, { accessFlags := 8, nameIndex := 344, descriptorIndex := 339, attributes := #[] }, { accessFlags := 8, nameIndex := 338, descriptorIndex := 339, attributes := #[] }, { accessFlags := 4120, nameIndex := 245, descriptorIndex := 246, attributes := #[] }])
  fields := #[{ name := "E", type := .double, accessFlags := 25, slot := 0, constantValue := 0 }, { name := "PI", type := .double, accessFlags := 25, slot := 1, constantValue := 0 }, { name := "TAU", type := .double, accessFlags := 25, slot := 2, constantValue := 0 }, { name := "DEGREES_TO_RADIANS", type := .double, accessFlags := 26, slot := 3, constantValue := 0 }, { name := "RADIANS_TO_DEGREES", type := .double, accessFlags := 26, slot := 4, constantValue := 0 }, { name := "negativeZeroFloatBits", type := .long, accessFlags := 26, slot := 5, constantValue := 0 }, { name := "negativeZeroDoubleBits", type := .long, accessFlags := 26, slot := 6, constantValue := 0 }, { name := "twoToTheDoubleScaleUp", type := .double, accessFlags := 8, slot := 7, constantValue := 0 }, { name := "twoToTheDoubleScaleDown", type := .double, accessFlags := 8, slot := 8, constantValue := 0 }, { name := "$assertionsDisabled", type := .boolean, accessFlags := 4120, slot := 9, constantValue := 0 }]
  methods := #[k13m0, k13m1, k13m2]
  instanceTypes := #[]
  staticTypes := #[.double, .double, .double, .double, .double, .long, .long, .double, .double, .boolean]
  resolved := Array.replicate 460 none
  statics := none }

def pool14 : Array CpInfo := pool [(1, u "java/lang/Cloneable"), (0, .class_ 1), (0, u "java/lang/Object"), (0, .class_ 3)] 3

/-- java/lang/Cloneable -/
def k14 : Class := { plain "java/lang/Cloneable" (some 0) with
  accessFlags := 1537
  interfaces := #[]
  cf := some (fileOf pool14 2 #[] #[] 1537 4 #[] #[])
  fields := #[]
  methods := #[]
  instanceTypes := #[]
  staticTypes := #[]
  resolved := Array.replicate 8 none
  statics := none }

/-- the primitive byte -/
def k15 : Class := { plain "byte" none with kind := .primitive 'B', accessFlags := 0x411 }
/-- [B -/
def k16 : Class := { plain "[B" (some 0) with kind := .array 15 .byte, interfaces := #[14, 6], accessFlags := 1041 }

/-- the primitive int -/
def k17 : Class := { plain "int" none with kind := .primitive 'I', accessFlags := 0x411 }
/-- [I -/
def k18 : Class := { plain "[I" (some 0) with kind := .array 17 .int, interfaces := #[14, 6], accessFlags := 1041 }

/-- the primitive long -/
def k19 : Class := { plain "long" none with kind := .primitive 'J', accessFlags := 0x411 }
/-- [J -/
def k20 : Class := { plain "[J" (some 0) with kind := .array 19 .long, interfaces := #[14, 6], accessFlags := 1041 }

def heap : Heap := #[{ cls := 3, slots := #[.ref 5, .ref 6, .ref 7, .null], vm := .statics 3 },
  { cls := 8, slots := #[.ref 2, .null, .ref 3, .ref 4, .null, .null], vm := .statics 8 },
  { cls := 8, slots := #[.null, .int 0, .int 0], vm := .none },
  { cls := 8, slots := #[.null, .int 2, .int 0], vm := .none },
  { cls := 8, slots := #[.null, .int 3, .int 0], vm := .none },
  { cls := 3, slots := #[.ref 2, .long 0], vm := .none },
  { cls := 3, slots := #[.ref 3, .long 0], vm := .none },
  { cls := 3, slots := #[.ref 4, .long 0], vm := .none }]
def classes : Array Class := #[k0, k1, k2, k3, k4, k5, k6, k7, k8, k9, k10, k11, k12, k13, k14, k15, k16, k17, k18, k19, k20]
def interned : List (Array UInt16 × Addr) := []
def slotsUsed : Nat := 25
def theMethod : MethodId := ⟨1, 1⟩
def args0 : Array Value := #[.int 5, .int 63, .int 65, .long 7, .long 9, .int 3]
def aboutOver (below : List Frame) : State where
  vm := { classes := classes, interned := interned.toArray }
  heap := heap
  slotsUsed := slotsUsed
  threads := #[{ frames := .invoking theMethod args0 :: below }]
def below0 : List Frame := [.native { method := ⟨0, 0⟩, args := #[] }]
def about1 : State := aboutOver below0
def p0 : Program := .bare "" "" ""
def e0 : Env := launch0.env 0 0 0
theorem w_frames : about1.frames = Frame.invoking theMethod args0 :: below0 := rfl
set_option maxRecDepth 65536 in
theorem w_args : argsFit about1.vm theMethod args0 = true := by decide +kernel
set_option maxRecDepth 65536 in
theorem w_heap : heapFits about1 = true := by decide +kernel
set_option maxRecDepth 65536 in
theorem w_runnable : about1.curStatus? = some .runnable := by decide +kernel
set_option maxRecDepth 65536 in
theorem w_alone : about1.alone = true := by decide +kernel
set_option maxRecDepth 65536 in
theorem w_named : about1.methodNamed? x = some theMethod := by decide +kernel
set_option maxRecDepth 65536 in
theorem w_hears : about1.hears theMethod below0 = true := by decide +kernel
set_option maxRecDepth 65536 in
theorem w_ripe : about1.ripe theMethod args0 below0 = true := by decide +kernel
theorem w_running : about1.status = .running := rfl
set_option maxRecDepth 65536 in
theorem w_room : about1.hasRoom e0.platform room_1 = true :=
  launch0.hasRoom_least _ room_1 (by decide +kernel) (by decide +kernel) (by decide +kernel) (by decide +kernel) (by decide +kernel) (by decide +kernel)
theorem allAtoms_all (ts : List Jvm.Cond) (a : Array Jvm.Value) (st : Jvm.State) : (allAtoms ts).before a st = ts.all (fun c => c.before a st) := by
  induction ts with
  | nil => rfl
  | cons c t ih =>
    show (Jvm.Cond.and c (allAtoms t)).before a st = _
    rw [Jvm.Cond.before_and, ih, List.all_cons]
def words1 : List Jvm.Cond := Jvm.Cond.code x code maxLocals ret :: tables_1
/-- a 'code' word, met by the world's own term for the bytes: nothing is compared byte by byte -/
theorem code_word {y : MethodName} {bytes : ByteArray} {mx : Nat} {rt : Option FieldType} {a : Array Value} {s : State} {m : MethodId} {meth : Method} {c : Code} (h1 : s.methodNamed? y = some m) (h2 : s.vm.method? m = some meth) (h3 : meth.code = some c) (h4 : c.code = bytes)
    (h5 : (c.maxLocals == mx && c.exceptionTable.isEmpty && decide (c.maxStack ≤ mostOperands) && decide (meth.sig.returnType = rt) && !meth.locks && decide (parseMethodDescriptor y.desc = some meth.sig)) = true) : (Jvm.Cond.code y bytes mx rt).before a s = true := by
  simp only [Bool.and_eq_true, beq_iff_eq, Bool.not_eq_true', decide_eq_true_eq] at h5
  obtain ⟨⟨⟨⟨⟨g1, g2⟩, g3⟩, g4⟩, g5⟩, g6⟩ := h5
  simp [Cond.before, Cond.holds, Cond.value, h1, h2, h3, h4, g1, g2, g3, g4, g5, g6]
def isCode : Jvm.Cond → Bool
  | .code _ _ _ _ => true
  | _ => false
theorem all_split {L : List Jvm.Cond} {P : Jvm.Cond → Bool} (h1 : L.all (fun c => isCode c || P c) = true) (h2 : ∀ c ∈ L.filter isCode, P c = true) : L.all P = true := by
  refine List.all_eq_true.mpr fun c hc => ?_
  have h := List.all_eq_true.mp h1 c hc
  rcases Bool.eq_false_or_eq_true (isCode c) with hi | hi
  · exact h2 c (List.mem_filter.mpr ⟨hc, hi⟩)
  · simpa [hi] using h
set_option maxRecDepth 65536 in
theorem w_c0 : (Jvm.Cond.code x code maxLocals ret).before args0 about1 = true := code_word (m := ⟨1, 1⟩) (meth := k1m1) (c := k1c1) (by decide +kernel) rfl rfl rfl (by decide +kernel)
set_option maxRecDepth 65536 in
theorem w_c1 : (Jvm.Cond.code ({ cls := "com/example/albatross/albatross/storage/ProducerState", name := "<init>", desc := "()V" } : Jvm.MethodName) prog_35_method_1_code (1 : Nat) (Option.none : Option Jvm.ClassFile.FieldType)).before args0 about1 = true := code_word (m := ⟨2, 0⟩) (meth := k2m0) (c := k2c0) (by decide +kernel) rfl rfl rfl (by decide +kernel)
set_option maxRecDepth 65536 in
theorem w_c2 : (Jvm.Cond.code ({ cls := "java/lang/Object", name := "<init>", desc := "()V" } : Jvm.MethodName) object_method_1_code (1 : Nat) (Option.none : Option Jvm.ClassFile.FieldType)).before args0 about1 = true := code_word (m := ⟨0, 0⟩) (meth := k0m0) (c := k0c0) (by decide +kernel) rfl rfl rfl (by decide +kernel)
set_option maxRecDepth 65536 in
theorem w_c3 : (Jvm.Cond.code ({ cls := "com/example/albatross/albatross/storage/ProducerState", name := "packInto", desc := "([JI)Z" } : Jvm.MethodName) prog_35_method_11_code (13 : Nat) (Option.some Jvm.ClassFile.FieldType.boolean)).before args0 about1 = true := code_word (m := ⟨2, 3⟩) (meth := k2m3) (c := k2c3) (by decide +kernel) rfl rfl rfl (by decide +kernel)
set_option maxRecDepth 65536 in
theorem w_c4 : (Jvm.Cond.code ({ cls := "com/example/albatross/albatross/storage/ProducerState", name := "isPacked", desc := "([JI)Z" } : Jvm.MethodName) prog_35_method_15_code (2 : Nat) (Option.some Jvm.ClassFile.FieldType.boolean)).before args0 about1 = true := code_word (m := ⟨2, 4⟩) (meth := k2m4) (c := k2c4) (by decide +kernel) rfl rfl rfl (by decide +kernel)
set_option maxRecDepth 65536 in
theorem w_c5 : (Jvm.Cond.code ({ cls := "com/example/albatross/albatross/storage/ProducerState", name := "replay", desc := "(SIIJ)V" } : Jvm.MethodName) prog_35_method_4_code (6 : Nat) (Option.none : Option Jvm.ClassFile.FieldType)).before args0 about1 = true := code_word (m := ⟨2, 2⟩) (meth := k2m2) (c := k2c2) (by decide +kernel) rfl rfl rfl (by decide +kernel)
set_option maxRecDepth 65536 in
theorem w_c6 : (Jvm.Cond.code ({ cls := "com/example/albatross/albatross/storage/ProducerState", name := "check", desc := "(SII)Lcom/example/albatross/albatross/storage/SequenceCheck;" } : Jvm.MethodName) prog_35_method_2_code (6 : Nat) (Option.some (Jvm.ClassFile.FieldType.object "com/example/albatross/albatross/storage/SequenceCheck"))).before args0 about1 = true := code_word (m := ⟨2, 1⟩) (meth := k2m1) (c := k2c1) (by decide +kernel) rfl rfl rfl (by decide +kernel)
set_option maxRecDepth 65536 in
theorem w_c7 : (Jvm.Cond.code ({ cls := "com/example/albatross/albatross/storage/ProducerState", name := "lastSequence", desc := "(II)I" } : Jvm.MethodName) prog_35_method_23_code (2 : Nat) (Option.some Jvm.ClassFile.FieldType.int)).before args0 about1 = true := code_word (m := ⟨2, 11⟩) (meth := k2m11) (c := k2c11) (by decide +kernel) rfl rfl rfl (by decide +kernel)
set_option maxRecDepth 65536 in
theorem w_c8 : (Jvm.Cond.code ({ cls := "com/example/albatross/albatross/storage/ProducerState", name := "advance", desc := "(II)I" } : Jvm.MethodName) prog_35_method_24_code (2 : Nat) (Option.some Jvm.ClassFile.FieldType.int)).before args0 about1 = true := code_word (m := ⟨2, 12⟩) (meth := k2m12) (c := k2c12) (by decide +kernel) rfl rfl rfl (by decide +kernel)
set_option maxRecDepth 65536 in
theorem w_c9 : (Jvm.Cond.code ({ cls := "com/example/albatross/albatross/storage/SequenceCheck", name := "outcome", desc := "()Lcom/example/albatross/albatross/storage/SequenceCheck$Outcome;" } : Jvm.MethodName) prog_38_method_3_code (1 : Nat) (Option.some (Jvm.ClassFile.FieldType.object "com/example/albatross/albatross/storage/SequenceCheck$Outcome"))).before args0 about1 = true := code_word (m := ⟨3, 0⟩) (meth := k3m0) (c := k3c0) (by decide +kernel) rfl rfl rfl (by decide +kernel)
set_option maxRecDepth 65536 in
theorem w_c10 : (Jvm.Cond.code ({ cls := "com/example/albatross/albatross/storage/ProducerState", name := "push", desc := "(SIIJ)V" } : Jvm.MethodName) prog_35_method_18_code (6 : Nat) (Option.none : Option Jvm.ClassFile.FieldType)).before args0 about1 = true := code_word (m := ⟨2, 6⟩) (meth := k2m6) (c := k2c6) (by decide +kernel) rfl rfl rfl (by decide +kernel)
set_option maxRecDepth 65536 in
theorem w_c11 : (Jvm.Cond.code ({ cls := "com/example/albatross/albatross/storage/ProducerState", name := "add", desc := "(IIJ)V" } : Jvm.MethodName) prog_35_method_19_code (5 : Nat) (Option.none : Option Jvm.ClassFile.FieldType)).before args0 about1 = true := code_word (m := ⟨2, 7⟩) (meth := k2m7) (c := k2c7) (by decide +kernel) rfl rfl rfl (by decide +kernel)
set_option maxRecDepth 65536 in
theorem w_c12 : (Jvm.Cond.code ({ cls := "com/example/albatross/albatross/storage/ProducerState", name := "checkCurrentEpoch", desc := "(II)Lcom/example/albatross/albatross/storage/SequenceCheck;" } : Jvm.MethodName) prog_35_method_22_code (6 : Nat) (Option.some (Jvm.ClassFile.FieldType.object "com/example/albatross/albatross/storage/SequenceCheck"))).before args0 about1 = true := code_word (m := ⟨2, 10⟩) (meth := k2m10) (c := k2c10) (by decide +kernel) rfl rfl rfl (by decide +kernel)
set_option maxRecDepth 65536 in
theorem w_c13 : (Jvm.Cond.code ({ cls := "com/example/albatross/albatross/storage/ProducerState", name := "gapAfter", desc := "(I)J" } : Jvm.MethodName) prog_35_method_21_code (2 : Nat) (Option.some Jvm.ClassFile.FieldType.long)).before args0 about1 = true := code_word (m := ⟨2, 9⟩) (meth := k2m9) (c := k2c9) (by decide +kernel) rfl rfl rfl (by decide +kernel)
set_option maxRecDepth 65536 in
theorem w_c14 : (Jvm.Cond.code ({ cls := "com/example/albatross/albatross/storage/ProducerState", name := "lessOne", desc := "(I)I" } : Jvm.MethodName) prog_35_method_20_code (2 : Nat) (Option.some Jvm.ClassFile.FieldType.int)).before args0 about1 = true := code_word (m := ⟨2, 8⟩) (meth := k2m8) (c := k2c8) (by decide +kernel) rfl rfl rfl (by decide +kernel)
set_option maxRecDepth 65536 in
theorem w_c15 : (Jvm.Cond.code ({ cls := "com/example/albatross/albatross/storage/ProducerState", name := "bitLength", desc := "(J)I" } : Jvm.MethodName) prog_35_method_25_code (2 : Nat) (Option.some Jvm.ClassFile.FieldType.int)).before args0 about1 = true := code_word (m := ⟨2, 13⟩) (meth := k2m13) (c := k2c13) (by decide +kernel) rfl rfl rfl (by decide +kernel)
set_option maxRecDepth 65536 in
theorem w_c16 : (Jvm.Cond.code ({ cls := "java/lang/Long", name := "numberOfLeadingZeros", desc := "(J)I" } : Jvm.MethodName) jdk_35_method_48_code (3 : Nat) (Option.some Jvm.ClassFile.FieldType.int)).before args0 about1 = true := code_word (m := ⟨11, 0⟩) (meth := k11m0) (c := k11c0) (by decide +kernel) rfl rfl rfl (by decide +kernel)
set_option maxRecDepth 65536 in
theorem w_c17 : (Jvm.Cond.code ({ cls := "java/lang/Integer", name := "numberOfLeadingZeros", desc := "(I)I" } : Jvm.MethodName) jdk_33_method_47_code (2 : Nat) (Option.some Jvm.ClassFile.FieldType.int)).before args0 about1 = true := code_word (m := ⟨12, 0⟩) (meth := k12m0) (c := k12c0) (by decide +kernel) rfl rfl rfl (by decide +kernel)
set_option maxRecDepth 65536 in
theorem w_c18 : (Jvm.Cond.code ({ cls := "com/example/albatross/albatross/storage/ProducerState", name := "windowBits", desc := "(IIIZ)I" } : Jvm.MethodName) prog_35_method_34_code (4 : Nat) (Option.some Jvm.ClassFile.FieldType.int)).before args0 about1 = true := code_word (m := ⟨2, 22⟩) (meth := k2m22) (c := k2c22) (by decide +kernel) rfl rfl rfl (by decide +kernel)
set_option maxRecDepth 65536 in
theorem w_c19 : (Jvm.Cond.code ({ cls := "com/example/albatross/albatross/storage/ProducerState", name := "batchBits", desc := "(IIZ)I" } : Jvm.MethodName) prog_35_method_33_code (3 : Nat) (Option.some Jvm.ClassFile.FieldType.int)).before args0 about1 = true := code_word (m := ⟨2, 21⟩) (meth := k2m21) (c := k2c21) (by decide +kernel) rfl rfl rfl (by decide +kernel)
set_option maxRecDepth 65536 in
theorem w_c20 : (Jvm.Cond.code ({ cls := "com/example/albatross/albatross/storage/ProducerState", name := "fits", desc := "(II)Z" } : Jvm.MethodName) prog_35_method_35_code (2 : Nat) (Option.some Jvm.ClassFile.FieldType.boolean)).before args0 about1 = true := code_word (m := ⟨2, 23⟩) (meth := k2m23) (c := k2c23) (by decide +kernel) rfl rfl rfl (by decide +kernel)
set_option maxRecDepth 65536 in
theorem w_c21 : (Jvm.Cond.code ({ cls := "com/example/albatross/albatross/storage/ProducerState", name := "header", desc := "(ISIIIZ)J" } : Jvm.MethodName) prog_35_method_26_code (6 : Nat) (Option.some Jvm.ClassFile.FieldType.long)).before args0 about1 = true := code_word (m := ⟨2, 14⟩) (meth := k2m14) (c := k2c14) (by decide +kernel) rfl rfl rfl (by decide +kernel)
set_option maxRecDepth 65536 in
theorem w_c22 : (Jvm.Cond.code ({ cls := "com/example/albatross/albatross/storage/ProducerState", name := "pushPacked", desc := "([JIIJ)Z" } : Jvm.MethodName) prog_35_method_17_code (27 : Nat) (Option.some Jvm.ClassFile.FieldType.boolean)).before args0 about1 = true := code_word (m := ⟨2, 5⟩) (meth := k2m5) (c := k2c5) (by decide +kernel) rfl rfl rfl (by decide +kernel)
set_option maxRecDepth 65536 in
theorem w_c23 : (Jvm.Cond.code ({ cls := "com/example/albatross/albatross/storage/ProducerState", name := "countWidthOf", desc := "(J)I" } : Jvm.MethodName) prog_35_method_29_code (2 : Nat) (Option.some Jvm.ClassFile.FieldType.int)).before args0 about1 = true := code_word (m := ⟨2, 17⟩) (meth := k2m17) (c := k2c17) (by decide +kernel) rfl rfl rfl (by decide +kernel)
set_option maxRecDepth 65536 in
theorem w_c24 : (Jvm.Cond.code ({ cls := "com/example/albatross/albatross/storage/ProducerState", name := "gapWidthOf", desc := "(J)I" } : Jvm.MethodName) prog_35_method_30_code (2 : Nat) (Option.some Jvm.ClassFile.FieldType.int)).before args0 about1 = true := code_word (m := ⟨2, 18⟩) (meth := k2m18) (c := k2c18) (by decide +kernel) rfl rfl rfl (by decide +kernel)
set_option maxRecDepth 65536 in
theorem w_c25 : (Jvm.Cond.code ({ cls := "com/example/albatross/albatross/storage/ProducerState", name := "sharesCount", desc := "(J)Z" } : Jvm.MethodName) prog_35_method_31_code (2 : Nat) (Option.some Jvm.ClassFile.FieldType.boolean)).before args0 about1 = true := code_word (m := ⟨2, 19⟩) (meth := k2m19) (c := k2c19) (by decide +kernel) rfl rfl rfl (by decide +kernel)
set_option maxRecDepth 65536 in
theorem w_c26 : (Jvm.Cond.code ({ cls := "com/example/albatross/albatross/storage/ProducerState", name := "lowBits", desc := "(I)J" } : Jvm.MethodName) prog_35_method_36_code (1 : Nat) (Option.some Jvm.ClassFile.FieldType.long)).before args0 about1 = true := code_word (m := ⟨2, 24⟩) (meth := k2m24) (c := k2c24) (by decide +kernel) rfl rfl rfl (by decide +kernel)
set_option maxRecDepth 65536 in
theorem w_c27 : (Jvm.Cond.code ({ cls := "com/example/albatross/albatross/storage/ProducerState", name := "offsetAfter", desc := "(JJJI)J" } : Jvm.MethodName) prog_35_method_32_code (9 : Nat) (Option.some Jvm.ClassFile.FieldType.long)).before args0 about1 = true := code_word (m := ⟨2, 20⟩) (meth := k2m20) (c := k2c20) (by decide +kernel) rfl rfl rfl (by decide +kernel)
set_option maxRecDepth 65536 in
theorem w_c28 : (Jvm.Cond.code ({ cls := "java/lang/Math", name := "min", desc := "(II)I" } : Jvm.MethodName) jdk_29_method_69_code (2 : Nat) (Option.some Jvm.ClassFile.FieldType.int)).before args0 about1 = true := code_word (m := ⟨13, 2⟩) (meth := k13m2) (c := k13c2) (by decide +kernel) rfl rfl rfl (by decide +kernel)
set_option maxRecDepth 65536 in
theorem w_c29 : (Jvm.Cond.code ({ cls := "java/lang/Math", name := "max", desc := "(II)I" } : Jvm.MethodName) jdk_29_method_65_code (2 : Nat) (Option.some Jvm.ClassFile.FieldType.int)).before args0 about1 = true := code_word (m := ⟨13, 1⟩) (meth := k13m1) (c := k13c1) (by decide +kernel) rfl rfl rfl (by decide +kernel)
set_option maxRecDepth 65536 in
theorem w_c30 : (Jvm.Cond.code ({ cls := "com/example/albatross/albatross/storage/ProducerState", name := "lastSequenceOf", desc := "(J)I" } : Jvm.MethodName) prog_35_method_28_code (2 : Nat) (Option.some Jvm.ClassFile.FieldType.int)).before args0 about1 = true := code_word (m := ⟨2, 16⟩) (meth := k2m16) (c := k2c16) (by decide +kernel) rfl rfl rfl (by decide +kernel)
set_option maxRecDepth 65536 in
theorem w_c31 : (Jvm.Cond.code ({ cls := "com/example/albatross/albatross/storage/ProducerState", name := "epochOf", desc := "(J)S" } : Jvm.MethodName) prog_35_method_27_code (2 : Nat) (Option.some Jvm.ClassFile.FieldType.short)).before args0 about1 = true := code_word (m := ⟨2, 15⟩) (meth := k2m15) (c := k2c15) (by decide +kernel) rfl rfl rfl (by decide +kernel)
def codes1 : List Jvm.Cond := [Jvm.Cond.code x code maxLocals ret, Jvm.Cond.code ({ cls := "com/example/albatross/albatross/storage/ProducerState", name := "<init>", desc := "()V" } : Jvm.MethodName) prog_35_method_1_code (1 : Nat) (Option.none : Option Jvm.ClassFile.FieldType), Jvm.Cond.code ({ cls := "java/lang/Object", name := "<init>", desc := "()V" } : Jvm.MethodName) object_method_1_code (1 : Nat) (Option.none : Option Jvm.ClassFile.FieldType), Jvm.Cond.code ({ cls := "com/example/albatross/albatross/storage/ProducerState", name := "packInto", desc := "([JI)Z" } : Jvm.MethodName) prog_35_method_11_code (13 : Nat) (Option.some Jvm.ClassFile.FieldType.boolean), Jvm.Cond.code ({ cls := "com/example/albatross/albatross/storage/ProducerState", name := "isPacked", desc := "([JI)Z" } : Jvm.MethodName) prog_35_method_15_code (2 : Nat) (Option.some Jvm.ClassFile.FieldType.boolean), Jvm.Cond.code ({ cls := "com/example/albatross/albatross/storage/ProducerState", name := "replay", desc := "(SIIJ)V" } : Jvm.MethodName) prog_35_method_4_code (6 : Nat) (Option.none : Option Jvm.ClassFile.FieldType), Jvm.Cond.code ({ cls := "com/example/albatross/albatross/storage/ProducerState", name := "check", desc := "(SII)Lcom/example/albatross/albatross/storage/SequenceCheck;" } : Jvm.MethodName) prog_35_method_2_code (6 : Nat) (Option.some (Jvm.ClassFile.FieldType.object "com/example/albatross/albatross/storage/SequenceCheck")), Jvm.Cond.code ({ cls := "com/example/albatross/albatross/storage/ProducerState", name := "lastSequence", desc := "(II)I" } : Jvm.MethodName) prog_35_method_23_code (2 : Nat) (Option.some Jvm.ClassFile.FieldType.int), Jvm.Cond.code ({ cls := "com/example/albatross/albatross/storage/ProducerState", name := "advance", desc := "(II)I" } : Jvm.MethodName) prog_35_method_24_code (2 : Nat) (Option.some Jvm.ClassFile.FieldType.int), Jvm.Cond.code ({ cls := "com/example/albatross/albatross/storage/SequenceCheck", name := "outcome", desc := "()Lcom/example/albatross/albatross/storage/SequenceCheck$Outcome;" } : Jvm.MethodName) prog_38_method_3_code (1 : Nat) (Option.some (Jvm.ClassFile.FieldType.object "com/example/albatross/albatross/storage/SequenceCheck$Outcome")), Jvm.Cond.code ({ cls := "com/example/albatross/albatross/storage/ProducerState", name := "push", desc := "(SIIJ)V" } : Jvm.MethodName) prog_35_method_18_code (6 : Nat) (Option.none : Option Jvm.ClassFile.FieldType), Jvm.Cond.code ({ cls := "com/example/albatross/albatross/storage/ProducerState", name := "add", desc := "(IIJ)V" } : Jvm.MethodName) prog_35_method_19_code (5 : Nat) (Option.none : Option Jvm.ClassFile.FieldType), Jvm.Cond.code ({ cls := "com/example/albatross/albatross/storage/ProducerState", name := "checkCurrentEpoch", desc := "(II)Lcom/example/albatross/albatross/storage/SequenceCheck;" } : Jvm.MethodName) prog_35_method_22_code (6 : Nat) (Option.some (Jvm.ClassFile.FieldType.object "com/example/albatross/albatross/storage/SequenceCheck")), Jvm.Cond.code ({ cls := "com/example/albatross/albatross/storage/ProducerState", name := "gapAfter", desc := "(I)J" } : Jvm.MethodName) prog_35_method_21_code (2 : Nat) (Option.some Jvm.ClassFile.FieldType.long), Jvm.Cond.code ({ cls := "com/example/albatross/albatross/storage/ProducerState", name := "lessOne", desc := "(I)I" } : Jvm.MethodName) prog_35_method_20_code (2 : Nat) (Option.some Jvm.ClassFile.FieldType.int), Jvm.Cond.code ({ cls := "com/example/albatross/albatross/storage/ProducerState", name := "bitLength", desc := "(J)I" } : Jvm.MethodName) prog_35_method_25_code (2 : Nat) (Option.some Jvm.ClassFile.FieldType.int), Jvm.Cond.code ({ cls := "java/lang/Long", name := "numberOfLeadingZeros", desc := "(J)I" } : Jvm.MethodName) jdk_35_method_48_code (3 : Nat) (Option.some Jvm.ClassFile.FieldType.int), Jvm.Cond.code ({ cls := "java/lang/Integer", name := "numberOfLeadingZeros", desc := "(I)I" } : Jvm.MethodName) jdk_33_method_47_code (2 : Nat) (Option.some Jvm.ClassFile.FieldType.int), Jvm.Cond.code ({ cls := "com/example/albatross/albatross/storage/ProducerState", name := "windowBits", desc := "(IIIZ)I" } : Jvm.MethodName) prog_35_method_34_code (4 : Nat) (Option.some Jvm.ClassFile.FieldType.int), Jvm.Cond.code ({ cls := "com/example/albatross/albatross/storage/ProducerState", name := "batchBits", desc := "(IIZ)I" } : Jvm.MethodName) prog_35_method_33_code (3 : Nat) (Option.some Jvm.ClassFile.FieldType.int), Jvm.Cond.code ({ cls := "com/example/albatross/albatross/storage/ProducerState", name := "fits", desc := "(II)Z" } : Jvm.MethodName) prog_35_method_35_code (2 : Nat) (Option.some Jvm.ClassFile.FieldType.boolean), Jvm.Cond.code ({ cls := "com/example/albatross/albatross/storage/ProducerState", name := "header", desc := "(ISIIIZ)J" } : Jvm.MethodName) prog_35_method_26_code (6 : Nat) (Option.some Jvm.ClassFile.FieldType.long), Jvm.Cond.code ({ cls := "com/example/albatross/albatross/storage/ProducerState", name := "pushPacked", desc := "([JIIJ)Z" } : Jvm.MethodName) prog_35_method_17_code (27 : Nat) (Option.some Jvm.ClassFile.FieldType.boolean), Jvm.Cond.code ({ cls := "com/example/albatross/albatross/storage/ProducerState", name := "countWidthOf", desc := "(J)I" } : Jvm.MethodName) prog_35_method_29_code (2 : Nat) (Option.some Jvm.ClassFile.FieldType.int), Jvm.Cond.code ({ cls := "com/example/albatross/albatross/storage/ProducerState", name := "gapWidthOf", desc := "(J)I" } : Jvm.MethodName) prog_35_method_30_code (2 : Nat) (Option.some Jvm.ClassFile.FieldType.int), Jvm.Cond.code ({ cls := "com/example/albatross/albatross/storage/ProducerState", name := "sharesCount", desc := "(J)Z" } : Jvm.MethodName) prog_35_method_31_code (2 : Nat) (Option.some Jvm.ClassFile.FieldType.boolean), Jvm.Cond.code ({ cls := "com/example/albatross/albatross/storage/ProducerState", name := "lowBits", desc := "(I)J" } : Jvm.MethodName) prog_35_method_36_code (1 : Nat) (Option.some Jvm.ClassFile.FieldType.long), Jvm.Cond.code ({ cls := "com/example/albatross/albatross/storage/ProducerState", name := "offsetAfter", desc := "(JJJI)J" } : Jvm.MethodName) prog_35_method_32_code (9 : Nat) (Option.some Jvm.ClassFile.FieldType.long), Jvm.Cond.code ({ cls := "java/lang/Math", name := "min", desc := "(II)I" } : Jvm.MethodName) jdk_29_method_69_code (2 : Nat) (Option.some Jvm.ClassFile.FieldType.int), Jvm.Cond.code ({ cls := "java/lang/Math", name := "max", desc := "(II)I" } : Jvm.MethodName) jdk_29_method_65_code (2 : Nat) (Option.some Jvm.ClassFile.FieldType.int), Jvm.Cond.code ({ cls := "com/example/albatross/albatross/storage/ProducerState", name := "lastSequenceOf", desc := "(J)I" } : Jvm.MethodName) prog_35_method_28_code (2 : Nat) (Option.some Jvm.ClassFile.FieldType.int), Jvm.Cond.code ({ cls := "com/example/albatross/albatross/storage/ProducerState", name := "epochOf", desc := "(J)S" } : Jvm.MethodName) prog_35_method_27_code (2 : Nat) (Option.some Jvm.ClassFile.FieldType.short)]
set_option maxRecDepth 65536 in
theorem codes_eq : words1.filter isCode = codes1 := rfl
theorem w_codes : ∀ c ∈ words1.filter isCode, c.before args0 about1 = true := by
  rw [codes_eq]
  intro c hc
  simp only [codes1, List.mem_cons, List.not_mem_nil, or_false] at hc
  rcases hc with rfl | rfl | rfl | rfl | rfl | rfl | rfl | rfl | rfl | rfl | rfl | rfl | rfl | rfl | rfl | rfl | rfl | rfl | rfl | rfl | rfl | rfl | rfl | rfl | rfl | rfl | rfl | rfl | rfl | rfl | rfl | rfl
  · exact w_c0
  · exact w_c1
  · exact w_c2
  · exact w_c3
  · exact w_c4
  · exact w_c5
  · exact w_c6
  · exact w_c7
  · exact w_c8
  · exact w_c9
  · exact w_c10
  · exact w_c11
  · exact w_c12
  · exact w_c13
  · exact w_c14
  · exact w_c15
  · exact w_c16
  · exact w_c17
  · exact w_c18
  · exact w_c19
  · exact w_c20
  · exact w_c21
  · exact w_c22
  · exact w_c23
  · exact w_c24
  · exact w_c25
  · exact w_c26
  · exact w_c27
  · exact w_c28
  · exact w_c29
  · exact w_c30
  · exact w_c31
set_option maxRecDepth 65536 in
theorem w_t1 : (words1.take 24).all (fun c => isCode c || c.before args0 about1) = true := by decide +kernel
set_option maxRecDepth 65536 in
theorem w_t2 : ((words1.drop 24).take 24).all (fun c => isCode c || c.before args0 about1) = true := by decide +kernel
set_option maxRecDepth 65536 in
theorem w_t3 : (((words1.drop 24).drop 24).take 24).all (fun c => isCode c || c.before args0 about1) = true := by decide +kernel
set_option maxRecDepth 65536 in
theorem w_t4 : ((((words1.drop 24).drop 24).drop 24).take 24).all (fun c => isCode c || c.before args0 about1) = true := by decide +kernel
set_option maxRecDepth 65536 in
theorem w_t5 : (((((words1.drop 24).drop 24).drop 24).drop 24).take 24).all (fun c => isCode c || c.before args0 about1) = true := by decide +kernel
set_option maxRecDepth 65536 in
theorem w_t6 : ((((((words1.drop 24).drop 24).drop 24).drop 24).drop 24).take 24).all (fun c => isCode c || c.before args0 about1) = true := by decide +kernel
set_option maxRecDepth 65536 in
theorem w_t7 : ((((((words1.drop 24).drop 24).drop 24).drop 24).drop 24).drop 24).all (fun c => isCode c || c.before args0 about1) = true := by decide +kernel
theorem w_tables : (allAtoms (Jvm.Cond.code x code maxLocals ret :: tables_1)).before args0 about1 = true := by
  rw [allAtoms_all]
  show words1.all (fun c => c.before args0 about1) = true
  refine all_split ?_ w_codes
  rw [← List.take_append_drop 24 words1, List.all_append, w_t1, ← List.take_append_drop 24 (words1.drop 24), List.all_append, w_t2, ← List.take_append_drop 24 ((words1.drop 24).drop 24), List.all_append, w_t3, ← List.take_append_drop 24 (((words1.drop 24).drop 24).drop 24), List.all_append, w_t4, ← List.take_append_drop 24 ((((words1.drop 24).drop 24).drop 24).drop 24), List.all_append, w_t5, ← List.take_append_drop 24 (((((words1.drop 24).drop 24).drop 24).drop 24).drop 24), List.all_append, w_t6, w_t7]
  rfl
set_option maxRecDepth 65536 in
theorem w_case : (Jvm.Cond.and given_1 narrow_1).before args0 about1 = true := by decide +kernel
theorem w_applies : (headSpec (Jvm.Cond.code x code maxLocals ret :: tables_1) room_1).applies x e0.platform about1 = true :=
  (Spec.applies_iff w_frames).mpr ⟨w_running, w_runnable, w_alone, w_named, w_hears, w_ripe, w_room, w_tables⟩
theorem atStart : AtStart classFile x code maxLocals ret World_1 tables_1 room_1 Calls_1 rest_1 Pre_1 launch0 p0 e0 about1 theMethod args0 below0 :=
  ⟨lists_1, trivial, launch0.admits_env _ _ _, launch0.least_env, fairChoices_fair.cas, fairChoices_fair.clock, w_frames, w_args, w_heap, w_applies, trivial, trivial, w_case⟩
end start1
theorem witness_1 : WitnessClaimed_1 := ⟨start1.p0, start1.e0, start1.about1, start1.theMethod, start1.args0, start1.below0, start1.atStart⟩
end Jvm.Pilot.@@N@@
