import JvmDerived
import JvmDerived.Pilot.@@N@@Statement
import JvmDerived.Pilot.@@N@@Code
set_option linter.unusedVariables false
set_option maxRecDepth 65536
set_option maxHeartbeats 40000000
set_option linter.unusedSimpArgs false
namespace Jvm.Ow
open Sem ClassFile Op Lib Jvm.Stand Jvm.Free Jvm.LawKit Jvm.RoadKit
/-- what one invocation runs over -/
abbrev Cx : Type := Program × Launch × Env × State × MethodId × Array Value × List Frame × Method × Code
def Cx.p (x : Cx) : Program := x.1
def Cx.l (x : Cx) : Launch := x.2.1
def Cx.e (x : Cx) : Env := x.2.2.1
def Cx.s (x : Cx) : State := x.2.2.2.1
def Cx.m (x : Cx) : MethodId := x.2.2.2.2.1
def Cx.args (x : Cx) : Array Value := x.2.2.2.2.2.1
def Cx.below (x : Cx) : List Frame := x.2.2.2.2.2.2.1
def Cx.meth (x : Cx) : Method := x.2.2.2.2.2.2.2.1
def Cx.c (x : Cx) : Code := x.2.2.2.2.2.2.2.2
/-- a body: its name, bytes, max_locals, return type, room, and the table words of the case -/
abbrev Bd : Type := MethodName × ByteArray × Nat × Option FieldType × Room × List Cond
abbrev Bd.y (b : Bd) : MethodName := b.1
abbrev Bd.by (b : Bd) : ByteArray := b.2.1
abbrev Bd.ml (b : Bd) : Nat := b.2.2.1
abbrev Bd.rt (b : Bd) : Option FieldType := b.2.2.2.1
abbrev Bd.R (b : Bd) : Room := b.2.2.2.2.1
abbrev Bd.tb (b : Bd) : List Cond := b.2.2.2.2.2
def Wd (Z : State) (tb : List Cond) : Prop := ∃ a0 : Array Value, ∀ d ∈ tb, d.before a0 Z = true
def En (Z : State) (x : Cx) (B : Bd) : Prop := x.p.tables.exec = Jvm.exec ∧ x.c.code = B.by ∧ x.c.maxLocals = B.ml ∧ x.s.vm.findClass B.y.cls = some x.m.cls ∧ x.meth.name = B.y.name ∧ x.meth.sig.returnType = B.rt ∧ Z.Warmed39 x.s.vm ∧ x.meth.locks = false ∧ Wd Z B.tb
/-- the invocation stands at T, whose heap is h; k cells and n slots were made; nothing of the start's heap was written -/
def Sp (Z : State) (x : Cx) (B : Bd) (T : State) (k n : Nat) (h : Heap) : Prop := En Z x B ∧ Ext Z.heap h ∧ ∃ locs, Stand x.p x.l x.e B.R x.s x.m x.args x.below x.meth x.c T locs k n ∧ T.heap = h ∧ Fr Z.heap.size locs
/-- from T with this frame the invocation ends as Q says -/
def Rn (Q : Option Value → Heap → Prop) (Z : State) (x : Cx) (B : Bd) (T : State) (pc : Nat) (Ls : Array Slot) (st : List Value) : Prop :=
  ∃ t o, Steps x.p.tables x.e x.below (T.setTop (mkF x.m pc Ls st)) t ∧ t.status = .running ∧ Ended t x.below o ∧ ∃ v L, o = .returned v ∧ (Q v t.heap ∧ Ext Z.heap t.heap ∧ Fr Z.heap.size L) ∧ FrameEnd x.s o t L B.R.cells B.R.slots
/-- from every point with this heap and this frame the invocation ends as Q says -/
def Go (Q : Option Value → Heap → Prop) (Z : State) (B : Bd) (k n : Nat) (h : Heap) (pc : Nat) (Ls : Array Slot) (st : List Value) : Prop := ∀ (x : Cx) (T : State), Sp Z x B T k n h → Rn Q Z x B T pc Ls st
/-- a body's contract: from the heap h0, with the arguments as, it returns v at a heap h with Q v h -/
def Con (Z : State) (B : Bd) (as : Array Value) (h0 : Heap) (Q : Option Value → Heap → Prop) : Prop :=
  Ext Z.heap h0 → ∀ (l : Launch) (ws : List Cond), MetFree l B.y (head1 (Cond.code B.y B.by B.ml B.rt :: ws) B.R) (fun a U => a = as ∧ Z.Warmed39 U.vm ∧ U.heap = h0) (fun _ _ _ _ _ => True)
    (fun _ U o U' => ∃ v L, o = .returned v ∧ (Q v U'.heap ∧ Ext Z.heap U'.heap ∧ Fr Z.heap.size L) ∧ FrameEnd U o U' L B.R.cells B.R.slots)
/-- an array: its values -/
def Ary (Z : State) (h : Heap) (a : Addr) (ty : FieldType) (vs : List Value) : Prop := ∃ c : Cell, Arr Z h a c ty ∧ c.slots.toList = vs ∧ vs.length < 2 ^ 31 ∧ ∀ v ∈ vs, fits ty v = true
/-- an array over objects of class C -/
def Aov (Z : State) (h : Heap) (a : Addr) (C : String) : Prop := ∃ c : Cell, h[a]? = some c ∧ Ovr Z c.cls C
section St
variable {Q : Option Value → Heap → Prop} {Z : State} {x : Cx} {B : Bd} {T : State} {k n : Nat} {h h' : Heap} {pc : Nat} {Ls Ls' : Array Slot} {st rest : List Value}
theorem Wd.w {tb : List Cond} (W : Wd Z tb) : ∃ a0 : Array Value, ∀ {i : Nat} {d : Cond}, tb[i]? = some d → d.before a0 Z = true := by
  obtain ⟨a0, hw⟩ := W; exact ⟨a0, fun hi => hw _ (List.mem_of_getElem? hi)⟩
theorem Con.mk {as : Array Value} {h0 : Heap} (hw : Wd Z B.tb) (hpn : plainFor B.y = true) (hef : ∀ m, entryFrame m as B.ml = mkF m 0 Ls [])
    (body : Go Q Z B 0 0 h0 0 Ls []) : Con Z B as h0 Q := by
  intro hE l ws
  refine MetFree.of_bodySF hpn hisR ?_
  intro p e s m args below meth c s₁ Bd hml0 hP hK
  obtain ⟨rfl, hZ, hh⟩ := hP
  have X0 : Stand p l e B.R s m args below meth c s₁ [] 0 0 := Stand.of_body Bd
  have e0 : s₁.heap = h0 := by rw [← hh, Bd.state]; rfl
  obtain ⟨t, o, h1, h2, h3, h4⟩ := body (p, l, e, s, m, args, below, meth, c) s₁ ⟨⟨Bd.exec, Bd.bytes, hml0, findClass_of_methodNamed Bd.named, (name_of_methodNamed Bd.named Bd.method).1, Bd.returns, hZ, Bd.notSynchronized, hw⟩, hE, [], X0, e0, Fr.nil _⟩
  exact ⟨t, o, castTop (hef m) h1, h2, h3, h4⟩
theorem Con.post {as : Array Value} {h0 : Heap} {Q' : Option Value → Heap → Prop} (C : Con Z B as h0 Q) (q : ∀ v h, Q v h → Q' v h) : Con Z B as h0 Q' := fun hE l ws =>
  (C hE l ws).mono (fun _ _ h => h) (fun _ _ _ _ _ h => h) fun _ _ _ _ _ ⟨v, L, h1, h2, h3⟩ => ⟨v, L, h1, ⟨q _ _ h2.1, h2.2⟩, h3⟩
theorem Sp.here (P : Sp Z x B T k n h) : At T x.m x.c x.below := by obtain ⟨_, _, _, X, _⟩ := P; exact X.here
theorem Sp.ex (P : Sp Z x B T k n h) : x.p.tables.exec = Jvm.exec := P.1.1
theorem Sp.d (P : Sp Z x B T k n h) {r : Except DecodeError (Instr × Nat)} (hd : decode B.by pc = r) : decode x.c.code pc = r := by rw [P.1.2.1]; exact hd
theorem Sp.old (P : Sp Z x B T k n h) : Ext Z.heap h := P.2.1
theorem Sp.wd (P : Sp Z x B T k n h) : Wd Z B.tb := P.1.2.2.2.2.2.2.2.2
theorem Sp.le (P : Sp Z x B T k n h) : Z.heap.size ≤ h.size := P.2.1.1
theorem lift {T' : State} {pc' : Nat} {st' : List Value} (f : ∀ t, Steps x.p.tables x.e x.below (T'.setTop (mkF x.m pc' Ls' st')) t → Steps x.p.tables x.e x.below (T.setTop (mkF x.m pc Ls st)) t) (r : Rn Q Z x B T' pc' Ls' st') : Rn Q Z x B T pc Ls st := by
  obtain ⟨t, o, h1, h2⟩ := r; exact ⟨t, o, f t h1, h2⟩
theorem liftS {T' : State} {pc' : Nat} {st' : List Value} (f : Steps x.p.tables x.e x.below (T.setTop (mkF x.m pc Ls st)) (T'.setTop (mkF x.m pc' Ls' st'))) (r : Rn Q Z x B T' pc' Ls' st') : Rn Q Z x B T pc Ls st := by
  obtain ⟨t, o, h1, h2⟩ := r; exact ⟨t, o, f.trans h1, h2⟩
theorem Go.nameI {z : Int32} (r : ∀ v, z = v → Go Q Z B k n h pc Ls (.int v :: st)) : Go Q Z B k n h pc Ls (.int z :: st) := r z rfl
theorem Go.nameJ {z : Int64} (r : ∀ v, z = v → Go Q Z B k n h pc Ls (.long v :: st)) : Go Q Z B k n h pc Ls (.long z :: st) := r z rfl
theorem Go.nameD {z : UInt64} (r : ∀ v, z = v → Go Q Z B k n h pc Ls (.double v :: st)) : Go Q Z B k n h pc Ls (.double z :: st) := r z rfl
theorem Go.eqI {z w : Int32} (e : z = w) (r : Go Q Z B k n h pc Ls (.int w :: st)) : Go Q Z B k n h pc Ls (.int z :: st) := e ▸ r
theorem Go.eqJ {z w : Int64} (e : z = w) (r : Go Q Z B k n h pc Ls (.long w :: st)) : Go Q Z B k n h pc Ls (.long z :: st) := e ▸ r
theorem Go.eqD {z w : UInt64} (e : z = w) (r : Go Q Z B k n h pc Ls (.double w :: st)) : Go Q Z B k n h pc Ls (.double z :: st) := e ▸ r
theorem Go.joinI {pcJ : Nat} {LsJ : Array Slot} {stJ : List Value} (G : Int32 → Prop) (s : (∀ v, G v → Go Q Z B k n h pcJ LsJ (.int v :: stJ)) → Go Q Z B k n h pc Ls st) (r : ∀ v, G v → Go Q Z B k n h pcJ LsJ (.int v :: stJ)) : Go Q Z B k n h pc Ls st := s r
theorem Go.jn {pcJ : Nat} {LsJ : Array Slot} {stJ : List Value} (s : Go Q Z B k n h pcJ LsJ stJ → Go Q Z B k n h pc Ls st) (r : Go Q Z B k n h pcJ LsJ stJ) : Go Q Z B k n h pc Ls st := s r
theorem cut {G : Prop} (X : Prop) (s : X → G) (r : X) : G := s r
theorem Go.old (r : Ext Z.heap h → Go Q Z B k n h pc Ls st) : Go Q Z B k n h pc Ls st := fun x T P => r P.old x T P
theorem Go.more {k' n' : Nat} (hk : k ≤ k') (hn : n ≤ n') (r : Go Q Z B k' n' h pc Ls st) : Go Q Z B k n h pc Ls st := fun x T P => r x T (by
  obtain ⟨E, O, locs, X, e, N⟩ := P
  exact ⟨E, O, locs, { X with same := X.same.mono hk hn }, e, N⟩)
theorem Go.iload (pc' : Nat) (hp : pc + 2 = pc') {i : Nat} {v : Int32} (hd : decode B.by pc = .ok (.iload i, 2)) (hl : Ls[i]? = some (.val (.int v))) (r : Go Q Z B k n h pc' Ls (.int v :: st)) : Go Q Z B k n h pc Ls (st) := fun x T P => by
  subst hp; exact lift (fun t q => XS.iload P.here P.ex rfl (P.d hd) hl q) (r x T P)
theorem Go.iloadN (pc' : Nat) (hp : pc + 1 = pc') {i : Fin 4} {v : Int32} (hd : decode B.by pc = .ok (.iload_n i, 1)) (hl : Ls[i.val]? = some (.val (.int v))) (r : Go Q Z B k n h pc' Ls (.int v :: st)) : Go Q Z B k n h pc Ls (st) := fun x T P => by
  subst hp; exact lift (fun t q => XS.iloadN P.here P.ex rfl (P.d hd) hl q) (r x T P)
theorem Go.istore (pc' : Nat) (hp : pc + 2 = pc') {i : Nat} {v : Int32} (hd : decode B.by pc = .ok (.istore i, 2))  (hl : storeLocals Ls i (.int v) = some Ls') (r : Go Q Z B k n h pc' Ls' (st)) : Go Q Z B k n h pc Ls (.int v :: st) := fun x T P => by
  subst hp; exact lift (fun t q => XS.istore P.here P.ex rfl (P.d hd) rfl hl q) (r x T P)
theorem Go.istoreN (pc' : Nat) (hp : pc + 1 = pc') {i : Fin 4} {v : Int32} (hd : decode B.by pc = .ok (.istore_n i, 1))  (hl : storeLocals Ls i.val (.int v) = some Ls') (r : Go Q Z B k n h pc' Ls' (st)) : Go Q Z B k n h pc Ls (.int v :: st) := fun x T P => by
  subst hp; exact lift (fun t q => XS.istoreN P.here P.ex rfl (P.d hd) rfl hl q) (r x T P)
theorem Go.lload (pc' : Nat) (hp : pc + 2 = pc') {i : Nat} {v : Int64} (hd : decode B.by pc = .ok (.lload i, 2)) (hl : Ls[i]? = some (.val (.long v))) (r : Go Q Z B k n h pc' Ls (.long v :: st)) : Go Q Z B k n h pc Ls (st) := fun x T P => by
  subst hp; exact lift (fun t q => XT.lload P.here P.ex rfl (P.d hd) hl q) (r x T P)
theorem Go.lloadN (pc' : Nat) (hp : pc + 1 = pc') {i : Fin 4} {v : Int64} (hd : decode B.by pc = .ok (.lload_n i, 1)) (hl : Ls[i.val]? = some (.val (.long v))) (r : Go Q Z B k n h pc' Ls (.long v :: st)) : Go Q Z B k n h pc Ls (st) := fun x T P => by
  subst hp; exact lift (fun t q => XT.lloadN P.here P.ex rfl (P.d hd) hl q) (r x T P)
theorem Go.lstore (pc' : Nat) (hp : pc + 2 = pc') {i : Nat} {v : Int64} (hd : decode B.by pc = .ok (.lstore i, 2))  (hl : storeLocals Ls i (.long v) = some Ls') (r : Go Q Z B k n h pc' Ls' (st)) : Go Q Z B k n h pc Ls (.long v :: st) := fun x T P => by
  subst hp; exact lift (fun t q => XT.lstore P.here P.ex rfl (P.d hd) rfl hl q) (r x T P)
theorem Go.lstoreN (pc' : Nat) (hp : pc + 1 = pc') {i : Fin 4} {v : Int64} (hd : decode B.by pc = .ok (.lstore_n i, 1))  (hl : storeLocals Ls i.val (.long v) = some Ls') (r : Go Q Z B k n h pc' Ls' (st)) : Go Q Z B k n h pc Ls (.long v :: st) := fun x T P => by
  subst hp; exact lift (fun t q => XT.lstoreN P.here P.ex rfl (P.d hd) rfl hl q) (r x T P)
theorem Go.aload (pc' : Nat) (hp : pc + 2 = pc') {i : Nat} {v : Value} (hd : decode B.by pc = .ok (.aload i, 2)) (hl : Ls[i]? = some (.val (v))) (hv : v.isRef = true) (r : Go Q Z B k n h pc' Ls (v :: st)) : Go Q Z B k n h pc Ls (st) := fun x T P => by
  subst hp; exact lift (fun t q => XS.aload P.here P.ex rfl (P.d hd) hl hv q) (r x T P)
theorem Go.aloadN (pc' : Nat) (hp : pc + 1 = pc') {i : Fin 4} {v : Value} (hd : decode B.by pc = .ok (.aload_n i, 1)) (hl : Ls[i.val]? = some (.val (v))) (hv : v.isRef = true) (r : Go Q Z B k n h pc' Ls (v :: st)) : Go Q Z B k n h pc Ls (st) := fun x T P => by
  subst hp; exact lift (fun t q => XS.aloadN P.here P.ex rfl (P.d hd) hl hv q) (r x T P)
theorem Go.astore (pc' : Nat) (hp : pc + 2 = pc') {i : Nat} {v : Value} (hd : decode B.by pc = .ok (.astore i, 2))  (hv : v.isRef = true) (hl : storeLocals Ls i (v) = some Ls') (r : Go Q Z B k n h pc' Ls' (st)) : Go Q Z B k n h pc Ls (v :: st) := fun x T P => by
  subst hp; exact lift (fun t q => XS.astore P.here P.ex rfl (P.d hd) rfl hv hl q) (r x T P)
theorem Go.astoreN (pc' : Nat) (hp : pc + 1 = pc') {i : Fin 4} {v : Value} (hd : decode B.by pc = .ok (.astore_n i, 1))  (hv : v.isRef = true) (hl : storeLocals Ls i.val (v) = some Ls') (r : Go Q Z B k n h pc' Ls' (st)) : Go Q Z B k n h pc Ls (v :: st) := fun x T P => by
  subst hp; exact lift (fun t q => XS.astoreN P.here P.ex rfl (P.d hd) rfl hv hl q) (r x T P)
theorem Go.dload (pc' : Nat) (hp : pc + 2 = pc') {i : Nat} {v : UInt64} (hd : decode B.by pc = .ok (.dload i, 2)) (hl : Ls[i]? = some (.val (.double v))) (r : Go Q Z B k n h pc' Ls (.double v :: st)) : Go Q Z B k n h pc Ls (st) := fun x T P => by
  subst hp; exact lift (fun t q => XS.dload P.here P.ex rfl (P.d hd) hl q) (r x T P)
theorem Go.dloadN (pc' : Nat) (hp : pc + 1 = pc') {i : Fin 4} {v : UInt64} (hd : decode B.by pc = .ok (.dload_n i, 1)) (hl : Ls[i.val]? = some (.val (.double v))) (r : Go Q Z B k n h pc' Ls (.double v :: st)) : Go Q Z B k n h pc Ls (st) := fun x T P => by
  subst hp; exact lift (fun t q => XS.dloadN P.here P.ex rfl (P.d hd) hl q) (r x T P)
theorem Go.dstore (pc' : Nat) (hp : pc + 2 = pc') {i : Nat} {v : UInt64} (hd : decode B.by pc = .ok (.dstore i, 2))  (hl : storeLocals Ls i (.double v) = some Ls') (r : Go Q Z B k n h pc' Ls' (st)) : Go Q Z B k n h pc Ls (.double v :: st) := fun x T P => by
  subst hp; exact lift (fun t q => XS.dstore P.here P.ex rfl (P.d hd) rfl hl q) (r x T P)
theorem Go.dstoreN (pc' : Nat) (hp : pc + 1 = pc') {i : Fin 4} {v : UInt64} (hd : decode B.by pc = .ok (.dstore_n i, 1))  (hl : storeLocals Ls i.val (.double v) = some Ls') (r : Go Q Z B k n h pc' Ls' (st)) : Go Q Z B k n h pc Ls (.double v :: st) := fun x T P => by
  subst hp; exact lift (fun t q => XS.dstoreN P.here P.ex rfl (P.d hd) rfl hl q) (r x T P)
theorem Go.iconst (pc' : Nat) (hp : pc + 1 = pc') {i : Int} (v : Int32) (hd : decode B.by pc = .ok (.iconst i, 1)) (hv : Int32.ofInt i = v) (r : Go Q Z B k n h pc' Ls (.int v :: st)) : Go Q Z B k n h pc Ls (st) := fun x T P => by
  subst hp; exact lift (fun t q => XT.iconstV P.here P.ex rfl v (P.d hd) hv q) (r x T P)
theorem Go.bipush (pc' : Nat) (hp : pc + 2 = pc') {i : Int} (v : Int32) (hd : decode B.by pc = .ok (.bipush i, 2)) (hv : (Int8.ofInt i).toInt32 = v) (r : Go Q Z B k n h pc' Ls (.int v :: st)) : Go Q Z B k n h pc Ls (st) := fun x T P => by
  subst hp; exact lift (fun t q => XT.bipushV P.here P.ex rfl v (P.d hd) hv q) (r x T P)
theorem Go.sipush (pc' : Nat) (hp : pc + 3 = pc') {i : Int} (v : Int32) (hd : decode B.by pc = .ok (.sipush i, 3)) (hv : (Int16.ofInt i).toInt32 = v) (r : Go Q Z B k n h pc' Ls (.int v :: st)) : Go Q Z B k n h pc Ls (st) := fun x T P => by
  subst hp; exact lift (fun t q => XT.sipushV P.here P.ex rfl v (P.d hd) hv q) (r x T P)
theorem Go.lconst (pc' : Nat) (hp : pc + 1 = pc') {i : Fin 2} (v : Int64) (hd : decode B.by pc = .ok (.lconst i, 1)) (hv : Int64.ofNat i = v) (r : Go Q Z B k n h pc' Ls (.long v :: st)) : Go Q Z B k n h pc Ls (st) := fun x T P => by
  subst hp; exact lift (fun t q => XT.lconstV P.here P.ex rfl v (P.d hd) hv q) (r x T P)
theorem Go.aconstNull (pc' : Nat) (hp : pc + 1 = pc')  (hd : decode B.by pc = .ok (.aconst_null, 1))  (r : Go Q Z B k n h pc' Ls (.null :: st)) : Go Q Z B k n h pc Ls (st) := fun x T P => by
  subst hp; exact lift (fun t q => XS.aconstNull P.here P.ex rfl (P.d hd) q) (r x T P)
theorem Go.iadd (pc' : Nat) (hp : pc + 1 = pc') {x1 y1 : Int32} (hd : decode B.by pc = .ok (.iadd, 1))  (r : Go Q Z B k n h pc' Ls (.int (x1 + y1) :: st)) : Go Q Z B k n h pc Ls (.int y1 :: .int x1 :: st) := fun x T P => by
  subst hp; exact lift (fun t q => XS.iadd P.here P.ex rfl (P.d hd) rfl q) (r x T P)
theorem Go.isub (pc' : Nat) (hp : pc + 1 = pc') {x1 y1 : Int32} (hd : decode B.by pc = .ok (.isub, 1))  (r : Go Q Z B k n h pc' Ls (.int (x1 - y1) :: st)) : Go Q Z B k n h pc Ls (.int y1 :: .int x1 :: st) := fun x T P => by
  subst hp; exact lift (fun t q => XS.isub P.here P.ex rfl (P.d hd) rfl q) (r x T P)
theorem Go.iand (pc' : Nat) (hp : pc + 1 = pc') {x1 y1 : Int32} (hd : decode B.by pc = .ok (.iand, 1))  (r : Go Q Z B k n h pc' Ls (.int (x1 &&& y1) :: st)) : Go Q Z B k n h pc Ls (.int y1 :: .int x1 :: st) := fun x T P => by
  subst hp; exact lift (fun t q => XS.iand P.here P.ex rfl (P.d hd) rfl q) (r x T P)
theorem Go.imul (pc' : Nat) (hp : pc + 1 = pc') {x1 y1 : Int32} (hd : decode B.by pc = .ok (.imul, 1))  (r : Go Q Z B k n h pc' Ls (.int (x1 * y1) :: st)) : Go Q Z B k n h pc Ls (.int y1 :: .int x1 :: st) := fun x T P => by
  subst hp; exact lift (fun t q => XS.imul P.here P.ex rfl (P.d hd) rfl q) (r x T P)
theorem Go.ixor (pc' : Nat) (hp : pc + 1 = pc') {x1 y1 : Int32} (hd : decode B.by pc = .ok (.ixor, 1))  (r : Go Q Z B k n h pc' Ls (.int (x1 ^^^ y1) :: st)) : Go Q Z B k n h pc Ls (.int y1 :: .int x1 :: st) := fun x T P => by
  subst hp; exact lift (fun t q => XT.ixor P.here P.ex rfl (P.d hd) rfl q) (r x T P)
theorem Go.ior (pc' : Nat) (hp : pc + 1 = pc') {x1 y1 : Int32} (hd : decode B.by pc = .ok (.ior, 1))  (r : Go Q Z B k n h pc' Ls (.int (x1 ||| y1) :: st)) : Go Q Z B k n h pc Ls (.int y1 :: .int x1 :: st) := fun x T P => by
  subst hp; exact lift (fun t q => XT.ior P.here P.ex rfl (P.d hd) rfl q) (r x T P)
theorem Go.ishl (pc' : Nat) (hp : pc + 1 = pc') {x1 y1 : Int32} (hd : decode B.by pc = .ok (.ishl, 1))  (r : Go Q Z B k n h pc' Ls (.int (x1 <<< (y1 &&& 31)) :: st)) : Go Q Z B k n h pc Ls (.int y1 :: .int x1 :: st) := fun x T P => by
  subst hp; exact lift (fun t q => XT.ishl P.here P.ex rfl (P.d hd) rfl q) (r x T P)
theorem Go.ishr (pc' : Nat) (hp : pc + 1 = pc') {x1 y1 : Int32} (hd : decode B.by pc = .ok (.ishr, 1))  (r : Go Q Z B k n h pc' Ls (.int (x1 >>> (y1 &&& 31)) :: st)) : Go Q Z B k n h pc Ls (.int y1 :: .int x1 :: st) := fun x T P => by
  subst hp; exact lift (fun t q => XT.ishr P.here P.ex rfl (P.d hd) rfl q) (r x T P)
theorem Go.iushr (pc' : Nat) (hp : pc + 1 = pc') {x1 y1 : Int32} (hd : decode B.by pc = .ok (.iushr, 1))  (r : Go Q Z B k n h pc' Ls (.int (XT.ushr x1 y1) :: st)) : Go Q Z B k n h pc Ls (.int y1 :: .int x1 :: st) := fun x T P => by
  subst hp; exact lift (fun t q => XT.iushr P.here P.ex rfl (P.d hd) rfl q) (r x T P)
theorem Go.idiv (pc' : Nat) (hp : pc + 1 = pc') {x1 y1 : Int32} (hd : decode B.by pc = .ok (.idiv, 1)) (hy : y1 ≠ 0) (r : Go Q Z B k n h pc' Ls (.int (x1 / y1) :: st)) : Go Q Z B k n h pc Ls (.int y1 :: .int x1 :: st) := fun x T P => by
  subst hp; exact lift (fun t q => XS.idiv P.here P.ex rfl (P.d hd) rfl hy q) (r x T P)
theorem Go.ladd (pc' : Nat) (hp : pc + 1 = pc') {x1 y1 : Int64} (hd : decode B.by pc = .ok (.ladd, 1))  (r : Go Q Z B k n h pc' Ls (.long (x1 + y1) :: st)) : Go Q Z B k n h pc Ls (.long y1 :: .long x1 :: st) := fun x T P => by
  subst hp; exact lift (fun t q => XT.ladd P.here P.ex rfl (P.d hd) rfl q) (r x T P)
theorem Go.lsub (pc' : Nat) (hp : pc + 1 = pc') {x1 y1 : Int64} (hd : decode B.by pc = .ok (.lsub, 1))  (r : Go Q Z B k n h pc' Ls (.long (x1 - y1) :: st)) : Go Q Z B k n h pc Ls (.long y1 :: .long x1 :: st) := fun x T P => by
  subst hp; exact lift (fun t q => XT.lsub P.here P.ex rfl (P.d hd) rfl q) (r x T P)
theorem Go.land (pc' : Nat) (hp : pc + 1 = pc') {x1 y1 : Int64} (hd : decode B.by pc = .ok (.land, 1))  (r : Go Q Z B k n h pc' Ls (.long (x1 &&& y1) :: st)) : Go Q Z B k n h pc Ls (.long y1 :: .long x1 :: st) := fun x T P => by
  subst hp; exact lift (fun t q => XT.land P.here P.ex rfl (P.d hd) rfl q) (r x T P)
theorem Go.lmul (pc' : Nat) (hp : pc + 1 = pc') {x1 y1 : Int64} (hd : decode B.by pc = .ok (.lmul, 1))  (r : Go Q Z B k n h pc' Ls (.long (x1 * y1) :: st)) : Go Q Z B k n h pc Ls (.long y1 :: .long x1 :: st) := fun x T P => by
  subst hp; exact lift (fun t q => XT.lmul P.here P.ex rfl (P.d hd) rfl q) (r x T P)
theorem Go.lxor (pc' : Nat) (hp : pc + 1 = pc') {x1 y1 : Int64} (hd : decode B.by pc = .ok (.lxor, 1))  (r : Go Q Z B k n h pc' Ls (.long (x1 ^^^ y1) :: st)) : Go Q Z B k n h pc Ls (.long y1 :: .long x1 :: st) := fun x T P => by
  subst hp; exact lift (fun t q => XT.lxor P.here P.ex rfl (P.d hd) rfl q) (r x T P)
theorem Go.lor (pc' : Nat) (hp : pc + 1 = pc') {x1 y1 : Int64} (hd : decode B.by pc = .ok (.lor, 1))  (r : Go Q Z B k n h pc' Ls (.long (x1 ||| y1) :: st)) : Go Q Z B k n h pc Ls (.long y1 :: .long x1 :: st) := fun x T P => by
  subst hp; exact lift (fun t q => XT.lor P.here P.ex rfl (P.d hd) rfl q) (r x T P)
theorem Go.lshl (pc' : Nat) (hp : pc + 1 = pc') {x1 : Int64} {y1 : Int32} (hd : decode B.by pc = .ok (.lshl, 1))  (r : Go Q Z B k n h pc' Ls (.long (x1 <<< (y1.toInt64 &&& 63)) :: st)) : Go Q Z B k n h pc Ls (.int y1 :: .long x1 :: st) := fun x T P => by
  subst hp; exact lift (fun t q => XT.lshl P.here P.ex rfl (P.d hd) rfl q) (r x T P)
theorem Go.lshr (pc' : Nat) (hp : pc + 1 = pc') {x1 : Int64} {y1 : Int32} (hd : decode B.by pc = .ok (.lshr, 1))  (r : Go Q Z B k n h pc' Ls (.long (x1 >>> (y1.toInt64 &&& 63)) :: st)) : Go Q Z B k n h pc Ls (.int y1 :: .long x1 :: st) := fun x T P => by
  subst hp; exact lift (fun t q => XT.lshr P.here P.ex rfl (P.d hd) rfl q) (r x T P)
theorem Go.lushr (pc' : Nat) (hp : pc + 1 = pc') {x1 : Int64} {y1 : Int32} (hd : decode B.by pc = .ok (.lushr, 1))  (r : Go Q Z B k n h pc' Ls (.long (XT.ushrL x1 y1) :: st)) : Go Q Z B k n h pc Ls (.int y1 :: .long x1 :: st) := fun x T P => by
  subst hp; exact lift (fun t q => XT.lushr P.here P.ex rfl (P.d hd) rfl q) (r x T P)
theorem Go.ldiv (pc' : Nat) (hp : pc + 1 = pc') {x1 y1 : Int64} (hd : decode B.by pc = .ok (.ldiv, 1)) (hy : y1 ≠ 0) (r : Go Q Z B k n h pc' Ls (.long (x1 / y1) :: st)) : Go Q Z B k n h pc Ls (.long y1 :: .long x1 :: st) := fun x T P => by
  subst hp; exact lift (fun t q => XT.ldiv P.here P.ex rfl (P.d hd) rfl hy q) (r x T P)
theorem Go.lrem (pc' : Nat) (hp : pc + 1 = pc') {x1 y1 : Int64} (hd : decode B.by pc = .ok (.lrem, 1)) (hy : y1 ≠ 0) (r : Go Q Z B k n h pc' Ls (.long (x1 % y1) :: st)) : Go Q Z B k n h pc Ls (.long y1 :: .long x1 :: st) := fun x T P => by
  subst hp; exact lift (fun t q => XT.lrem P.here P.ex rfl (P.d hd) rfl hy (by rw [lrem_mod]; exact q)) (r x T P)
theorem Go.lneg (pc' : Nat) (hp : pc + 1 = pc') {x1 : Int64} (hd : decode B.by pc = .ok (.lneg, 1))  (r : Go Q Z B k n h pc' Ls (.long (-x1) :: st)) : Go Q Z B k n h pc Ls (.long x1 :: st) := fun x T P => by
  subst hp; exact lift (fun t q => XT.lneg P.here P.ex rfl (P.d hd) rfl q) (r x T P)
theorem Go.ineg (pc' : Nat) (hp : pc + 1 = pc') {x1 : Int32} (hd : decode B.by pc = .ok (.ineg, 1))  (r : Go Q Z B k n h pc' Ls (.int (-x1) :: st)) : Go Q Z B k n h pc Ls (.int x1 :: st) := fun x T P => by
  subst hp; exact lift (fun t q => XS.ineg P.here P.ex rfl (P.d hd) rfl q) (r x T P)
theorem Go.i2l (pc' : Nat) (hp : pc + 1 = pc') {x1 : Int32} (hd : decode B.by pc = .ok (.i2l, 1))  (r : Go Q Z B k n h pc' Ls (.long x1.toInt64 :: st)) : Go Q Z B k n h pc Ls (.int x1 :: st) := fun x T P => by
  subst hp; exact lift (fun t q => XT.i2l P.here P.ex rfl (P.d hd) rfl q) (r x T P)
theorem Go.l2i (pc' : Nat) (hp : pc + 1 = pc') {x1 : Int64} (hd : decode B.by pc = .ok (.l2i, 1))  (r : Go Q Z B k n h pc' Ls (.int x1.toInt32 :: st)) : Go Q Z B k n h pc Ls (.long x1 :: st) := fun x T P => by
  subst hp; exact lift (fun t q => XT.l2i P.here P.ex rfl (P.d hd) rfl q) (r x T P)
theorem Go.i2b (pc' : Nat) (hp : pc + 1 = pc') {x1 : Int32} (hd : decode B.by pc = .ok (.i2b, 1))  (r : Go Q Z B k n h pc' Ls (.int x1.toInt8.toInt32 :: st)) : Go Q Z B k n h pc Ls (.int x1 :: st) := fun x T P => by
  subst hp; exact lift (fun t q => XT.i2b P.here P.ex rfl (P.d hd) rfl q) (r x T P)
theorem Go.i2c (pc' : Nat) (hp : pc + 1 = pc') {x1 : Int32} (hd : decode B.by pc = .ok (.i2c, 1))  (r : Go Q Z B k n h pc' Ls (.int x1.toUInt32.toUInt16.toUInt32.toInt32 :: st)) : Go Q Z B k n h pc Ls (.int x1 :: st) := fun x T P => by
  subst hp; exact lift (fun t q => XT.i2c P.here P.ex rfl (P.d hd) rfl q) (r x T P)
theorem Go.i2s (pc' : Nat) (hp : pc + 1 = pc') {x1 : Int32} (hd : decode B.by pc = .ok (.i2s, 1))  (r : Go Q Z B k n h pc' Ls (.int x1.toInt16.toInt32 :: st)) : Go Q Z B k n h pc Ls (.int x1 :: st) := fun x T P => by
  subst hp; exact lift (fun t q => XT.i2s P.here P.ex rfl (P.d hd) rfl q) (r x T P)
theorem Go.lcmp (pc' : Nat) (hp : pc + 1 = pc') {x1 y1 : Int64} (hd : decode B.by pc = .ok (.lcmp, 1))  (r : Go Q Z B k n h pc' Ls (.int (XT.cmpL x1 y1) :: st)) : Go Q Z B k n h pc Ls (.long y1 :: .long x1 :: st) := fun x T P => by
  subst hp; exact lift (fun t q => XT.lcmp P.here P.ex rfl (P.d hd) rfl q) (r x T P)
theorem Go.i2d (pc' : Nat) (hp : pc + 1 = pc') {x1 : Int32} (hd : decode B.by pc = .ok (.i2d, 1))  (r : Go Q Z B k n h pc' Ls (.double (FP.i2d x1) :: st)) : Go Q Z B k n h pc Ls (.int x1 :: st) := fun x T P => by
  subst hp; exact lift (fun t q => XS.i2dS P.here P.ex rfl (P.d hd) rfl rfl q) (r x T P)
theorem Go.l2d (pc' : Nat) (hp : pc + 1 = pc') {x1 : Int64} (hd : decode B.by pc = .ok (.l2d, 1))  (r : Go Q Z B k n h pc' Ls (.double (FP.l2d x1) :: st)) : Go Q Z B k n h pc Ls (.long x1 :: st) := fun x T P => by
  subst hp; exact lift (fun t q => XS.l2dS P.here P.ex rfl (P.d hd) rfl rfl q) (r x T P)
theorem Go.dcmp (pc' : Nat) (hp : pc + 1 = pc') {o : CmpOp} {x1 y1 : UInt64} (v : Int32) (hd : decode B.by pc = .ok (.dcmp o, 1)) (hv : cmpValue (FP.dcmp x1 y1) o = v) (r : Go Q Z B k n h pc' Ls (.int v :: st)) : Go Q Z B k n h pc Ls (.double y1 :: .double x1 :: st) := fun x T P => by
  subst hp; exact lift (fun t q => XS.dcmpS P.here P.ex rfl (P.d hd) rfl hv q) (r x T P)
theorem Go.ddiv (pc' : Nat) (hp : pc + 1 = pc') {x1 y1 : UInt64} (hd : decode B.by pc = .ok (.ddiv, 1)) (hn : Jvm.Free.Fl.NoNaN64 (FP.ddiv x1 y1)) (r : Go Q Z B k n h pc' Ls (.double (FP.ddiv x1 y1) :: st)) : Go Q Z B k n h pc Ls (.double y1 :: .double x1 :: st) := fun x T P => by
  subst hp; exact lift (fun t q => XS.ddivS P.here P.ex rfl (P.d hd) rfl hn rfl q) (r x T P)
theorem Go.dup (pc' : Nat) (hp : pc + 1 = pc') {v : Value} (hd : decode B.by pc = .ok (.dup, 1)) (hc : v.category = 1) (r : Go Q Z B k n h pc' Ls (v :: v :: st)) : Go Q Z B k n h pc Ls (v :: st) := fun x T P => by
  subst hp; exact lift (fun t q => XS.dup P.here P.ex rfl (P.d hd) rfl hc q) (r x T P)
theorem Go.pop (pc' : Nat) (hp : pc + 1 = pc') {v : Value} (hd : decode B.by pc = .ok (.pop, 1)) (hc : v.category = 1) (r : Go Q Z B k n h pc' Ls (st)) : Go Q Z B k n h pc Ls (v :: st) := fun x T P => by
  subst hp; exact lift (fun t q => XT.pop P.here P.ex rfl (P.d hd) rfl hc q) (r x T P)
theorem Go.dupX1 (pc' : Nat) (hp : pc + 1 = pc') {v w : Value} (hd : decode B.by pc = .ok (.dup_x1, 1)) (hc : v.category = 1) (hc' : w.category = 1) (r : Go Q Z B k n h pc' Ls (v :: w :: v :: st)) : Go Q Z B k n h pc Ls (v :: w :: st) := fun x T P => by
  subst hp; exact lift (fun t q => XT.dupX1 P.here P.ex rfl (P.d hd) rfl hc hc' q) (r x T P)
theorem Go.dup2 (pc' : Nat) (hp : pc + 1 = pc') {v w : Value} (hd : decode B.by pc = .ok (.dup2, 1)) (hc : v.category = 1) (hc' : w.category = 1) (r : Go Q Z B k n h pc' Ls (v :: w :: v :: w :: st)) : Go Q Z B k n h pc Ls (v :: w :: st) := fun x T P => by
  subst hp; exact lift (fun t q => XT.dup2 P.here P.ex rfl (P.d hd) rfl hc hc' q) (r x T P)
theorem Go.dup2L (pc' : Nat) (hp : pc + 1 = pc') {v : Int64} (hd : decode B.by pc = .ok (.dup2, 1))  (r : Go Q Z B k n h pc' Ls (.long v :: .long v :: st)) : Go Q Z B k n h pc Ls (.long v :: st) := fun x T P => by
  subst hp; exact lift (fun t q => XT.dup2L P.here P.ex rfl (P.d hd) rfl q) (r x T P)
theorem Go.iinc (pc' : Nat) (hp : pc + 3 = pc') {i : Nat} {cst : Int} {x1 : Int32} (v : Int32) (hd : decode B.by pc = .ok (.iinc i cst, 3)) (hv : Int32.ofInt cst = v) (hl : Ls[i]? = some (.val (.int x1))) (hl' : storeLocals Ls i (.int (x1 + v)) = some Ls') (r : Go Q Z B k n h pc' Ls' (st)) : Go Q Z B k n h pc Ls (st) := fun x T P => by
  subst hp; exact lift (fun t q => XT.iincV P.here P.ex rfl v (P.d hd) hv hl hl' q) (r x T P)
theorem Go.irem (pc' : Nat) (hp : pc + 1 = pc') {x1 y1 : Int32} (hd : decode B.by pc = .ok (.irem, 1)) (hy : y1 ≠ 0) (r : Go Q Z B k n h pc' Ls (.int (x1 % y1) :: st)) : Go Q Z B k n h pc Ls (.int y1 :: .int x1 :: st) := fun x T P => by
  subst hp; obtain ⟨_, _, _, X, _⟩ := id P; exact lift (fun t q => iremM X P.ex rfl (P.d hd) rfl hy q) (r x T P)
theorem Go.goto (pc' : Nat) {o : Int} (hd : decode B.by pc = .ok (.goto o, 3)) (h0 : 0 ≤ (pc : Int) + o) (hp : ((pc : Int) + o).toNat = pc') (r : Go Q Z B k n h pc' Ls st) : Go Q Z B k n h pc Ls st := fun x T P =>
  lift (fun t q => XS.goto P.here P.ex rfl (pc0 := pc) rfl (P.d hd) h0 hp q) (r x T P)
theorem Go.icmp_lt (pT pF : Nat) {x1 y1 : Int32} {o : Int} (hd : decode B.by pc = .ok (.if_icmp .lt o, 3)) (h0 : 0 ≤ (pc : Int) + o) (hT : ((pc : Int) + o).toNat = pT) (hF : pc + 3 = pF) (rT : x1 < y1 → Go Q Z B k n h pT Ls st) (rF : ¬ x1 < y1 → Go Q Z B k n h pF Ls st) : Go Q Z B k n h pc Ls (.int y1 :: .int x1 :: st) := fun x T P => by
  subst hF
  by_cases c : x1 < y1
  · exact lift (fun t q => XS.icmpYes P.here P.ex rfl (pc0 := pc) rfl (P.d hd) rfl (tlt c).1 h0 hT q) (rT c x T P)
  · exact lift (fun t q => XS.icmpNo P.here P.ex rfl (P.d hd) rfl (flt c).1 q) (rF c x T P)
theorem Go.if_lt (pT pF : Nat) {x1 : Int32} {o : Int} (hd : decode B.by pc = .ok (.ifCond .lt o, 3)) (h0 : 0 ≤ (pc : Int) + o) (hT : ((pc : Int) + o).toNat = pT) (hF : pc + 3 = pF) (rT : x1 < 0 → Go Q Z B k n h pT Ls st) (rF : ¬ x1 < 0 → Go Q Z B k n h pF Ls st) : Go Q Z B k n h pc Ls (.int x1 :: st) := fun x T P => by
  subst hF
  by_cases c : x1 < 0
  · exact lift (fun t q => XS.ifYes P.here P.ex rfl (pc0 := pc) rfl (P.d hd) rfl ((if0 _ _).trans (tlt c).1) h0 hT q) (rT c x T P)
  · exact lift (fun t q => XS.ifNo P.here P.ex rfl (P.d hd) rfl ((if0 _ _).trans (flt c).1) q) (rF c x T P)
theorem Go.icmp_ge (pT pF : Nat) {x1 y1 : Int32} {o : Int} (hd : decode B.by pc = .ok (.if_icmp .ge o, 3)) (h0 : 0 ≤ (pc : Int) + o) (hT : ((pc : Int) + o).toNat = pT) (hF : pc + 3 = pF) (rT : ¬ x1 < y1 → Go Q Z B k n h pT Ls st) (rF : x1 < y1 → Go Q Z B k n h pF Ls st) : Go Q Z B k n h pc Ls (.int y1 :: .int x1 :: st) := fun x T P => by
  subst hF
  by_cases c : ¬ x1 < y1
  · exact lift (fun t q => XS.icmpYes P.here P.ex rfl (pc0 := pc) rfl (P.d hd) rfl (flt c).2.1 h0 hT q) (rT c x T P)
  · replace c := Decidable.not_not.mp c
    exact lift (fun t q => XS.icmpNo P.here P.ex rfl (P.d hd) rfl (tlt c).2.1 q) (rF c x T P)
theorem Go.if_ge (pT pF : Nat) {x1 : Int32} {o : Int} (hd : decode B.by pc = .ok (.ifCond .ge o, 3)) (h0 : 0 ≤ (pc : Int) + o) (hT : ((pc : Int) + o).toNat = pT) (hF : pc + 3 = pF) (rT : ¬ x1 < 0 → Go Q Z B k n h pT Ls st) (rF : x1 < 0 → Go Q Z B k n h pF Ls st) : Go Q Z B k n h pc Ls (.int x1 :: st) := fun x T P => by
  subst hF
  by_cases c : ¬ x1 < 0
  · exact lift (fun t q => XS.ifYes P.here P.ex rfl (pc0 := pc) rfl (P.d hd) rfl ((if0 _ _).trans (flt c).2.1) h0 hT q) (rT c x T P)
  · replace c := Decidable.not_not.mp c
    exact lift (fun t q => XS.ifNo P.here P.ex rfl (P.d hd) rfl ((if0 _ _).trans (tlt c).2.1) q) (rF c x T P)
theorem Go.icmp_gt (pT pF : Nat) {x1 y1 : Int32} {o : Int} (hd : decode B.by pc = .ok (.if_icmp .gt o, 3)) (h0 : 0 ≤ (pc : Int) + o) (hT : ((pc : Int) + o).toNat = pT) (hF : pc + 3 = pF) (rT : y1 < x1 → Go Q Z B k n h pT Ls st) (rF : ¬ y1 < x1 → Go Q Z B k n h pF Ls st) : Go Q Z B k n h pc Ls (.int y1 :: .int x1 :: st) := fun x T P => by
  subst hF
  by_cases c : y1 < x1
  · exact lift (fun t q => XS.icmpYes P.here P.ex rfl (pc0 := pc) rfl (P.d hd) rfl (tlt c).2.2.1 h0 hT q) (rT c x T P)
  · exact lift (fun t q => XS.icmpNo P.here P.ex rfl (P.d hd) rfl (flt c).2.2.1 q) (rF c x T P)
theorem Go.if_gt (pT pF : Nat) {x1 : Int32} {o : Int} (hd : decode B.by pc = .ok (.ifCond .gt o, 3)) (h0 : 0 ≤ (pc : Int) + o) (hT : ((pc : Int) + o).toNat = pT) (hF : pc + 3 = pF) (rT : 0 < x1 → Go Q Z B k n h pT Ls st) (rF : ¬ 0 < x1 → Go Q Z B k n h pF Ls st) : Go Q Z B k n h pc Ls (.int x1 :: st) := fun x T P => by
  subst hF
  by_cases c : 0 < x1
  · exact lift (fun t q => XS.ifYes P.here P.ex rfl (pc0 := pc) rfl (P.d hd) rfl ((if0 _ _).trans (tlt c).2.2.1) h0 hT q) (rT c x T P)
  · exact lift (fun t q => XS.ifNo P.here P.ex rfl (P.d hd) rfl ((if0 _ _).trans (flt c).2.2.1) q) (rF c x T P)
theorem Go.icmp_le (pT pF : Nat) {x1 y1 : Int32} {o : Int} (hd : decode B.by pc = .ok (.if_icmp .le o, 3)) (h0 : 0 ≤ (pc : Int) + o) (hT : ((pc : Int) + o).toNat = pT) (hF : pc + 3 = pF) (rT : ¬ y1 < x1 → Go Q Z B k n h pT Ls st) (rF : y1 < x1 → Go Q Z B k n h pF Ls st) : Go Q Z B k n h pc Ls (.int y1 :: .int x1 :: st) := fun x T P => by
  subst hF
  by_cases c : ¬ y1 < x1
  · exact lift (fun t q => XS.icmpYes P.here P.ex rfl (pc0 := pc) rfl (P.d hd) rfl (flt c).2.2.2 h0 hT q) (rT c x T P)
  · replace c := Decidable.not_not.mp c
    exact lift (fun t q => XS.icmpNo P.here P.ex rfl (P.d hd) rfl (tlt c).2.2.2 q) (rF c x T P)
theorem Go.if_le (pT pF : Nat) {x1 : Int32} {o : Int} (hd : decode B.by pc = .ok (.ifCond .le o, 3)) (h0 : 0 ≤ (pc : Int) + o) (hT : ((pc : Int) + o).toNat = pT) (hF : pc + 3 = pF) (rT : ¬ 0 < x1 → Go Q Z B k n h pT Ls st) (rF : 0 < x1 → Go Q Z B k n h pF Ls st) : Go Q Z B k n h pc Ls (.int x1 :: st) := fun x T P => by
  subst hF
  by_cases c : ¬ 0 < x1
  · exact lift (fun t q => XS.ifYes P.here P.ex rfl (pc0 := pc) rfl (P.d hd) rfl ((if0 _ _).trans (flt c).2.2.2) h0 hT q) (rT c x T P)
  · replace c := Decidable.not_not.mp c
    exact lift (fun t q => XS.ifNo P.here P.ex rfl (P.d hd) rfl ((if0 _ _).trans (tlt c).2.2.2) q) (rF c x T P)
theorem Go.icmp_eq (pT pF : Nat) {x1 y1 : Int32} {o : Int} (hd : decode B.by pc = .ok (.if_icmp .eq o, 3)) (h0 : 0 ≤ (pc : Int) + o) (hT : ((pc : Int) + o).toNat = pT) (hF : pc + 3 = pF) (rT : x1 = y1 → Go Q Z B k n h pT Ls st) (rF : ¬ x1 = y1 → Go Q Z B k n h pF Ls st) : Go Q Z B k n h pc Ls (.int y1 :: .int x1 :: st) := fun x T P => by
  subst hF
  by_cases c : x1 = y1
  · exact lift (fun t q => XS.icmpYes P.here P.ex rfl (pc0 := pc) rfl (P.d hd) rfl (teq c).1 h0 hT q) (rT c x T P)
  · exact lift (fun t q => XS.icmpNo P.here P.ex rfl (P.d hd) rfl (feq c).1 q) (rF c x T P)
theorem Go.if_eq (pT pF : Nat) {x1 : Int32} {o : Int} (hd : decode B.by pc = .ok (.ifCond .eq o, 3)) (h0 : 0 ≤ (pc : Int) + o) (hT : ((pc : Int) + o).toNat = pT) (hF : pc + 3 = pF) (rT : x1 = 0 → Go Q Z B k n h pT Ls st) (rF : ¬ x1 = 0 → Go Q Z B k n h pF Ls st) : Go Q Z B k n h pc Ls (.int x1 :: st) := fun x T P => by
  subst hF
  by_cases c : x1 = 0
  · exact lift (fun t q => XS.ifYes P.here P.ex rfl (pc0 := pc) rfl (P.d hd) rfl ((if0 _ _).trans (teq c).1) h0 hT q) (rT c x T P)
  · exact lift (fun t q => XS.ifNo P.here P.ex rfl (P.d hd) rfl ((if0 _ _).trans (feq c).1) q) (rF c x T P)
theorem Go.icmp_ne (pT pF : Nat) {x1 y1 : Int32} {o : Int} (hd : decode B.by pc = .ok (.if_icmp .ne o, 3)) (h0 : 0 ≤ (pc : Int) + o) (hT : ((pc : Int) + o).toNat = pT) (hF : pc + 3 = pF) (rT : ¬ x1 = y1 → Go Q Z B k n h pT Ls st) (rF : x1 = y1 → Go Q Z B k n h pF Ls st) : Go Q Z B k n h pc Ls (.int y1 :: .int x1 :: st) := fun x T P => by
  subst hF
  by_cases c : ¬ x1 = y1
  · exact lift (fun t q => XS.icmpYes P.here P.ex rfl (pc0 := pc) rfl (P.d hd) rfl (feq c).2 h0 hT q) (rT c x T P)
  · replace c := Decidable.not_not.mp c
    exact lift (fun t q => XS.icmpNo P.here P.ex rfl (P.d hd) rfl (teq c).2 q) (rF c x T P)
theorem Go.if_ne (pT pF : Nat) {x1 : Int32} {o : Int} (hd : decode B.by pc = .ok (.ifCond .ne o, 3)) (h0 : 0 ≤ (pc : Int) + o) (hT : ((pc : Int) + o).toNat = pT) (hF : pc + 3 = pF) (rT : ¬ x1 = 0 → Go Q Z B k n h pT Ls st) (rF : x1 = 0 → Go Q Z B k n h pF Ls st) : Go Q Z B k n h pc Ls (.int x1 :: st) := fun x T P => by
  subst hF
  by_cases c : ¬ x1 = 0
  · exact lift (fun t q => XS.ifYes P.here P.ex rfl (pc0 := pc) rfl (P.d hd) rfl ((if0 _ _).trans (feq c).2) h0 hT q) (rT c x T P)
  · replace c := Decidable.not_not.mp c
    exact lift (fun t q => XS.ifNo P.here P.ex rfl (P.d hd) rfl ((if0 _ _).trans (teq c).2) q) (rF c x T P)
theorem Go.ifnull_r (pF : Nat) {o : Int} {b : Addr} (hd : decode B.by pc = .ok (.ifnull o, 3)) (hF : pc + 3 = pF) (r : Go Q Z B k n h pF Ls st) : Go Q Z B k n h pc Ls (.ref b :: st) := fun x T P => by
  subst hF; exact lift (fun t q => XS.ifnullNo P.here P.ex rfl (P.d hd) rfl q) (r x T P)
theorem Go.ifnull_n (pT : Nat) {o : Int} (hd : decode B.by pc = .ok (.ifnull o, 3)) (h0 : 0 ≤ (pc : Int) + o) (hT : ((pc : Int) + o).toNat = pT) (r : Go Q Z B k n h pT Ls st) : Go Q Z B k n h pc Ls (.null :: st) := fun x T P =>
  lift (fun t q => XS.ifnullYes P.here P.ex rfl (pc0 := pc) rfl (P.d hd) rfl h0 hT q) (r x T P)
theorem Go.ifnonnull_r (pT : Nat) {o : Int} {b : Addr} (hd : decode B.by pc = .ok (.ifnonnull o, 3)) (h0 : 0 ≤ (pc : Int) + o) (hT : ((pc : Int) + o).toNat = pT) (r : Go Q Z B k n h pT Ls st) : Go Q Z B k n h pc Ls (.ref b :: st) := fun x T P =>
  lift (fun t q => XT.ifnonnullYes P.here P.ex rfl (pc0 := pc) rfl (P.d hd) rfl h0 hT q) (r x T P)
theorem Go.ifnonnull_n (pF : Nat) {o : Int} (hd : decode B.by pc = .ok (.ifnonnull o, 3)) (hF : pc + 3 = pF) (r : Go Q Z B k n h pF Ls st) : Go Q Z B k n h pc Ls (.null :: st) := fun x T P => by
  subst hF; exact lift (fun t q => XT.ifnonnullNo P.here P.ex rfl (P.d hd) rfl q) (r x T P)
theorem Go.acmp_eq (pT pF : Nat) {v w : Value} {o : Int} (hd : decode B.by pc = .ok (.if_acmp .eq o, 3)) (h0 : 0 ≤ (pc : Int) + o) (hT : ((pc : Int) + o).toNat = pT) (hF : pc + 3 = pF) (hv : v.isRef = true) (hw : w.isRef = true) (rT : v = w → Go Q Z B k n h pT Ls st) (rF : ¬ v = w → Go Q Z B k n h pF Ls st) : Go Q Z B k n h pc Ls (w :: v :: st) := fun x T P => by
  subst hF
  by_cases c : v = w
  · exact lift (fun t q => XT.acmpYes P.here P.ex rfl (pc0 := pc) rfl (P.d hd) rfl hv hw (XT.aa_eq_t c) h0 hT q) (rT c x T P)
  · exact lift (fun t q => XT.acmpNo P.here P.ex rfl (P.d hd) rfl hv hw (XT.aa_eq_f c) q) (rF c x T P)
theorem Go.acmp_ne (pT pF : Nat) {v w : Value} {o : Int} (hd : decode B.by pc = .ok (.if_acmp .ne o, 3)) (h0 : 0 ≤ (pc : Int) + o) (hT : ((pc : Int) + o).toNat = pT) (hF : pc + 3 = pF) (hv : v.isRef = true) (hw : w.isRef = true) (rT : ¬ v = w → Go Q Z B k n h pT Ls st) (rF : v = w → Go Q Z B k n h pF Ls st) : Go Q Z B k n h pc Ls (w :: v :: st) := fun x T P => by
  subst hF
  by_cases c : ¬ v = w
  · exact lift (fun t q => XT.acmpYes P.here P.ex rfl (pc0 := pc) rfl (P.d hd) rfl hv hw (XT.aa_ne_t c) h0 hT q) (rT c x T P)
  · replace c := Decidable.not_not.mp c
    exact lift (fun t q => XT.acmpNo P.here P.ex rfl (P.d hd) rfl hv hw (XT.aa_ne_f c) q) (rF c x T P)
theorem En.zz (E : En Z x B) : Z.Warmed39 x.s.vm := E.2.2.2.2.2.2.1
theorem En.own (E : En Z x B) : x.s.vm.findClass B.y.cls = some x.m.cls := E.2.2.2.1
theorem En.ml (E : En Z x B) : x.c.maxLocals = B.ml := E.2.2.1
theorem En.rt (E : En Z x B) : x.meth.sig.returnType = B.rt := E.2.2.2.2.2.1
theorem En.nl (E : En Z x B) : x.meth.locks = false := E.2.2.2.2.2.2.2.1
/-! ## constants of the pool -/
theorem Go.ldcI (pc' : Nat) (hp : pc + 2 = pc') {ix : Nat} {v : Int32} (i : Nat) (hd : decode B.by pc = .ok (.ldc ix, 2)) (w : B.tb[i]? = some (.constant B.y.cls ix v)) (r : Go Q Z B k n h pc' Ls (.int v :: st)) : Go Q Z B k n h pc Ls st := fun x T P => by
  subst hp
  obtain ⟨a0, hw⟩ := P.wd.w
  obtain ⟨E, _, _, X, _⟩ := id P
  exact lift (fun t q => X.ldcI P.ex E.own (mv E.zz (hw w)) rfl (P.d hd) q) (r x T P)
theorem Go.ldcWI (pc' : Nat) (hp : pc + 3 = pc') {ix : Nat} {v : Int32} (i : Nat) (hd : decode B.by pc = .ok (.ldc_w ix, 3)) (w : B.tb[i]? = some (.constant B.y.cls ix v)) (r : Go Q Z B k n h pc' Ls (.int v :: st)) : Go Q Z B k n h pc Ls st := fun x T P => by
  subst hp
  obtain ⟨a0, hw⟩ := P.wd.w
  obtain ⟨E, _, _, X, _⟩ := id P
  exact lift (fun t q => X.ldcWI P.ex E.own (mv E.zz (hw w)) rfl (P.d hd) q) (r x T P)
theorem Go.ldc2J (pc' : Nat) (hp : pc + 3 = pc') {ix : Nat} {v : Int64} (i : Nat) (hd : decode B.by pc = .ok (.ldc2_w ix, 3)) (w : B.tb[i]? = some (.constantLong B.y.cls ix v)) (r : Go Q Z B k n h pc' Ls (.long v :: st)) : Go Q Z B k n h pc Ls st := fun x T P => by
  subst hp
  obtain ⟨a0, hw⟩ := P.wd.w
  obtain ⟨E, _, _, X, _⟩ := id P
  exact lift (fun t q => X.ldc2J P.ex E.own (mv E.zz (hw w)) rfl (P.d hd) q) (r x T P)
theorem Go.ldc2D (pc' : Nat) (hp : pc + 3 = pc') {ix : Nat} {v : UInt64} (i : Nat) (hd : decode B.by pc = .ok (.ldc2_w ix, 3)) (w : B.tb[i]? = some (.constantDouble B.y.cls ix v)) (r : Go Q Z B k n h pc' Ls (.double v :: st)) : Go Q Z B k n h pc Ls st := fun x T P => by
  subst hp
  obtain ⟨a0, hw⟩ := P.wd.w
  obtain ⟨E, _, _, X, _⟩ := id P
  exact lift (fun t q => X.ldc2DoubleC P.ex E.own (mv E.zz (hw w)) (g := mkF x.m pc Ls st) rfl (P.d hd) t q) (r x T P)
/-! ## objects -/
theorem store_one {l l' : Array Slot} {i : Nat} {v : Value} {o : Slot} (hold : l[i]? = some o) (ho : One o) (hv : v.category = 1) (hl : l.setIfInBounds i (.val v) = l') : storeLocals l i v = some l' := by
  rw [XS.store1 hold ho hv, hl]
theorem ltN {a : Addr} {m : Nat} (q : @LT.lt Nat instLTNat a m) : @LT.lt Nat instLTNat a m := q
theorem keep_ext (E : Ext h h') : Keep h h' [] := (Keep.refl h []).ext E
theorem keep_wr {a : Addr} {sl : Nat} {v : Value} (W : Wr h h' a sl v) : Keep h h' [a] := Keep.of_wr W
theorem ext_keep {H : Heap} {ws : List Addr} (E : Ext H h) (K : Keep h h' ws) (q : ∀ y ∈ ws, H.size ≤ y) : Ext H h' :=
  ⟨Nat.le_trans E.1 K.1, fun y c r => K.2.1 y c (E.2 y c r) fun z => absurd (Array.getElem?_eq_some_iff.mp r).1 (Nat.not_lt.mpr (q y z))⟩
theorem ge1 {H : Nat} {a : Addr} (q : H ≤ a) : ∀ y ∈ [a], H ≤ y := allS q all0
theorem fr_snoc {K : Nat} {locs : List Loc} {a : Addr} {sl : Nat} (N : Fr K locs) (q : K ≤ a) : Fr K (locs ++ [⟨a, sl⟩]) := N.app fun y hy => by cases List.mem_singleton.mp hy; exact q
theorem Go.newO (pc' : Nat) (hp : pc + 3 = pc') {C : String} {ix sz : Nat} (i1 i2 i3 : Nat) (hd : decode B.by pc = .ok (.new ix, 3)) (w1 : B.tb[i1]? = some (.classLink B.y.cls ix C)) (w2 : B.tb[i2]? = some (.instantiable C sz)) (w3 : B.tb[i3]? = some (.initialized C)) (hc : k + 1 ≤ B.R.cells) (hl : n + sz ≤ B.R.slots)
    (r : ∀ (h' : Heap) (a : Addr), @Eq Nat a h.size → Z.heap.size ≤ a → Keep h h' [] → Exa Z h' a C → (∀ (i : Nat) {O nm d : String} {ty : FieldType}, B.tb[i]? = some (.lays C O nm d) ∨ B.tb[i]? = some (.laysFinal C O nm d) → parseFieldDescriptor d = some ty → Fld Z h' a O nm d (defaultValue ty)) → Go Q Z B (k + 1) (n + sz) h' pc' Ls (.ref a :: st)) : Go Q Z B k n h pc Ls st := fun x T P => by
  subst hp
  obtain ⟨a0, hw⟩ := P.wd.w
  obtain ⟨E, O', locs, X, e, N⟩ := id P
  obtain ⟨T', h', X', e', Ex, A, D, -, s'⟩ := RoadKit.newO X P.ex E.zz E.own (hw w1) (hw w2) (hw w3) e (g := mkF x.m pc Ls st) rfl (P.d hd) hc hl
  exact lift s' (r h' h.size rfl P.le (keep_ext Ex) A (fun i {O nm d ty} q ht => D (q.imp (fun z => hw z) (fun z => hw z)) ht) x T' ⟨E, ⟨Nat.le_trans O'.1 Ex.1, fun y c q => Ex.2 y c (O'.2 y c q)⟩, locs, X', e', N⟩)
theorem Go.getF (pc' : Nat) (hp : pc + 3 = pc') {O nm d : String} {ix : Nat} {a : Addr} {v : Value} (i : Nat) (hd : decode B.by pc = .ok (.getfield ix, 3)) (w : B.tb[i]? = some (.fieldLink B.y.cls ix O nm d)) (F : Fld Z h a O nm d v) (r : Go Q Z B k n h pc' Ls (v :: st)) : Go Q Z B k n h pc Ls (.ref a :: st) := fun x T P => by
  subst hp
  obtain ⟨a0, hw⟩ := P.wd.w
  obtain ⟨E, O', locs, X, e, N⟩ := id P
  obtain ⟨T', X', e', s'⟩ := RoadKit.getF X P.ex E.zz E.own (host := "") (Or.inl (hw w)) Via.refl e F (g := mkF x.m pc Ls (.ref a :: st)) rfl rfl (P.d hd)
  exact lift s' (r x T' ⟨E, O', locs, X', e', N⟩)
theorem Go.getFN (pc' : Nat) (hp : pc + 3 = pc') {O nm d host : String} {ix : Nat} {a : Addr} {v : Value} (i : Nat) (hd : decode B.by pc = .ok (.getfield ix, 3)) (w : B.tb[i]? = some (.fieldLinkNest B.y.cls ix O nm d host)) (F : Fld Z h a O nm d v) (r : Go Q Z B k n h pc' Ls (v :: st)) : Go Q Z B k n h pc Ls (.ref a :: st) := fun x T P => by
  subst hp
  obtain ⟨a0, hw⟩ := P.wd.w
  obtain ⟨E, O', locs, X, e, N⟩ := id P
  obtain ⟨T', X', e', s'⟩ := RoadKit.getF X P.ex E.zz E.own (host := host) (Or.inr (hw w)) Via.refl e F (g := mkF x.m pc Ls (.ref a :: st)) rfl rfl (P.d hd)
  exact lift s' (r x T' ⟨E, O', locs, X', e', N⟩)
theorem Go.getFV (pc' : Nat) (hp : pc + 3 = pc') {R0 O nm d : String} {ix : Nat} {a : Addr} {v : Value} (i j : Nat) (hd : decode B.by pc = .ok (.getfield ix, 3)) (w : B.tb[i]? = some (.fieldLink B.y.cls ix R0 nm d)) (w2 : B.tb[j]? = some (.sameField R0 O nm d)) (F : Fld Z h a O nm d v) (r : Go Q Z B k n h pc' Ls (v :: st)) : Go Q Z B k n h pc Ls (.ref a :: st) := fun x T P => by
  subst hp
  obtain ⟨a0, hw⟩ := P.wd.w
  obtain ⟨E, O', locs, X, e, N⟩ := id P
  obtain ⟨T', X', e', s'⟩ := RoadKit.getF X P.ex E.zz E.own (host := "") (Or.inl (hw w)) (Via.of (hw w2)) e F (g := mkF x.m pc Ls (.ref a :: st)) rfl rfl (P.d hd)
  exact lift s' (r x T' ⟨E, O', locs, X', e', N⟩)
theorem Go.putF (pc' : Nat) (hp : pc + 3 = pc') {C O nm d : String} {ix sz : Nat} {ty : FieldType} {a : Addr} {v v' old : Value} (i1 i2 i3 : Nat) (hd : decode B.by pc = .ok (.putfield ix, 3)) (w1 : B.tb[i1]? = some (.fieldLink B.y.cls ix O nm d)) (F : Fld Z h a O nm d old) (Ea : Exa Z h a C)
    (L : B.tb[i2]? = some (.lays C O nm d) ∨ (B.tb[i2]? = some (.laysFinal C O nm d) ∧ B.y.cls = O ∧ B.y.name = "<init>")) (w3 : B.tb[i3]? = some (.instantiable C sz)) (hty : parseFieldDescriptor d = some ty) (hn : narrow ty v = v') (hf : fits ty v' = true) (ge : Z.heap.size ≤ a)
    (r : ∀ h' : Heap, Keep h h' [a] → Wr h h' a (RoadKit.slotOf Z O nm d) v' → Fld Z h' a O nm d v' → Go Q Z B k n h' pc' Ls st) : Go Q Z B k n h pc Ls (v :: .ref a :: st) := fun x T P => by
  subst hp
  obtain ⟨a0, hw⟩ := P.wd.w
  obtain ⟨E, O', locs, X, e, N⟩ := id P
  obtain ⟨T', h', X', e', W, s'⟩ := putFN X P.ex E.zz E.own (hw w1) Via.refl e F Ea (L.imp (fun z => hw z) (fun z => ⟨hw z.1, z.2.1, E.2.2.2.2.1.trans z.2.2⟩)) (hw w3) hty hn hf (g := mkF x.m pc Ls (v :: .ref a :: st)) rfl rfl (P.d hd)
  exact lift s' (r h' (keep_wr W) W (F.same W) x T' ⟨E, ext_keep O' (keep_wr W) (ge1 ge), _, X', e', fr_snoc N ge⟩)
theorem Go.putFV (pc' : Nat) (hp : pc + 3 = pc') {R0 C O nm d : String} {ix sz : Nat} {ty : FieldType} {a : Addr} {v v' old : Value} (i1 i2 i3 i4 : Nat) (hd : decode B.by pc = .ok (.putfield ix, 3)) (w1 : B.tb[i1]? = some (.fieldLink B.y.cls ix R0 nm d)) (w4 : B.tb[i4]? = some (.sameField R0 O nm d)) (F : Fld Z h a O nm d old) (Ea : Exa Z h a C)
    (L : B.tb[i2]? = some (.lays C O nm d) ∨ (B.tb[i2]? = some (.laysFinal C O nm d) ∧ B.y.cls = O ∧ B.y.name = "<init>")) (w3 : B.tb[i3]? = some (.instantiable C sz)) (hty : parseFieldDescriptor d = some ty) (hn : narrow ty v = v') (hf : fits ty v' = true) (ge : Z.heap.size ≤ a)
    (r : ∀ h' : Heap, Keep h h' [a] → Wr h h' a (RoadKit.slotOf Z O nm d) v' → Fld Z h' a O nm d v' → Go Q Z B k n h' pc' Ls st) : Go Q Z B k n h pc Ls (v :: .ref a :: st) := fun x T P => by
  subst hp
  obtain ⟨a0, hw⟩ := P.wd.w
  obtain ⟨E, O', locs, X, e, N⟩ := id P
  obtain ⟨T', h', X', e', W, s'⟩ := putFN X P.ex E.zz E.own (hw w1) (Via.of (hw w4)) e F Ea (L.imp (fun z => hw z) (fun z => ⟨hw z.1, z.2.1, E.2.2.2.2.1.trans z.2.2⟩)) (hw w3) hty hn hf (g := mkF x.m pc Ls (v :: .ref a :: st)) rfl rfl (P.d hd)
  exact lift s' (r h' (keep_wr W) W (F.same W) x T' ⟨E, ext_keep O' (keep_wr W) (ge1 ge), _, X', e', fr_snoc N ge⟩)
/-- another field of the object that was written -/
theorem Fld.oth {C O nm d O2 nm2 d2 : String} {tb : List Cond} {a b : Addr} {v w : Value} {t t' : FieldType} (hw : Wd Z tb) (F : Fld Z h b O nm d w) (W : Wr h h' a (RoadKit.slotOf Z O2 nm2 d2) v) (i j : Nat) (L1 : tb[i]? = some (.lays C O nm d) ∨ tb[i]? = some (.laysFinal C O nm d)) (L2 : tb[j]? = some (.lays C O2 nm2 d2) ∨ tb[j]? = some (.laysFinal C O2 nm2 d2))
    (hn : nm ≠ nm2) (ht : parseFieldDescriptor d = some t) (ht' : parseFieldDescriptor d2 = some t') : Fld Z h' b O nm d w := by
  obtain ⟨a0, hw⟩ := hw.w
  exact F.other W (Or.inr (RoadKit.slot_ne (a0 := a0) (L1.imp (fun z => hw z) (fun z => hw z)) (L2.imp (fun z => hw z) (fun z => hw z)) hn ht ht'))
theorem Go.getS (pc' : Nat) (hp : pc + 3 = pc') {O nm d : String} {ix : Nat} {v : Value} (i : Nat) (hd : decode B.by pc = .ok (.getstatic ix, 3)) (w : B.tb[i]? = some (.fieldLink B.y.cls ix O nm d)) (F : Sta Z Z.heap O nm d v) (r : Go Q Z B k n h pc' Ls (v :: st)) : Go Q Z B k n h pc Ls st := fun x T P => by
  subst hp
  obtain ⟨a0, hw⟩ := P.wd.w
  obtain ⟨E, O', locs, X, e, N⟩ := id P
  obtain ⟨T', X', e', s'⟩ := RoadKit.getS X P.ex E.zz (host := "") E.own (hw w) Via.refl e (F.ext O') (g := mkF x.m pc Ls st) rfl (P.d hd)
  exact lift s' (r x T' ⟨E, O', locs, X', e', N⟩)
theorem Go.getSN (pc' : Nat) (hp : pc + 3 = pc') {O nm d host : String} {ix : Nat} {v : Value} (i : Nat) (hd : decode B.by pc = .ok (.getstatic ix, 3)) (w : B.tb[i]? = some (.fieldLinkNest B.y.cls ix O nm d host)) (F : Sta Z Z.heap O nm d v) (r : Go Q Z B k n h pc' Ls (v :: st)) : Go Q Z B k n h pc Ls st := fun x T P => by
  subst hp
  obtain ⟨a0, hw⟩ := P.wd.w
  obtain ⟨E, O', locs, X, e, N⟩ := id P
  obtain ⟨T', X', e', s'⟩ := getS2 X P.ex E.zz (host := host) E.own (Or.inr (hw w)) Via.refl e (F.ext O') (g := mkF x.m pc Ls st) rfl (P.d hd)
  exact lift s' (r x T' ⟨E, O', locs, X', e', N⟩)
theorem Go.castY (pc' : Nat) (hp : pc + 3 = pc') {K : String} {ix : Nat} {a : Addr} (i : Nat) (hd : decode B.by pc = .ok (.checkcast ix, 3)) (w : B.tb[i]? = some (.classLink B.y.cls ix K)) (F : Ins Z h a K true) (r : Go Q Z B k n h pc' Ls (.ref a :: st)) : Go Q Z B k n h pc Ls (.ref a :: st) := fun x T P => by
  subst hp
  obtain ⟨a0, hw⟩ := P.wd.w
  obtain ⟨E, O', locs, X, e, N⟩ := id P
  obtain ⟨T', X', e', s'⟩ := RoadKit.castY X P.ex E.zz E.own (hw w) e F (g := mkF x.m pc Ls (.ref a :: st)) rfl rfl (P.d hd)
  exact lift s' (r x T' ⟨E, O', locs, X', e', N⟩)
theorem Go.instY (pc' : Nat) (hp : pc + 3 = pc') {K : String} {ix : Nat} {a : Addr} (i : Nat) (hd : decode B.by pc = .ok (.instanceof ix, 3)) (w : B.tb[i]? = some (.classLink B.y.cls ix K)) (F : Ins Z h a K true) (r : Go Q Z B k n h pc' Ls (.int 1 :: st)) : Go Q Z B k n h pc Ls (.ref a :: st) := fun x T P => by
  subst hp
  obtain ⟨a0, hw⟩ := P.wd.w
  obtain ⟨E, O', locs, X, e, N⟩ := id P
  obtain ⟨T', X', e', s'⟩ := RoadKit.instY X P.ex E.zz E.own (hw w) e F (g := mkF x.m pc Ls (.ref a :: st)) rfl rfl (P.d hd)
  exact lift s' (r x T' ⟨E, O', locs, X', e', N⟩)
theorem Go.instNo (pc' : Nat) (hp : pc + 3 = pc') {C K : String} {ix : Nat} {a : Addr} (i : Nat) (hd : decode B.by pc = .ok (.instanceof ix, 3)) (w : B.tb[i]? = some (.classLink B.y.cls ix K)) (Ea : Exa Z h a C) (F : ∃ c t, Z.vm.findClass C = some c ∧ Z.vm.findClass K = some t ∧ Z.vm.assignable c t = false) (r : Go Q Z B k n h pc' Ls (.int 0 :: st)) : Go Q Z B k n h pc Ls (.ref a :: st) := fun x T P => by
  subst hp
  obtain ⟨a0, hw⟩ := P.wd.w
  obtain ⟨E, O', locs, X, e, N⟩ := id P
  obtain ⟨T', X', e', s'⟩ := RoadKit.instNo X P.ex E.zz E.own (hw w) e Ea F (g := mkF x.m pc Ls (.ref a :: st)) rfl rfl (P.d hd)
  exact lift s' (r x T' ⟨E, O', locs, X', e', N⟩)
theorem Go.initO (pc' : Nat) (hp : pc + 3 = pc') {ix : Nat} {a : Addr} (i1 i2 i3 : Nat) (hd : decode B.by pc = .ok (.invokespecial ix, 3)) (w1 : B.tb[i1]? = some (.methodLink B.y.cls ix Lib.objectInit)) (w2 : B.tb[i2]? = some (.instanceMethod Lib.objectInit)) (w3 : B.tb[i3]? = some (.code Lib.objectInit ⟨#[0xb1]⟩ 1 none)) (hs : Ls.size = B.ml) (hf : 1 ≤ B.R.frames) {W : Nat} (hW : (st.map fun v => v.category).sum ≤ W) (hl : W + 12 ≤ B.R.locals)
    (r : Go Q Z B k n h pc' Ls st) : Go Q Z B k n h pc Ls (.ref a :: st) := fun x T P => by
  subst hp
  obtain ⟨a0, hw⟩ := P.wd.w
  obtain ⟨E, O', locs, X, e, N⟩ := id P
  obtain ⟨T', X', e', s'⟩ := RoadKit.initO X P.ex E.zz E.own (hw w1) (hw w2) (hw w3) e (g := mkF x.m pc Ls (.ref a :: st)) rfl (by rw [E.ml]; exact hs) rfl (P.d hd) hf (W := W) (by show 2 * 0 + _ ≤ _; omega) hl
  exact lift s' (r x T' ⟨E, O', locs, X', e', N⟩)
/-! ## arrays -/
theorem Ary.lt {a : Addr} {ty : FieldType} {vs : List Value} (A : Ary Z h a ty vs) : a < h.size := by obtain ⟨c, A, -⟩ := A; exact A.lt
theorem Ary.len {a : Addr} {ty : FieldType} {vs : List Value} (A : Ary Z h a ty vs) : vs.length < 2 ^ 31 := by obtain ⟨c, -, -, r, -⟩ := A; exact r
theorem len_ofNat {m : Nat} (hm : m < 2 ^ 31) : (Int32.ofNat m).toInt = m := Int32.toInt_ofNat_of_lt hm
theorem ofNat_zero {m : Nat} (hm : m < 2 ^ 31) : Int32.ofNat m = 0 ↔ m = 0 := by
  constructor
  · intro q; have := len_ofNat hm; rw [q] at this; have z : (0 : Int32).toInt = 0 := rfl; omega
  · intro q; subst q; rfl
theorem Ary.keep {a : Addr} {ty : FieldType} {vs : List Value} {ws : List Addr} (A : Ary Z h a ty vs) (K : Keep h h' ws) (q : a ∉ ws) : Ary Z h' a ty vs := by
  obtain ⟨c, A, r⟩ := A; exact ⟨c, ⟨K.2.1 a c A.1 q, A.2⟩, r⟩
theorem Ary.ext {a : Addr} {ty : FieldType} {vs : List Value} (E : Ext h h') (A : Ary Z h a ty vs) : Ary Z h' a ty vs := by
  obtain ⟨c, A, r⟩ := A; exact ⟨c, A.ext E, r⟩
theorem Aov.keep {a : Addr} {C : String} {ws : List Addr} (A : Aov Z h a C) (K : Keep h h' ws) : Aov Z h' a C := by
  obtain ⟨c, A, r⟩ := A; obtain ⟨c', q1, q2, -⟩ := K.2.2 a c A; exact ⟨c', q1, q2 ▸ r⟩
theorem Ins.keep {a : Addr} {C : String} {b : Bool} {ws : List Addr} (A : Ins Z h a C b) (K : Keep h h' ws) : Ins Z h' a C b := by
  obtain ⟨c, cT, A, r1, r2⟩ := A; obtain ⟨c', q1, q2, q3, -⟩ := K.2.2 a c A; exact ⟨c', cT, q1, r1, by rw [q2, q3]; exact r2⟩
theorem Sta.keepO {C nm d : String} {w : Value} (E : Ext Z.heap h) (F : Sta Z Z.heap C nm d w) : Sta Z h C nm d w := F.ext E
theorem ix_in {m : Nat} {j : Int32} (h0 : 0 ≤ j.toInt) (h1 : j.toInt < m) : ¬ (j < 0 ∨ m ≤ j.toNatClampNeg) := by
  intro q
  rcases q with q | q
  · rw [Int32.lt_iff_toInt_lt] at q; have : (0 : Int32).toInt = 0 := rfl; omega
  · have := nat_of (j := j) (by rw [Int32.lt_iff_toInt_lt]; have : (0 : Int32).toInt = 0 := rfl; omega); omega
theorem ix_nat {m : Nat} {j : Int32} (h0 : j.toInt = m) : j.toNatClampNeg = m := by
  have := nat_of (j := j) (by rw [Int32.lt_iff_toInt_lt]; have : (0 : Int32).toInt = 0 := rfl; omega); omega
theorem len_nat {m : Nat} (h : m < 2 ^ 31) : m.toInt32.toInt = m := len_toInt h
theorem slots_at {c : Cell} {vs : List Value} (e : c.slots.toList = vs) (j : Nat) : c.slots[j]? = vs[j]? := by rw [← e]; simp
theorem Go.newA (pc' : Nat) (hp : pc + 2 = pc') {aty : ArrayType} {m : Int32} (i cap N : Nat) (hd : decode B.by pc = .ok (.newarray aty, 2)) (w : B.tb[i]? = some (.arrayClass (newarray.typeOf aty))) (hN : m.toInt = N) (hcap : N ≤ cap) (hb : cap * 8 ≤ 536870912) (hc : k + 1 ≤ B.R.cells) (hl : n + cap ≤ B.R.slots)
    (r : ∀ (h' : Heap) (a : Addr), @Eq Nat a h.size → Z.heap.size ≤ a → Keep h h' [] → Ary Z h' a (newarray.typeOf aty) (List.replicate N (defaultValue (newarray.typeOf aty))) → Exa Z h' a ("[" ++ (newarray.typeOf aty).toString) → Go Q Z B (k + 1) (n + cap) h' pc' Ls (.ref a :: st)) : Go Q Z B k n h pc Ls (.int m :: st) := fun x T P => by
  subst hp
  obtain ⟨a0, hw⟩ := P.wd.w
  obtain ⟨E, O', locs, X, e, N'⟩ := id P
  have hm : ¬ m < 0 := by rw [Int32.lt_iff_toInt_lt]; have : (0 : Int32).toInt = 0 := rfl; omega
  obtain ⟨T', h', cA, X', e', Ex, A, A', s'⟩ := newPE X P.ex E.zz (hw w) e (g := mkF x.m pc Ls (.int m :: st)) rfl (P.d hd) rfl hm (cap := cap) (by rw [ix_nat hN]; exact hcap) hb hc hl rfl
  have hlen : N < 2 ^ 31 := by have := m.toInt_lt; omega
  refine lift s' (r h' h.size rfl P.le (keep_ext Ex) ⟨_, A, ?_, ?_, ?_⟩ A' x T' ⟨E, ⟨Nat.le_trans O'.1 Ex.1, fun y c q => Ex.2 y c (O'.2 y c q)⟩, locs, X', e', N'⟩)
  · show (Array.replicate _ _).toList = _
    rw [ix_nat hN, Array.toList_replicate]
  · rw [List.length_replicate]; exact hlen
  · intro v hv
    rw [List.eq_of_mem_replicate hv]
    cases aty <;> rfl
theorem Go.newR (pc' : Nat) (hp : pc + 3 = pc') {C : String} {ix : Nat} {m : Int32} (i1 i2 cap N : Nat) (hd : decode B.by pc = .ok (.anewarray ix, 3)) (w1 : B.tb[i1]? = some (.classLink B.y.cls ix C)) (w2 : B.tb[i2]? = some (.arrayOver (.object C))) (hN : m.toInt = N) (hcap : N ≤ cap) (hb : cap * 8 ≤ 536870912) (hc : k + 1 ≤ B.R.cells) (hl : n + cap ≤ B.R.slots)
    (r : ∀ (h' : Heap) (a : Addr), @Eq Nat a h.size → Z.heap.size ≤ a → Keep h h' [] → Ary Z h' a (.object C) (List.replicate N .null) → Exa Z h' a ("[" ++ (FieldType.object C).toString) → Aov Z h' a C → Go Q Z B (k + 1) (n + cap) h' pc' Ls (.ref a :: st)) : Go Q Z B k n h pc Ls (.int m :: st) := fun x T P => by
  subst hp
  obtain ⟨a0, hw⟩ := P.wd.w
  obtain ⟨E, O', locs, X, e, N'⟩ := id P
  have hm : ¬ m < 0 := by rw [Int32.lt_iff_toInt_lt]; have : (0 : Int32).toInt = 0 := rfl; omega
  obtain ⟨T', h', cA, X', e', Ex, A, A', O1, s'⟩ := newRE X P.ex E.zz E.own (hw w1) (hw w2) e (g := mkF x.m pc Ls (.int m :: st)) rfl (P.d hd) rfl hm (cap := cap) (by rw [ix_nat hN]; exact hcap) hb hc hl rfl
  have hlen : N < 2 ^ 31 := by have := m.toInt_lt; omega
  refine lift s' (r h' h.size rfl P.le (keep_ext Ex) ⟨_, A, ?_, ?_, ?_⟩ A' ⟨_, A.1, O1⟩ x T' ⟨E, ⟨Nat.le_trans O'.1 Ex.1, fun y c q => Ex.2 y c (O'.2 y c q)⟩, locs, X', e', N'⟩)
  · show (Array.replicate _ _).toList = _
    rw [ix_nat hN, Array.toList_replicate]; rfl
  · rw [List.length_replicate]; exact hlen
  · intro v hv
    rw [List.eq_of_mem_replicate hv]; rfl
theorem Go.alen (pc' : Nat) (hp : pc + 1 = pc') {ty : FieldType} {a : Addr} {vs : List Value} (v : Int32) (hd : decode B.by pc = .ok (.arraylength, 1)) (A : Ary Z h a ty vs) (hv : v.toInt = vs.length) (r : Go Q Z B k n h pc' Ls (.int v :: st)) : Go Q Z B k n h pc Ls (.ref a :: st) := fun x T P => by
  subst hp
  obtain ⟨E, O', locs, X, e, N'⟩ := id P
  obtain ⟨c, A, e1, e2, e3⟩ := A
  have : c.slots.size.toInt32 = v := by
    have q : c.slots.size = vs.length := by rw [← e1]; simp
    apply Int32.toInt_inj.mp
    rw [q, hv, len_toInt e2]
  exact lift (fun t q => X.arraylength P.ex (by rw [e]; exact A.1) (State.isArrayOf_alike E.zz.alike A.2.1) (g := mkF x.m pc Ls (.ref a :: st)) rfl rfl (P.d hd) t (by rw [this]; exact q)) (r x T P)
theorem Go.iaload (pc' : Nat) (hp : pc + 1 = pc') {a : Addr} {vs : List Value} {j : Int32} (v : Int32) (hd : decode B.by pc = .ok (.iaload, 1)) (A : Ary Z h a .int vs) (jn : Nat) (hj : j.toInt = jn) (hv : vs[jn]? = some (.int v)) (r : Go Q Z B k n h pc' Ls (.int v :: st)) : Go Q Z B k n h pc Ls (.int j :: .ref a :: st) := fun x T P => by
  subst hp
  obtain ⟨E, O', locs, X, e, N'⟩ := id P
  obtain ⟨c, A, e1, e2, e3⟩ := A
  have q : c.slots.size = vs.length := by rw [← e1]; simp
  have hlt := (List.getElem?_eq_some_iff.mp hv).1
  exact lift (fun t q' => X.iaload P.ex (j := j) (v := .int v) (by rw [e]; exact A.1) (State.isArrayOf_alike E.zz.alike A.2.1) A.2.2 (ix_in (by omega) (by omega)) (by rw [ix_nat hj, slots_at e1]; exact hv) (g := mkF x.m pc Ls (.int j :: .ref a :: st)) rfl rfl (P.d hd) t q') (r x T P)
theorem Go.laload (pc' : Nat) (hp : pc + 1 = pc') {a : Addr} {vs : List Value} {j : Int32} (v : Int64) (hd : decode B.by pc = .ok (.laload, 1)) (A : Ary Z h a .long vs) (jn : Nat) (hj : j.toInt = jn) (hv : vs[jn]? = some (.long v)) (r : Go Q Z B k n h pc' Ls (.long v :: st)) : Go Q Z B k n h pc Ls (.int j :: .ref a :: st) := fun x T P => by
  subst hp
  obtain ⟨E, O', locs, X, e, N'⟩ := id P
  obtain ⟨c, A, e1, e2, e3⟩ := A
  have q : c.slots.size = vs.length := by rw [← e1]; simp
  have hlt := (List.getElem?_eq_some_iff.mp hv).1
  exact lift (fun t q' => X.laload P.ex (j := j) (v := .long v) (by rw [e]; exact A.1) (State.isArrayOf_alike E.zz.alike A.2.1) A.2.2 (ix_in (by omega) (by omega)) (by rw [ix_nat hj, slots_at e1]; exact hv) (g := mkF x.m pc Ls (.int j :: .ref a :: st)) rfl rfl (P.d hd) t q') (r x T P)
theorem Go.caload (pc' : Nat) (hp : pc + 1 = pc') {a : Addr} {vs : List Value} {j : Int32} (v : Int32) (hd : decode B.by pc = .ok (.caload, 1)) (A : Ary Z h a .char vs) (jn : Nat) (hj : j.toInt = jn) (hv : vs[jn]? = some (.int v)) (r : Go Q Z B k n h pc' Ls (.int v :: st)) : Go Q Z B k n h pc Ls (.int j :: .ref a :: st) := fun x T P => by
  subst hp
  obtain ⟨E, O', locs, X, e, N'⟩ := id P
  obtain ⟨c, A, e1, e2, e3⟩ := A
  have q : c.slots.size = vs.length := by rw [← e1]; simp
  have hlt := (List.getElem?_eq_some_iff.mp hv).1
  exact lift (fun t q' => X.caload P.ex (j := j) (v := .int v) (by rw [e]; exact A.1) (State.isArrayOf_alike E.zz.alike A.2.1) A.2.2 (ix_in (by omega) (by omega)) (by rw [ix_nat hj, slots_at e1]; exact hv) (g := mkF x.m pc Ls (.int j :: .ref a :: st)) rfl rfl (P.d hd) t q') (r x T P)
theorem Go.saload (pc' : Nat) (hp : pc + 1 = pc') {a : Addr} {vs : List Value} {j : Int32} (v : Int32) (hd : decode B.by pc = .ok (.saload, 1)) (A : Ary Z h a .short vs) (jn : Nat) (hj : j.toInt = jn) (hv : vs[jn]? = some (.int v)) (r : Go Q Z B k n h pc' Ls (.int v :: st)) : Go Q Z B k n h pc Ls (.int j :: .ref a :: st) := fun x T P => by
  subst hp
  obtain ⟨E, O', locs, X, e, N'⟩ := id P
  obtain ⟨c, A, e1, e2, e3⟩ := A
  have q : c.slots.size = vs.length := by rw [← e1]; simp
  have hlt := (List.getElem?_eq_some_iff.mp hv).1
  exact lift (fun t q' => X.saload P.ex (j := j) (v := .int v) (by rw [e]; exact A.1) (State.isArrayOf_alike E.zz.alike A.2.1) A.2.2 (ix_in (by omega) (by omega)) (by rw [ix_nat hj, slots_at e1]; exact hv) (g := mkF x.m pc Ls (.int j :: .ref a :: st)) rfl rfl (P.d hd) t q') (r x T P)
theorem Go.baload (pc' : Nat) (hp : pc + 1 = pc') {a : Addr} {vs : List Value} {j : Int32} (v : Int32) (hd : decode B.by pc = .ok (.baload, 1)) (A : Ary Z h a .byte vs) (jn : Nat) (hj : j.toInt = jn) (hv : vs[jn]? = some (.int v)) (r : Go Q Z B k n h pc' Ls (.int v :: st)) : Go Q Z B k n h pc Ls (.int j :: .ref a :: st) := fun x T P => by
  subst hp
  obtain ⟨E, O', locs, X, e, N'⟩ := id P
  obtain ⟨c, A, e1, e2, e3⟩ := A
  have q : c.slots.size = vs.length := by rw [← e1]; simp
  have hlt := (List.getElem?_eq_some_iff.mp hv).1
  exact lift (fun t q' => X.baloadBytes P.ex (j := j) (v := .int v) (by rw [e]; exact A.1) (State.isArrayOf_alike E.zz.alike A.2.1) A.2.2 (ix_in (by omega) (by omega)) (by rw [ix_nat hj, slots_at e1]; exact hv) (g := mkF x.m pc Ls (.int j :: .ref a :: st)) rfl rfl (P.d hd) t q') (r x T P)
theorem Go.zaload (pc' : Nat) (hp : pc + 1 = pc') {a : Addr} {vs : List Value} {j : Int32} (v : Int32) (hd : decode B.by pc = .ok (.baload, 1)) (A : Ary Z h a .boolean vs) (jn : Nat) (hj : j.toInt = jn) (hv : vs[jn]? = some (.int v)) (r : Go Q Z B k n h pc' Ls (.int v :: st)) : Go Q Z B k n h pc Ls (.int j :: .ref a :: st) := fun x T P => by
  subst hp
  obtain ⟨E, O', locs, X, e, N'⟩ := id P
  obtain ⟨c, A, e1, e2, e3⟩ := A
  have q : c.slots.size = vs.length := by rw [← e1]; simp
  have hlt := (List.getElem?_eq_some_iff.mp hv).1
  exact lift (fun t q' => X.baloadBooleans P.ex (j := j) (v := .int v) (by rw [e]; exact A.1) (State.isArrayOf_alike E.zz.alike A.2.1) A.2.2 (ix_in (by omega) (by omega)) (by rw [ix_nat hj, slots_at e1]; exact hv) (g := mkF x.m pc Ls (.int j :: .ref a :: st)) rfl rfl (P.d hd) t q') (r x T P)
theorem Go.aaload (pc' : Nat) (hp : pc + 1 = pc') {ty : FieldType} {a : Addr} {vs : List Value} {j : Int32} (v : Value) (hd : decode B.by pc = .ok (.aaload, 1)) (hty : ty.isReference = true) (A : Ary Z h a ty vs) (jn : Nat) (hj : j.toInt = jn) (hv : vs[jn]? = some v) (r : Go Q Z B k n h pc' Ls (v :: st)) : Go Q Z B k n h pc Ls (.int j :: .ref a :: st) := fun x T P => by
  subst hp
  obtain ⟨E, O', locs, X, e, N'⟩ := id P
  obtain ⟨c, A, e1, e2, e3⟩ := A
  have q : c.slots.size = vs.length := by rw [← e1]; simp
  have hlt := (List.getElem?_eq_some_iff.mp hv).1
  exact lift (fun t q' => X.aaload P.ex (j := j) (v := v) (by rw [e]; exact A.1) (State.isArrayOf_alike E.zz.alike A.2.1) hty A.2.2 (ix_in (by omega) (by omega)) (by rw [ix_nat hj, slots_at e1]; exact hv) (g := mkF x.m pc Ls (.int j :: .ref a :: st)) rfl rfl (P.d hd) t q') (r x T P)
/-- a store into an array -/
theorem Ary.set {a : Addr} {ty : FieldType} {vs : List Value} {j : Nat} {v : Value} {c : Cell} (A : Arr Z h a c ty) (e1 : c.slots.toList = vs) (e2 : vs.length < 2 ^ 31) (e3 : ∀ v ∈ vs, fits ty v = true) (W : Wr h h' a j v) (hv : fits ty v = true) : Ary Z h' a ty (vs.set j v) := by
  refine ⟨c.setSlot j v, A.same W, ?_, by rw [List.length_set]; exact e2, fun w hw => ?_⟩
  · show (c.slots.setIfInBounds j v).toList = _
    rw [Array.toList_setIfInBounds, e1]
  · rcases List.mem_or_eq_of_mem_set hw with q | rfl
    · exact e3 _ q
    · exact hv
theorem Go.stI (pc' : Nat) (hp : pc + 1 = pc') {a : Addr} {vs : List Value} {j : Int32} {v : Int32} (hd : decode B.by pc = .ok (.iastore, 1)) (A : Ary Z h a .int vs) (jn : Nat) (hj : j.toInt = jn) (hlt : jn < vs.length) (ge : Z.heap.size ≤ a)
    (r : ∀ h' : Heap, Keep h h' [a] → Ary Z h' a .int (vs.set jn (.int v)) → Go Q Z B k n h' pc' Ls st) : Go Q Z B k n h pc Ls (.int v :: .int j :: .ref a :: st) := fun x T P => by
  subst hp
  obtain ⟨E, O', locs, X, e, N⟩ := id P
  obtain ⟨c, A, e1, e2, e3⟩ := A
  have q : c.slots.size = vs.length := by rw [← e1]; simp
  obtain ⟨T', h', X', e', W, s'⟩ := RoadKit.stI X P.ex E.zz e A (j := j) (ix_in (by omega) (by omega)) (g := mkF x.m pc Ls (.int v :: .int j :: .ref a :: st)) rfl rfl (P.d hd)
  rw [ix_nat hj] at W
  exact lift s' (r h' (keep_wr W) (Ary.set A e1 e2 e3 W (rfl)) x T' ⟨E, ext_keep O' (keep_wr W) (ge1 ge), _, X', e', fr_snoc N ge⟩)
theorem Go.stJ (pc' : Nat) (hp : pc + 1 = pc') {a : Addr} {vs : List Value} {j : Int32} {v : Int64} (hd : decode B.by pc = .ok (.lastore, 1)) (A : Ary Z h a .long vs) (jn : Nat) (hj : j.toInt = jn) (hlt : jn < vs.length) (ge : Z.heap.size ≤ a)
    (r : ∀ h' : Heap, Keep h h' [a] → Ary Z h' a .long (vs.set jn (.long v)) → Go Q Z B k n h' pc' Ls st) : Go Q Z B k n h pc Ls (.long v :: .int j :: .ref a :: st) := fun x T P => by
  subst hp
  obtain ⟨E, O', locs, X, e, N⟩ := id P
  obtain ⟨c, A, e1, e2, e3⟩ := A
  have q : c.slots.size = vs.length := by rw [← e1]; simp
  obtain ⟨T', h', X', e', W, s'⟩ := RoadKit.stJ X P.ex E.zz e A (j := j) (ix_in (by omega) (by omega)) (g := mkF x.m pc Ls (.long v :: .int j :: .ref a :: st)) rfl rfl (P.d hd)
  rw [ix_nat hj] at W
  exact lift s' (r h' (keep_wr W) (Ary.set A e1 e2 e3 W (rfl)) x T' ⟨E, ext_keep O' (keep_wr W) (ge1 ge), _, X', e', fr_snoc N ge⟩)
theorem Go.stC (pc' : Nat) (hp : pc + 1 = pc') {a : Addr} {vs : List Value} {j : Int32} {v : Int32} (hd : decode B.by pc = .ok (.castore, 1)) (A : Ary Z h a .char vs) (jn : Nat) (hj : j.toInt = jn) (hlt : jn < vs.length) (ge : Z.heap.size ≤ a)
    (r : ∀ h' : Heap, Keep h h' [a] → Ary Z h' a .char (vs.set jn (.int (nar .char v))) → Go Q Z B k n h' pc' Ls st) : Go Q Z B k n h pc Ls (.int v :: .int j :: .ref a :: st) := fun x T P => by
  subst hp
  obtain ⟨E, O', locs, X, e, N⟩ := id P
  obtain ⟨c, A, e1, e2, e3⟩ := A
  have q : c.slots.size = vs.length := by rw [← e1]; simp
  obtain ⟨T', h', X', e', W, s'⟩ := RoadKit.stC X P.ex E.zz e A (j := j) (ix_in (by omega) (by omega)) (g := mkF x.m pc Ls (.int v :: .int j :: .ref a :: st)) rfl rfl (P.d hd)
  rw [ix_nat hj] at W
  exact lift s' (r h' (keep_wr W) (Ary.set A e1 e2 e3 W (fits_nar_char v)) x T' ⟨E, ext_keep O' (keep_wr W) (ge1 ge), _, X', e', fr_snoc N ge⟩)
theorem Go.stS (pc' : Nat) (hp : pc + 1 = pc') {a : Addr} {vs : List Value} {j : Int32} {v : Int32} (hd : decode B.by pc = .ok (.sastore, 1)) (A : Ary Z h a .short vs) (jn : Nat) (hj : j.toInt = jn) (hlt : jn < vs.length) (ge : Z.heap.size ≤ a)
    (r : ∀ h' : Heap, Keep h h' [a] → Ary Z h' a .short (vs.set jn (.int (nar .short v))) → Go Q Z B k n h' pc' Ls st) : Go Q Z B k n h pc Ls (.int v :: .int j :: .ref a :: st) := fun x T P => by
  subst hp
  obtain ⟨E, O', locs, X, e, N⟩ := id P
  obtain ⟨c, A, e1, e2, e3⟩ := A
  have q : c.slots.size = vs.length := by rw [← e1]; simp
  obtain ⟨T', h', X', e', W, s'⟩ := RoadKit.stS X P.ex E.zz e A (j := j) (ix_in (by omega) (by omega)) (g := mkF x.m pc Ls (.int v :: .int j :: .ref a :: st)) rfl rfl (P.d hd)
  rw [ix_nat hj] at W
  exact lift s' (r h' (keep_wr W) (Ary.set A e1 e2 e3 W (fits_nar_short v)) x T' ⟨E, ext_keep O' (keep_wr W) (ge1 ge), _, X', e', fr_snoc N ge⟩)
theorem Go.stB (pc' : Nat) (hp : pc + 1 = pc') {a : Addr} {vs : List Value} {j : Int32} {v : Int32} (hd : decode B.by pc = .ok (.bastore, 1)) (A : Ary Z h a .byte vs) (jn : Nat) (hj : j.toInt = jn) (hlt : jn < vs.length) (ge : Z.heap.size ≤ a)
    (r : ∀ h' : Heap, Keep h h' [a] → Ary Z h' a .byte (vs.set jn (.int (nar .byte v))) → Go Q Z B k n h' pc' Ls st) : Go Q Z B k n h pc Ls (.int v :: .int j :: .ref a :: st) := fun x T P => by
  subst hp
  obtain ⟨E, O', locs, X, e, N⟩ := id P
  obtain ⟨c, A, e1, e2, e3⟩ := A
  have q : c.slots.size = vs.length := by rw [← e1]; simp
  obtain ⟨T', h', X', e', W, s'⟩ := RoadKit.stB X P.ex E.zz e A (j := j) (ix_in (by omega) (by omega)) (g := mkF x.m pc Ls (.int v :: .int j :: .ref a :: st)) rfl rfl (P.d hd)
  rw [ix_nat hj] at W
  exact lift s' (r h' (keep_wr W) (Ary.set A e1 e2 e3 W (fits_nar_byte v)) x T' ⟨E, ext_keep O' (keep_wr W) (ge1 ge), _, X', e', fr_snoc N ge⟩)
theorem Go.stZ (pc' : Nat) (hp : pc + 1 = pc') {a : Addr} {vs : List Value} {j : Int32} {v : Int32} (hd : decode B.by pc = .ok (.bastore, 1)) (A : Ary Z h a .boolean vs) (jn : Nat) (hj : j.toInt = jn) (hlt : jn < vs.length) (ge : Z.heap.size ≤ a)
    (r : ∀ h' : Heap, Keep h h' [a] → Ary Z h' a .boolean (vs.set jn (.int (nar .boolean v))) → Go Q Z B k n h' pc' Ls st) : Go Q Z B k n h pc Ls (.int v :: .int j :: .ref a :: st) := fun x T P => by
  subst hp
  obtain ⟨E, O', locs, X, e, N⟩ := id P
  obtain ⟨c, A, e1, e2, e3⟩ := A
  have q : c.slots.size = vs.length := by rw [← e1]; simp
  obtain ⟨T', h', X', e', W, s'⟩ := RoadKit.stZ X P.ex E.zz e A (j := j) (ix_in (by omega) (by omega)) (g := mkF x.m pc Ls (.int v :: .int j :: .ref a :: st)) rfl rfl (P.d hd)
  rw [ix_nat hj] at W
  exact lift s' (r h' (keep_wr W) (Ary.set A e1 e2 e3 W (fits_nar_bool v)) x T' ⟨E, ext_keep O' (keep_wr W) (ge1 ge), _, X', e', fr_snoc N ge⟩)
theorem Go.stR (pc' : Nat) (hp : pc + 1 = pc') {C : String} {a b : Addr} {vs : List Value} {j : Int32} (hd : decode B.by pc = .ok (.aastore, 1)) (A : Ary Z h a (.object C) vs) (O : Aov Z h a C) (I : Ins Z h b C true) (jn : Nat) (hj : j.toInt = jn) (hlt : jn < vs.length) (ge : Z.heap.size ≤ a)
    (r : ∀ h' : Heap, Keep h h' [a] → Ary Z h' a (.object C) (vs.set jn (.ref b)) → Go Q Z B k n h' pc' Ls st) : Go Q Z B k n h pc Ls (.ref b :: .int j :: .ref a :: st) := fun x T P => by
  subst hp
  obtain ⟨E, O', locs, X, e, N⟩ := id P
  obtain ⟨c, A, e1, e2, e3⟩ := A
  obtain ⟨c', q1, q2⟩ := O
  cases q1.symm.trans A.1
  have q : c.slots.size = vs.length := by rw [← e1]; simp
  obtain ⟨T', h', X', e', W, s'⟩ := RoadKit.stR X P.ex E.zz e A (j := j) (v := .ref b) (ix_in (by omega) (by omega)) rfl (Sto.of A q2 I) (g := mkF x.m pc Ls (.ref b :: .int j :: .ref a :: st)) rfl rfl (P.d hd)
  rw [ix_nat hj] at W
  exact lift s' (r h' (keep_wr W) (Ary.set A e1 e2 e3 W rfl) x T' ⟨E, ext_keep O' (keep_wr W) (ge1 ge), _, X', e', fr_snoc N ge⟩)
/-! ## returns -/
theorem ret_core {v : Option Value} {T : State} {locs : List Loc} {fs : List Frame} (E : En Z x B) (O' : Ext Z.heap h) (e : T.heap = h) (N : Fr Z.heap.size locs) (hk : k ≤ B.R.cells) (hn : n ≤ B.R.slots) (hQ : Q v h)
    (hs : Steps x.p.tables x.e x.below (T.setTop (mkF x.m pc Ls st)) (T.setFrames fs)) (hrun : (T.setFrames fs).status = .running) (hended : Ended (T.setFrames fs) x.below (.returned v)) (hW : x.s.WarmedH (T.setFrames fs).vm) (hsame : x.s.sameButNew ({ T.setFrames fs with vm := x.s.vm } : State) locs k n) : Rn Q Z x B T pc Ls st := by
  subst e
  exact ⟨T.setFrames fs, _, hs, hrun, hended, _, locs, rfl, ⟨hQ, O', N⟩, ⟨_, rfl⟩, hW, hsame.mono hk hn⟩
theorem Go.retV (hd : decode B.by pc = .ok (.return_, 1)) (ht : B.rt = none) (hk : k ≤ B.R.cells) (hn : n ≤ B.R.slots) (hQ : Q none h) : Go Q Z B k n h pc Ls [] := fun x T P => by
  obtain ⟨E, O', locs, X, e, N⟩ := id P
  obtain ⟨fs, hr, hrun, hended, hW, hsame⟩ := X.leave (v := none) (fun _ => rfl) E.nl
  exact ret_core E O' e N hk hn hQ (X.returnOut P.ex (E.rt.trans ht) (P.d hd) hr) hrun hended hW hsame
theorem Go.retI {z : Int32} (hd : decode B.by pc = .ok (.ireturn, 1)) (ht : B.rt = some .int) (hk : k ≤ B.R.cells) (hn : n ≤ B.R.slots) (hQ : Q (some (.int z)) h) : Go Q Z B k n h pc Ls [.int z] := fun x T P => by
  obtain ⟨E, O', locs, X, e, N⟩ := id P
  obtain ⟨fs, hr, hrun, hended, hW, hsame⟩ := X.leave (v := some (.int z)) (fun q => by rw [E.rt, ht] at q; cases q) E.nl
  exact ret_core E O' e N hk hn hQ (X.ireturnOut P.ex (E.rt.trans ht) rfl (Or.inl rfl) (P.d hd) hr) hrun hended hW hsame
theorem Go.retN {z z' : Int32} {t : FieldType} (hd : decode B.by pc = .ok (.ireturn, 1)) (ht : B.rt = some t) (hz : t = .boolean ∨ t = .byte ∨ t = .char ∨ t = .short) (hq : nar t z = z') (hk : k ≤ B.R.cells) (hn : n ≤ B.R.slots) (hQ : Q (some (.int z')) h) : Go Q Z B k n h pc Ls (.int z :: st) := fun x T P => by
  subst hq
  obtain ⟨E, O', locs, X, e, N⟩ := id P
  obtain ⟨fs, hr, hrun, hended, hW, hsame⟩ := X.leave (v := some (.int (nar t z))) (fun q => by rw [E.rt, ht] at q; cases q) E.nl
  exact ret_core E O' e N hk hn hQ (RoadKit.retN X P.ex (E.rt.trans ht) hz (P.d hd) hr) hrun hended hW hsame
theorem Go.retJ {z : Int64} (hd : decode B.by pc = .ok (.lreturn, 1)) (ht : B.rt = some .long) (hk : k ≤ B.R.cells) (hn : n ≤ B.R.slots) (hQ : Q (some (.long z)) h) : Go Q Z B k n h pc Ls [.long z] := fun x T P => by
  obtain ⟨E, O', locs, X, e, N⟩ := id P
  obtain ⟨fs, hr, hrun, hended, hW, hsame⟩ := X.leave (v := some (.long z)) (fun q => by rw [E.rt, ht] at q; cases q) E.nl
  exact ret_core E O' e N hk hn hQ (X.lreturnOut P.ex (E.rt.trans ht) (P.d hd) hr) hrun hended hW hsame
theorem Go.retD {z : UInt64} (hd : decode B.by pc = .ok (.dreturn, 1)) (ht : B.rt = some .double) (hk : k ≤ B.R.cells) (hn : n ≤ B.R.slots) (hQ : Q (some (.double z)) h) : Go Q Z B k n h pc Ls (.double z :: st) := fun x T P => by
  obtain ⟨E, O', locs, X, e, N⟩ := id P
  obtain ⟨fs, hr, hrun, hended, hW, hsame⟩ := X.leave (v := some (.double z)) (fun q => by rw [E.rt, ht] at q; cases q) E.nl
  exact ret_core E O' e N hk hn hQ (retOut X P.ex (i := .dreturn) (E.rt.trans ht) rfl (Or.inr (Or.inr (Or.inl ⟨rfl, rfl, _, rfl⟩))) (P.d hd) hr) hrun hended hW hsame
theorem Go.retA {z : Value} {t : FieldType} (hd : decode B.by pc = .ok (.areturn, 1)) (ht : B.rt = some t) (hr' : t.isReference = true) (hz : z.isRef = true) (hk : k ≤ B.R.cells) (hn : n ≤ B.R.slots) (hQ : Q (some z) h) : Go Q Z B k n h pc Ls [z] := fun x T P => by
  obtain ⟨E, O', locs, X, e, N⟩ := id P
  obtain ⟨fs, hr, hrun, hended, hW, hsame⟩ := X.leave (v := some z) (fun q => by rw [E.rt, ht] at q; cases q) E.nl
  exact ret_core E O' e N hk hn hQ (X.areturnOut P.ex hz (E.rt.trans ht) hr' (P.d hd) hr) hrun hended hW hsame
/-! ## calls -/
theorem Con.back {C : Bd} {as : Array Value} {Qc : Option Value → Heap → Prop} {len W : Nat} (K : Con Z C as h Qc) (P : Sp Z x B T k n h) (i j : Nat) (wc : B.tb[i]? = some (.code C.y C.by C.ml C.rt)) (wz : B.tb[j]? = some (.initialized C.y.cls)) (hf : C.R.frames + 1 ≤ B.R.frames) (hl : W + (C.ml + 11) + C.R.locals ≤ B.R.locals) :
    Back x.l B.R x.p x.e x.below x.s x.args C.y len W (fun A a => a = as ∧ A.U.heap = h ∧ A.cells + C.R.cells ≤ B.R.cells ∧ A.slots + C.R.slots ≤ B.R.slots)
      (fun A _ v D => ∃ L, (Qc v D.U.heap ∧ Ext Z.heap D.U.heap ∧ Fr Z.heap.size L) ∧ D.locs = A.locs ++ L ∧ D.cells = A.cells + C.R.cells ∧ D.slots = A.slots + C.R.slots) := by
  obtain ⟨a0, hw⟩ := P.wd.w
  exact backOf (a0 := a0) (Q := fun v h' L => Qc v h' ∧ Ext Z.heap h' ∧ Fr Z.heap.size L) (K P.old x.l []) P.1.zz (hw wc) (hw wz) hf hl
theorem Go.callS (pc' : Nat) (hp : pc + 3 = pc') {C : Bd} {Qc : Option Value → Heap → Prop} {ix : Nat} (argsL : List Value) {st : List Value} (i1 i2 i3 i4 : Nat) (K : Con Z C argsL.toArray h Qc) (hd : decode B.by pc = .ok (.invokestatic ix, 3)) (w1 : B.tb[i1]? = some (.methodLink B.y.cls ix C.y)) (w2 : B.tb[i2]? = some (.static C.y)) (w3 : B.tb[i3]? = some (.initialized C.y.cls)) (w4 : B.tb[i4]? = some (.code C.y C.by C.ml C.rt))
    (hy : C.y.cls ≠ "java/lang/invoke/MethodHandle" ∧ C.y.cls ≠ "java/lang/invoke/VarHandle") {ps : List FieldType} {rt : Option FieldType} (hpd : parseMethodDescriptor C.y.desc = some ⟨ps, rt⟩) (hlen : argsL.length = ps.length) (hs : Ls.size = B.ml) (hst : st = argsL.reverse ++ rest) {W : Nat} (hW : (rest.map fun v => v.category).sum ≤ W) (hf : C.R.frames + 1 ≤ B.R.frames) (hl : W + (C.ml + 11) + C.R.locals ≤ B.R.locals) (hc : k + C.R.cells ≤ B.R.cells) (hn : n + C.R.slots ≤ B.R.slots)
    (r : ∀ (v : Option Value) (h' : Heap), Qc v h' → Go Q Z B (k + C.R.cells) (n + C.R.slots) h' pc' Ls (v.toList ++ rest)) : Go Q Z B k n h pc Ls st := fun x T P => by
  subst hp hst
  obtain ⟨a0, hw⟩ := P.wd.w
  obtain ⟨E, O', locs, X, e, N⟩ := id P
  obtain ⟨v, vm₁, ⟨T1, L1, k1, n1⟩, -, X1, ⟨Lc, hQ, l1, y1, z1⟩, st1⟩ := Jvm.LawKit.callS X P.ex (y := C.y) E.own (mvT E.zz (hw w1)) (mvT E.zz (hw w2)) (mvT E.zz (hw w3)) (mvT E.zz (hw w4)) hy (K.back (W := W) P i4 i3 w4 w3 hf hl) (g := mkF x.m pc Ls (argsL.reverse ++ rest)) rfl (by rw [E.ml]; exact hs) (argsL := argsL) (rest := rest) (lenOf hpd hlen) rfl (by show 2 * 0 + _ ≤ _; omega) (P.d hd) (fun _ _ => ⟨rfl, e, hc, hn⟩)
  dsimp only [Pt.U, Pt.locs, Pt.cells, Pt.slots] at X1 l1 y1 z1 st1 hQ
  subst l1 y1 z1
  exact lift st1 (r v T1.heap hQ.1 x T1 ⟨E, hQ.2.1, _, X1, rfl, N.app hQ.2.2⟩)
theorem Go.callI (pc' : Nat) (hp : pc + 3 = pc') {C : Bd} {Qc : Option Value → Heap → Prop} {ix : Nat} (a : Addr) (argsL : List Value) {st : List Value} (i1 i2 i3 i4 : Nat) (K : Con Z C (.ref a :: argsL).toArray h Qc) (hd : decode B.by pc = .ok (.invokespecial ix, 3)) (w1 : B.tb[i1]? = some (.methodLink B.y.cls ix C.y)) (w2 : B.tb[i2]? = some (.instanceMethod C.y)) (w3 : B.tb[i3]? = some (.initialized C.y.cls)) (w4 : B.tb[i4]? = some (.code C.y C.by C.ml none)) (hrt : C.rt = none) (hi : C.y.name = "<init>")
    (hy : C.y.cls ≠ "java/lang/invoke/MethodHandle" ∧ C.y.cls ≠ "java/lang/invoke/VarHandle") {ps : List FieldType} {rt : Option FieldType} (hpd : parseMethodDescriptor C.y.desc = some ⟨ps, rt⟩) (hlen : argsL.length = ps.length) (hs : Ls.size = B.ml) (hst : st = argsL.reverse ++ .ref a :: rest) {W : Nat} (hW : (rest.map fun v => v.category).sum ≤ W) (hf : C.R.frames + 1 ≤ B.R.frames) (hl : W + (C.ml + 11) + C.R.locals ≤ B.R.locals) (hc : k + C.R.cells ≤ B.R.cells) (hn : n + C.R.slots ≤ B.R.slots)
    (r : ∀ (v : Option Value) (h' : Heap), Qc v h' → Go Q Z B (k + C.R.cells) (n + C.R.slots) h' pc' Ls (v.toList ++ rest)) : Go Q Z B k n h pc Ls st := fun x T P => by
  subst hp hst
  obtain ⟨a0, hw⟩ := P.wd.w
  obtain ⟨E, O', locs, X, e, N⟩ := id P
  obtain ⟨v, vm₁, ⟨T1, L1, k1, n1⟩, -, X1, ⟨Lc, hQ, l1, y1, z1⟩, st1⟩ := X.specialBack P.ex (y := C.y) hi E.own (mvT E.zz (hw w1)) (mvT E.zz (hw w2)) (mvT E.zz (hw w4)) hy (K.back (W := W) P i4 i3 (by rw [hrt]; exact w4) w3 hf hl) (g := mkF x.m pc Ls (argsL.reverse ++ .ref a :: rest)) rfl (by rw [E.ml]; exact hs) (Steps.refl _) (a := a) (argsL := argsL) (rest := rest) (lenOf hpd hlen) rfl (by show 2 * 0 + _ ≤ _; omega) (P.d hd) (fun _ _ => ⟨rfl, e, hc, hn⟩)
  dsimp only [Pt.U, Pt.locs, Pt.cells, Pt.slots] at X1 l1 y1 z1 st1 hQ
  subst l1 y1 z1
  exact liftS st1 (r v T1.heap hQ.1 x T1 ⟨E, hQ.2.1, _, X1, rfl, N.app hQ.2.2⟩)
theorem Go.callV (pc' : Nat) (hp : pc + 3 = pc') {C : Bd} {Qc : Option Value → Heap → Prop} {ix : Nat} {D : String} (a : Addr) (argsL : List Value) {st : List Value} (i1 i2 i3 i4 i5 i6 : Nat) (K : Con Z C (.ref a :: argsL).toArray h Qc) (Ea : Exa Z h a D) (hd : decode B.by pc = .ok (.invokevirtual ix, 3)) (w1 : B.tb[i1]? = some (.methodLink B.y.cls ix C.y)) (w2 : B.tb[i2]? = some (.declares C.y)) (w3 : B.tb[i3]? = some (.selects D C.y C.y)) (w4 : B.tb[i4]? = some (.instanceMethod C.y)) (w5 : B.tb[i5]? = some (.initialized C.y.cls)) (w6 : B.tb[i6]? = some (.code C.y C.by C.ml C.rt))
    (hy : C.y.cls ≠ "java/lang/invoke/MethodHandle" ∧ C.y.cls ≠ "java/lang/invoke/VarHandle") {ps : List FieldType} {rt : Option FieldType} (hpd : parseMethodDescriptor C.y.desc = some ⟨ps, rt⟩) (hlen : argsL.length = ps.length) (hs : Ls.size = B.ml) (hst : st = argsL.reverse ++ .ref a :: rest) {W : Nat} (hW : (rest.map fun v => v.category).sum ≤ W) (hf : C.R.frames + 1 ≤ B.R.frames) (hl : W + (C.ml + 11) + C.R.locals ≤ B.R.locals) (hc : k + C.R.cells ≤ B.R.cells) (hn : n + C.R.slots ≤ B.R.slots)
    (r : ∀ (v : Option Value) (h' : Heap), Qc v h' → Go Q Z B (k + C.R.cells) (n + C.R.slots) h' pc' Ls (v.toList ++ rest)) : Go Q Z B k n h pc Ls st := fun x T P => by
  subst hp hst
  obtain ⟨a0, hw⟩ := P.wd.w
  obtain ⟨E, O', locs, X, e, N⟩ := id P
  obtain ⟨cq, kq, qa, qb, qc⟩ := isOf E.zz e Ea
  obtain ⟨v, vm₁, ⟨T1, L1, k1, n1⟩, -, X1, ⟨Lc, hQ, l1, y1, z1⟩, st1⟩ := X.virtualBack P.ex (y := C.y) (z := C.y) E.own (mvT E.zz (hw w1)) (mvT E.zz (hw w2)) (notFace_of_selects (args := #[]) (mvT E.zz (hw w3))) (mvT E.zz (hw w3)) (mvT E.zz (hw w4)) hy (K.back (W := W) P i6 i5 w6 w5 hf hl) qa qc (g := mkF x.m pc Ls (argsL.reverse ++ .ref a :: rest)) rfl (by rw [E.ml]; exact hs) (Steps.refl _) (argsL := argsL) (rest := rest) (lenOf hpd hlen) rfl (by show 2 * 0 + _ ≤ _; omega) (P.d hd) (fun _ _ => ⟨rfl, e, hc, hn⟩)
  dsimp only [Pt.U, Pt.locs, Pt.cells, Pt.slots] at X1 l1 y1 z1 st1 hQ
  subst l1 y1 z1
  exact liftS st1 (r v T1.heap hQ.1 x T1 ⟨E, hQ.2.1, _, X1, rfl, N.app hQ.2.2⟩)
theorem Go.callP (pc' : Nat) (hp : pc + 3 = pc') {C : Bd} {Qc : Option Value → Heap → Prop} {ix : Nat} {D : String} (a : Addr) (argsL : List Value) {st : List Value} (i1 i2 i3 i4 i5 i6 : Nat) (K : Con Z C (.ref a :: argsL).toArray h Qc) (Ea : Exa Z h a D) (hd : decode B.by pc = .ok (.invokevirtual ix, 3)) (w1 : B.tb[i1]? = some (.methodLink B.y.cls ix C.y)) (w2 : B.tb[i2]? = some (.instanceMethod C.y)) (w3 : B.tb[i3]? = some (.selects C.y.cls C.y C.y)) (w4 : B.tb[i4]? = some (.privateMethod C.y)) (w5 : B.tb[i5]? = some (.initialized C.y.cls)) (w6 : B.tb[i6]? = some (.code C.y C.by C.ml C.rt))
    (hy : C.y.cls ≠ "java/lang/invoke/MethodHandle" ∧ C.y.cls ≠ "java/lang/invoke/VarHandle") {ps : List FieldType} {rt : Option FieldType} (hpd : parseMethodDescriptor C.y.desc = some ⟨ps, rt⟩) (hlen : argsL.length = ps.length) (hs : Ls.size = B.ml) (hst : st = argsL.reverse ++ .ref a :: rest) {W : Nat} (hW : (rest.map fun v => v.category).sum ≤ W) (hf : C.R.frames + 1 ≤ B.R.frames) (hl : W + (C.ml + 11) + C.R.locals ≤ B.R.locals) (hc : k + C.R.cells ≤ B.R.cells) (hn : n + C.R.slots ≤ B.R.slots)
    (r : ∀ (v : Option Value) (h' : Heap), Qc v h' → Go Q Z B (k + C.R.cells) (n + C.R.slots) h' pc' Ls (v.toList ++ rest)) : Go Q Z B k n h pc Ls st := fun x T P => by
  subst hp hst
  obtain ⟨a0, hw⟩ := P.wd.w
  obtain ⟨E, O', locs, X, e, N⟩ := id P
  obtain ⟨cq, qa, qb⟩ := Ea.cell
  obtain ⟨v, vm₁, ⟨T1, L1, k1, n1⟩, -, X1, ⟨Lc, hQ, l1, y1, z1⟩, st1⟩ := X.privateBack P.ex (y := C.y) E.own (mvT E.zz (hw w1)) (mvT E.zz (hw w2)) (mvT E.zz (hw w3)) (Cond.privateMethod_at (mvP E.zz (hw w4) (args := #[]))) (mvT E.zz (hw w6)) hy (K.back (W := W) P i6 i5 w6 w5 hf hl) (g := mkF x.m pc Ls (argsL.reverse ++ .ref a :: rest)) rfl (by rw [E.ml]; exact hs) (Steps.refl _) (a := a) (by rw [e]; exact qa) qb (argsL := argsL) (rest := rest) (lenOf hpd hlen) rfl (by show 2 * 0 + _ ≤ _; omega) (P.d hd) (fun _ _ => ⟨rfl, e, hc, hn⟩)
  dsimp only [Pt.U, Pt.locs, Pt.cells, Pt.slots] at X1 l1 y1 z1 st1 hQ
  subst l1 y1 z1
  exact liftS st1 (r v T1.heap hQ.1 x T1 ⟨E, hQ.2.1, _, X1, rfl, N.app hQ.2.2⟩)
theorem Go.callP2 (pc' : Nat) (hp : pc + 3 = pc') {C : Bd} {Qc : Option Value → Heap → Prop} {ix : Nat} {D : String} {sz : Nat} (a : Addr) (argsL : List Value) {st : List Value} (i1 i2 i3 i4 i5 i6 : Nat) (K : Con Z C (.ref a :: argsL).toArray h Qc) (Ea : Exa Z h a D) (hd : decode B.by pc = .ok (.invokevirtual ix, 3)) (w1 : B.tb[i1]? = some (.methodLink B.y.cls ix C.y)) (w2 : B.tb[i2]? = some (.instanceMethod C.y)) (w3 : B.tb[i3]? = some (.instantiable C.y.cls sz)) (w4 : B.tb[i4]? = some (.privateMethod C.y)) (w5 : B.tb[i5]? = some (.initialized C.y.cls)) (w6 : B.tb[i6]? = some (.code C.y C.by C.ml C.rt))
    (hy : C.y.cls ≠ "java/lang/invoke/MethodHandle" ∧ C.y.cls ≠ "java/lang/invoke/VarHandle") {ps : List FieldType} {rt : Option FieldType} (hpd : parseMethodDescriptor C.y.desc = some ⟨ps, rt⟩) (hlen : argsL.length = ps.length) (hs : Ls.size = B.ml) (hst : st = argsL.reverse ++ .ref a :: rest) {W : Nat} (hW : (rest.map fun v => v.category).sum ≤ W) (hf : C.R.frames + 1 ≤ B.R.frames) (hl : W + (C.ml + 11) + C.R.locals ≤ B.R.locals) (hc : k + C.R.cells ≤ B.R.cells) (hn : n + C.R.slots ≤ B.R.slots)
    (r : ∀ (v : Option Value) (h' : Heap), Qc v h' → Go Q Z B (k + C.R.cells) (n + C.R.slots) h' pc' Ls (v.toList ++ rest)) : Go Q Z B k n h pc Ls st := fun x T P => by
  subst hp hst
  obtain ⟨a0, hw⟩ := P.wd.w
  obtain ⟨E, O', locs, X, e, N⟩ := id P
  have hsel0 : (Cond.selects C.y.cls C.y C.y).before a0 Z = true := by
    obtain ⟨t, kt, i1, i2, i3, i4, -⟩ := Cond.instantiable_spec (hw w3)
    exact selects_self_of_private i1 i2 (Bool.or_eq_false_iff.mp i4).1 (Cond.privateMethod_at (hw w4)) (hw w2) hy
  obtain ⟨cq, qa, qb⟩ := Ea.cell
  obtain ⟨v, vm₁, ⟨T1, L1, k1, n1⟩, -, X1, ⟨Lc, hQ, l1, y1, z1⟩, st1⟩ := X.privateBack P.ex (y := C.y) E.own (mvT E.zz (hw w1)) (mvT E.zz (hw w2)) (mvT E.zz hsel0) (Cond.privateMethod_at (mvP E.zz (hw w4) (args := #[]))) (mvT E.zz (hw w6)) hy (K.back (W := W) P i6 i5 w6 w5 hf hl) (g := mkF x.m pc Ls (argsL.reverse ++ .ref a :: rest)) rfl (by rw [E.ml]; exact hs) (Steps.refl _) (a := a) (by rw [e]; exact qa) qb (argsL := argsL) (rest := rest) (lenOf hpd hlen) rfl (by show 2 * 0 + _ ≤ _; omega) (P.d hd) (fun _ _ => ⟨rfl, e, hc, hn⟩)
  dsimp only [Pt.U, Pt.locs, Pt.cells, Pt.slots] at X1 l1 y1 z1 st1 hQ
  subst l1 y1 z1
  exact liftS st1 (r v T1.heap hQ.1 x T1 ⟨E, hQ.2.1, _, X1, rfl, N.app hQ.2.2⟩)
theorem Go.callF (pc' : Nat) (hp : pc + 5 = pc') {C : Bd} {Qc : Option Value → Heap → Prop} {ix ct : Nat} {y : MethodName} {D : String} (a : Addr) (argsL : List Value) {st : List Value} (i1 i2 i3 i4 i5 i6 i7 i8 i9 i10 : Nat) (K : Con Z C (.ref a :: argsL).toArray h Qc) (Ea : Exa Z h a D) (hd : decode B.by pc = .ok (.invokeinterface ix ct, 5)) (w1 : B.tb[i1]? = some (.methodLink B.y.cls ix y)) (w2 : B.tb[i2]? = some (.declares y)) (w3 : B.tb[i3]? = some (.interfaceMethod y.cls y.cls y.name y.desc)) (w4 : B.tb[i4]? = some (.selects D y C.y)) (w5 : B.tb[i5]? = some (.instanceMethod C.y)) (w6 : B.tb[i6]? = some (.publicMethod C.y)) (w7 : B.tb[i7]? = some (.unhidden D y.name y.desc)) (w8 : B.tb[i8]? = some (.castable D y.cls)) (w9 : B.tb[i9]? = some (.initialized C.y.cls)) (w10 : B.tb[i10]? = some (.code C.y C.by C.ml C.rt)) (hk : ((Cond.interfaceMethod y.cls y.cls y.name y.desc).onTables && (Cond.interfaceMethod y.cls y.cls y.name y.desc).keepsFace) = true)
    (hy : y.cls ≠ "java/lang/invoke/MethodHandle" ∧ y.cls ≠ "java/lang/invoke/VarHandle") {ps : List FieldType} {rt : Option FieldType} (hpd : parseMethodDescriptor y.desc = some ⟨ps, rt⟩) (hlen : argsL.length = ps.length) (hs : Ls.size = B.ml) (hst : st = argsL.reverse ++ .ref a :: rest) {W : Nat} (hW : (rest.map fun v => v.category).sum ≤ W) (hf : C.R.frames + 1 ≤ B.R.frames) (hl : W + (C.ml + 11) + C.R.locals ≤ B.R.locals) (hc : k + C.R.cells ≤ B.R.cells) (hn : n + C.R.slots ≤ B.R.slots)
    (r : ∀ (v : Option Value) (h' : Heap), Qc v h' → Go Q Z B (k + C.R.cells) (n + C.R.slots) h' pc' Ls (v.toList ++ rest)) : Go Q Z B k n h pc Ls st := fun x T P => by
  subst hp hst
  obtain ⟨a0, hw⟩ := P.wd.w
  obtain ⟨E, O', locs, X, e, N⟩ := id P
  obtain ⟨cq, kq, qa, qb, qc⟩ := isOf E.zz e Ea
  obtain ⟨v, vm₁, ⟨T1, L1, k1, n1⟩, -, X1, ⟨Lc, hQ, l1, y1, z1⟩, st1⟩ := X.interfaceBack P.ex (xi := y) (y := C.y) E.own (mvT E.zz (hw w1)) (mvT E.zz (hw w2)) (mvT E.zz (hw w3) hk) (mvT E.zz (hw w4)) (mvT E.zz (hw w5)) (mvT E.zz (hw w6)) (mvT E.zz (hw w7)) (mvT E.zz (hw w8)) hy (K.back (W := W) P i10 i9 w10 w9 hf hl) qa qb qc (g := mkF x.m pc Ls (argsL.reverse ++ .ref a :: rest)) rfl (by rw [E.ml]; exact hs) (Steps.refl _) (argsL := argsL) (rest := rest) (lenOf hpd hlen) rfl (by show 2 * 0 + _ ≤ _; omega) (P.d hd) (fun _ _ => ⟨rfl, e, hc, hn⟩)
  dsimp only [Pt.U, Pt.locs, Pt.cells, Pt.slots] at X1 l1 y1 z1 st1 hQ
  subst l1 y1 z1
  exact liftS st1 (r v T1.heap hQ.1 x T1 ⟨E, hQ.2.1, _, X1, rfl, N.app hQ.2.2⟩)
theorem Go.callVU (pc' : Nat) (hp : pc + 3 = pc') {C : Bd} {Qc : Option Value → Heap → Prop} {ix : Nat} {y : MethodName} {D ow : String} (a : Addr) (argsL : List Value) {st : List Value} (i1 i2 i3 i4 i5 i6 i7 : Nat) (K : Con Z C (.ref a :: argsL).toArray h Qc) (Ea : Exa Z h a D) (hd : decode B.by pc = .ok (.invokevirtual ix, 3)) (w1 : B.tb[i1]? = some (.methodLink B.y.cls ix y)) (w2 : B.tb[i2]? = some (.sameMethod y.cls ow y.name y.desc)) (w3 : B.tb[i3]? = some (.declares ⟨ow, y.name, y.desc⟩)) (w4 : B.tb[i4]? = some (.selects D y C.y)) (w5 : B.tb[i5]? = some (.instanceMethod C.y)) (w6 : B.tb[i6]? = some (.initialized C.y.cls)) (w7 : B.tb[i7]? = some (.code C.y C.by C.ml C.rt))
    (hy : ow ≠ "java/lang/invoke/MethodHandle" ∧ ow ≠ "java/lang/invoke/VarHandle") {ps : List FieldType} {rt : Option FieldType} (hpd : parseMethodDescriptor y.desc = some ⟨ps, rt⟩) (hlen : argsL.length = ps.length) (hs : Ls.size = B.ml) (hst : st = argsL.reverse ++ .ref a :: rest) {W : Nat} (hW : (rest.map fun v => v.category).sum ≤ W) (hf : C.R.frames + 1 ≤ B.R.frames) (hl : W + (C.ml + 11) + C.R.locals ≤ B.R.locals) (hc : k + C.R.cells ≤ B.R.cells) (hn : n + C.R.slots ≤ B.R.slots)
    (r : ∀ (v : Option Value) (h' : Heap), Qc v h' → Go Q Z B (k + C.R.cells) (n + C.R.slots) h' pc' Ls (v.toList ++ rest)) : Go Q Z B k n h pc Ls st := fun x T P => by
  subst hp hst
  obtain ⟨a0, hw⟩ := P.wd.w
  obtain ⟨E, O', locs, X, e, N⟩ := id P
  obtain ⟨cq, kq, qa, qb, qc⟩ := isOf E.zz e Ea
  obtain ⟨v, vm₁, ⟨T1, L1, k1, n1⟩, -, X1, ⟨Lc, hQ, l1, y1, z1⟩, st1⟩ := X.virtualBackUp P.ex (x := y) (y := C.y) E.own (mvT E.zz (hw w1)) (mvT E.zz (hw w2)) (mvT E.zz (hw w3)) hy (mvT E.zz (hw w4)) (mvT E.zz (hw w5)) (K.back (W := W) P i7 i6 w7 w6 hf hl) qa qc (g := mkF x.m pc Ls (argsL.reverse ++ .ref a :: rest)) rfl (by rw [E.ml]; exact hs) (Steps.refl _) (argsL := argsL) (rest := rest) (lenOf hpd hlen) rfl (by show 2 * 0 + _ ≤ _; omega) (P.d hd) (fun _ _ => ⟨rfl, e, hc, hn⟩)
  dsimp only [Pt.U, Pt.locs, Pt.cells, Pt.slots] at X1 l1 y1 z1 st1 hQ
  subst l1 y1 z1
  exact liftS st1 (r v T1.heap hQ.1 x T1 ⟨E, hQ.2.1, _, X1, rfl, N.app hQ.2.2⟩)
theorem Go.callP3 (pc' : Nat) (hp : pc + 3 = pc') {C : Bd} {Qc : Option Value → Heap → Prop} {ix : Nat} {D D' : String} (a : Addr) (argsL : List Value) {st : List Value} (i1 i2 i3 i4 i5 i6 : Nat) (K : Con Z C (.ref a :: argsL).toArray h Qc) (Ea : Exa Z h a D) (hd : decode B.by pc = .ok (.invokevirtual ix, 3)) (w1 : B.tb[i1]? = some (.methodLink B.y.cls ix C.y)) (w2 : B.tb[i2]? = some (.instanceMethod C.y)) (w3 : B.tb[i3]? = some (.selects D' C.y C.y)) (w4 : B.tb[i4]? = some (.privateMethod C.y)) (w5 : B.tb[i5]? = some (.initialized C.y.cls)) (w6 : B.tb[i6]? = some (.code C.y C.by C.ml C.rt))
    (hy : C.y.cls ≠ "java/lang/invoke/MethodHandle" ∧ C.y.cls ≠ "java/lang/invoke/VarHandle") {ps : List FieldType} {rt : Option FieldType} (hpd : parseMethodDescriptor C.y.desc = some ⟨ps, rt⟩) (hlen : argsL.length = ps.length) (hs : Ls.size = B.ml) (hst : st = argsL.reverse ++ .ref a :: rest) {W : Nat} (hW : (rest.map fun v => v.category).sum ≤ W) (hf : C.R.frames + 1 ≤ B.R.frames) (hl : W + (C.ml + 11) + C.R.locals ≤ B.R.locals) (hc : k + C.R.cells ≤ B.R.cells) (hn : n + C.R.slots ≤ B.R.slots)
    (r : ∀ (v : Option Value) (h' : Heap), Qc v h' → Go Q Z B (k + C.R.cells) (n + C.R.slots) h' pc' Ls (v.toList ++ rest)) : Go Q Z B k n h pc Ls st := fun x T P => by
  subst hp hst
  obtain ⟨a0, hw⟩ := P.wd.w
  obtain ⟨E, O', locs, X, e, N⟩ := id P
  have hsel0 : (Cond.selects C.y.cls C.y C.y).before a0 Z = true := by
    obtain ⟨mk, methM, hnamed, -, -, -⟩ := Cond.instanceMethod_spec (hw w2)
    obtain ⟨kr, q1, q2⟩ := notFace_of_selects (hw w3) mk hnamed
    exact selects_self_of_private (findClass_of_methodNamed hnamed) q1 q2 (Cond.privateMethod_at (hw w4)) (hw w2) hy
  obtain ⟨cq, qa, qb⟩ := Ea.cell
  obtain ⟨v, vm₁, ⟨T1, L1, k1, n1⟩, -, X1, ⟨Lc, hQ, l1, y1, z1⟩, st1⟩ := X.privateBack P.ex (y := C.y) E.own (mvT E.zz (hw w1)) (mvT E.zz (hw w2)) (mvT E.zz hsel0) (Cond.privateMethod_at (mvP E.zz (hw w4) (args := #[]))) (mvT E.zz (hw w6)) hy (K.back (W := W) P i6 i5 w6 w5 hf hl) (g := mkF x.m pc Ls (argsL.reverse ++ .ref a :: rest)) rfl (by rw [E.ml]; exact hs) (Steps.refl _) (a := a) (by rw [e]; exact qa) qb (argsL := argsL) (rest := rest) (lenOf hpd hlen) rfl (by show 2 * 0 + _ ≤ _; omega) (P.d hd) (fun _ _ => ⟨rfl, e, hc, hn⟩)
  dsimp only [Pt.U, Pt.locs, Pt.cells, Pt.slots] at X1 l1 y1 z1 st1 hQ
  subst l1 y1 z1
  exact liftS st1 (r v T1.heap hQ.1 x T1 ⟨E, hQ.2.1, _, X1, rfl, N.app hQ.2.2⟩)
theorem Go.callU (pc' : Nat) (hp : pc + 3 = pc') {C : Bd} {Qc : Option Value → Heap → Prop} {ix : Nat} {K D' : String} {y' : MethodName} (a : Addr) (argsL : List Value) {st : List Value} (i1 i2 i3 i4 i5 i6 : Nat) (Kc : Con Z C (.ref a :: argsL).toArray h Qc) (F : Ins Z h a K true) (hd : decode B.by pc = .ok (.invokespecial ix, 3)) (w1 : B.tb[i1]? = some (.methodLink B.y.cls ix C.y)) (w2 : B.tb[i2]? = some (.instanceMethod C.y)) (w3 : B.tb[i3]? = some (.initialized C.y.cls)) (w4 : B.tb[i4]? = some (.code C.y C.by C.ml C.rt)) (w5 : B.tb[i5]? = some (.superclass B.y.cls C.y.cls)) (w6 : B.tb[i6]? = some (.selects D' y' y')) (hyc : y'.cls = C.y.cls) (hi : C.y.name ≠ "<init>")
    (hy : C.y.cls ≠ "java/lang/invoke/MethodHandle" ∧ C.y.cls ≠ "java/lang/invoke/VarHandle") {ps : List FieldType} {rt : Option FieldType} (hpd : parseMethodDescriptor C.y.desc = some ⟨ps, rt⟩) (hlen : argsL.length = ps.length) (hs : Ls.size = B.ml) (hst : st = argsL.reverse ++ .ref a :: rest) {W : Nat} (hW : (rest.map fun v => v.category).sum ≤ W) (hf : C.R.frames + 1 ≤ B.R.frames) (hl : W + (C.ml + 11) + C.R.locals ≤ B.R.locals) (hc : k + C.R.cells ≤ B.R.cells) (hn : n + C.R.slots ≤ B.R.slots)
    (r : ∀ (v : Option Value) (h' : Heap), Qc v h' → Go Q Z B (k + C.R.cells) (n + C.R.slots) h' pc' Ls (v.toList ++ rest)) : Go Q Z B k n h pc Ls st := fun x T P => by
  subst hp hst
  obtain ⟨a0, hw⟩ := P.wd.w
  obtain ⟨E, O', locs, X, e, N⟩ := id P
  have hsame : (Cond.sameMethod C.y.cls C.y.cls C.y.name C.y.desc).before a0 Z = true := by
    obtain ⟨mk, methM, hnamed, -, -, -⟩ := Cond.instanceMethod_spec (hw w2)
    obtain ⟨c2, r2, m2, q1, q2, q3, q4, kP, hkP, hkPi⟩ := Cond.selects_spec (hw w6)
    have h1 := findClass_of_methodNamed hnamed
    have h2 := findClass_of_methodNamed q3
    rw [hyc] at h2
    have hc := Option.some.inj (h2.symm.trans h1)
    have hf : Z.methodFound? C.y.cls C.y.name C.y.desc = some mk := State.methodFound?_of_named hnamed hy
    rw [hc] at hkP
    simp [Cond.before, Cond.holds, Cond.value, h1, hf, hnamed, hkP, hkPi]
  obtain ⟨v, vm₁, ⟨T1, L1, k1, n1⟩, -, X1, ⟨Lc, hQ, l1, y1, z1⟩, st1⟩ := superBack X P.ex E.zz (y := C.y) E.own (hw w1) hsame (hw w2) (hw w5) hi (Kc.back (W := W) P i4 i3 w4 w3 hf hl) e F (g := mkF x.m pc Ls (argsL.reverse ++ .ref a :: rest)) rfl (by rw [E.ml]; exact hs) (hw w4) (argsL := argsL) (rest := rest) (lenOf hpd hlen) rfl (by show 2 * 0 + _ ≤ _; omega) (P.d hd) (fun _ _ => ⟨rfl, e, hc, hn⟩)
  dsimp only [Pt.U, Pt.locs, Pt.cells, Pt.slots] at X1 l1 y1 z1 st1 hQ
  subst l1 y1 z1
  exact liftS st1 (r v T1.heap hQ.1 x T1 ⟨E, hQ.2.1, _, X1, rfl, N.app hQ.2.2⟩)
theorem Go.callVZ (pc' : Nat) (hp : pc + 3 = pc') {C : Bd} {Qc : Option Value → Heap → Prop} {ix : Nat} {y y' : MethodName} {D D' : String} (a : Addr) (argsL : List Value) {st : List Value} (i1 i2 i3 i4 i5 i6 i7 : Nat) (K : Con Z C (.ref a :: argsL).toArray h Qc) (Ea : Exa Z h a D) (hd : decode B.by pc = .ok (.invokevirtual ix, 3)) (w1 : B.tb[i1]? = some (.methodLink B.y.cls ix y)) (w2 : B.tb[i2]? = some (.declares y)) (w3 : B.tb[i3]? = some (.selects D y C.y)) (w4 : B.tb[i4]? = some (.instanceMethod C.y)) (w5 : B.tb[i5]? = some (.initialized C.y.cls)) (w6 : B.tb[i6]? = some (.code C.y C.by C.ml C.rt)) (w7 : B.tb[i7]? = some (.selects D' y' y')) (hyc : y'.cls = y.cls)
    (hy : y.cls ≠ "java/lang/invoke/MethodHandle" ∧ y.cls ≠ "java/lang/invoke/VarHandle") {ps : List FieldType} {rt : Option FieldType} (hpd : parseMethodDescriptor y.desc = some ⟨ps, rt⟩) (hlen : argsL.length = ps.length) (hs : Ls.size = B.ml) (hst : st = argsL.reverse ++ .ref a :: rest) {W : Nat} (hW : (rest.map fun v => v.category).sum ≤ W) (hf : C.R.frames + 1 ≤ B.R.frames) (hl : W + (C.ml + 11) + C.R.locals ≤ B.R.locals) (hc : k + C.R.cells ≤ B.R.cells) (hn : n + C.R.slots ≤ B.R.slots)
    (r : ∀ (v : Option Value) (h' : Heap), Qc v h' → Go Q Z B (k + C.R.cells) (n + C.R.slots) h' pc' Ls (v.toList ++ rest)) : Go Q Z B k n h pc Ls st := fun x T P => by
  subst hp hst
  obtain ⟨a0, hw⟩ := P.wd.w
  obtain ⟨E, O', locs, X, e, N⟩ := id P
  have hnf : NotFace x.s y := by
    obtain ⟨c2, r2, m2, q1, q2, q3, q4, kP, hkP, hkPi⟩ := Cond.selects_spec (mvT E.zz (hw w7) : (Cond.selects D' y' y').before #[] x.s = true)
    intro r0 h0
    have h1 := findClass_of_methodNamed h0
    have h2 := findClass_of_methodNamed q3
    rw [hyc] at h2
    have hc := Option.some.inj (h2.symm.trans h1)
    rw [hc] at hkP
    exact ⟨kP, hkP, hkPi⟩
  obtain ⟨cq, kq, qa, qb, qc⟩ := isOf E.zz e Ea
  obtain ⟨v, vm₁, ⟨T1, L1, k1, n1⟩, -, X1, ⟨Lc, hQ, l1, y1, z1⟩, st1⟩ := X.virtualBack P.ex (y := y) (z := C.y) E.own (mvT E.zz (hw w1)) (mvT E.zz (hw w2)) hnf (mvT E.zz (hw w3)) (mvT E.zz (hw w4)) hy (K.back (W := W) P i6 i5 w6 w5 hf hl) qa qc (g := mkF x.m pc Ls (argsL.reverse ++ .ref a :: rest)) rfl (by rw [E.ml]; exact hs) (Steps.refl _) (argsL := argsL) (rest := rest) (lenOf hpd hlen) rfl (by show 2 * 0 + _ ≤ _; omega) (P.d hd) (fun _ _ => ⟨rfl, e, hc, hn⟩)
  dsimp only [Pt.U, Pt.locs, Pt.cells, Pt.slots] at X1 l1 y1 z1 st1 hQ
  subst l1 y1 z1
  exact liftS st1 (r v T1.heap hQ.1 x T1 ⟨E, hQ.2.1, _, X1, rfl, N.app hQ.2.2⟩)
/-- the contract of a body with handlers (none of which is reached) -/
def ConW (hs : List (Nat × Nat × Nat × Nat)) (Z : State) (B : Bd) (as : Array Value) (h0 : Heap) (Q : Option Value → Heap → Prop) : Prop :=
  Ext Z.heap h0 → ∀ (l : Launch) (ws : List Cond), MetFree l B.y (head1 (Cond.codeWith B.y B.by B.ml B.rt hs :: ws) B.R) (fun a U => a = as ∧ Z.Warmed39 U.vm ∧ U.heap = h0) (fun _ _ _ _ _ => True)
    (fun _ U o U' => ∃ v L, o = .returned v ∧ (Q v U'.heap ∧ Ext Z.heap U'.heap ∧ Fr Z.heap.size L) ∧ FrameEnd U o U' L B.R.cells B.R.slots)
theorem ConW.mk {hs : List (Nat × Nat × Nat × Nat)} {as : Array Value} {h0 : Heap} (hw : Wd Z B.tb) (hpn : plainFor B.y = true) (hef : ∀ m, entryFrame m as B.ml = mkF m 0 Ls [])
    (body : Go Q Z B 0 0 h0 0 Ls []) : ConW hs Z B as h0 Q := by
  intro hE l ws
  refine MetFree.of_bodySF hpn hisWith ?_
  intro p e s m args below meth c s₁ Bd hml0 hP hK
  obtain ⟨rfl, hZ, hh⟩ := hP
  have X0 : Stand p l e B.R s m args below meth c s₁ [] 0 0 := Stand.of_body Bd
  have e0 : s₁.heap = h0 := by rw [← hh, Bd.state]; rfl
  obtain ⟨t, o, h1, h2, h3, h4⟩ := body (p, l, e, s, m, args, below, meth, c) s₁ ⟨⟨Bd.exec, Bd.bytes, hml0, findClass_of_methodNamed Bd.named, (name_of_methodNamed Bd.named Bd.method).1, Bd.returns, hZ, Bd.notSynchronized, hw⟩, hE, [], X0, e0, Fr.nil _⟩
  exact ⟨t, o, castTop (hef m) h1, h2, h3, h4⟩
theorem ConW.back {hs : List (Nat × Nat × Nat × Nat)} {C : Bd} {as : Array Value} {Qc : Option Value → Heap → Prop} {len W : Nat} (K : ConW hs Z C as h Qc) (P : Sp Z x B T k n h) (i j : Nat) (wc : B.tb[i]? = some (.codeWith C.y C.by C.ml C.rt hs)) (wz : B.tb[j]? = some (.initialized C.y.cls)) (hf : C.R.frames + 1 ≤ B.R.frames) (hl : W + (C.ml + 11) + C.R.locals ≤ B.R.locals) :
    Back x.l B.R x.p x.e x.below x.s x.args C.y len W (fun A a => a = as ∧ A.U.heap = h ∧ A.cells + C.R.cells ≤ B.R.cells ∧ A.slots + C.R.slots ≤ B.R.slots)
      (fun A _ v D => ∃ L, (Qc v D.U.heap ∧ Ext Z.heap D.U.heap ∧ Fr Z.heap.size L) ∧ D.locs = A.locs ++ L ∧ D.cells = A.cells + C.R.cells ∧ D.slots = A.slots + C.R.slots) := by
  obtain ⟨a0, hw⟩ := P.wd.w
  exact backOfWith (a0 := a0) (Q := fun v h' L => Qc v h' ∧ Ext Z.heap h' ∧ Fr Z.heap.size L) (K P.old x.l []) P.1.zz (hw wc) (hw wz) hf hl
theorem Go.callFW (pc' : Nat) (hp : pc + 5 = pc') {hs' : List (Nat × Nat × Nat × Nat)} {C : Bd} {Qc : Option Value → Heap → Prop} {ix ct : Nat} {y : MethodName} {D : String} (a : Addr) (argsL : List Value) {st : List Value} (i1 i2 i3 i4 i5 i6 i7 i8 i9 i10 : Nat) (K : ConW hs' Z C (.ref a :: argsL).toArray h Qc) (Ea : Exa Z h a D) (hd : decode B.by pc = .ok (.invokeinterface ix ct, 5)) (w1 : B.tb[i1]? = some (.methodLink B.y.cls ix y)) (w2 : B.tb[i2]? = some (.declares y)) (w3 : B.tb[i3]? = some (.interfaceMethod y.cls y.cls y.name y.desc)) (w4 : B.tb[i4]? = some (.selects D y C.y)) (w5 : B.tb[i5]? = some (.instanceMethod C.y)) (w6 : B.tb[i6]? = some (.publicMethod C.y)) (w7 : B.tb[i7]? = some (.unhidden D y.name y.desc)) (w8 : B.tb[i8]? = some (.castable D y.cls)) (w9 : B.tb[i9]? = some (.initialized C.y.cls)) (w10 : B.tb[i10]? = some (.codeWith C.y C.by C.ml C.rt hs')) (hk : ((Cond.interfaceMethod y.cls y.cls y.name y.desc).onTables && (Cond.interfaceMethod y.cls y.cls y.name y.desc).keepsFace) = true)
    (hy : y.cls ≠ "java/lang/invoke/MethodHandle" ∧ y.cls ≠ "java/lang/invoke/VarHandle") {ps : List FieldType} {rt : Option FieldType} (hpd : parseMethodDescriptor y.desc = some ⟨ps, rt⟩) (hlen : argsL.length = ps.length) (hs : Ls.size = B.ml) (hst : st = argsL.reverse ++ .ref a :: rest) {W : Nat} (hW : (rest.map fun v => v.category).sum ≤ W) (hf : C.R.frames + 1 ≤ B.R.frames) (hl : W + (C.ml + 11) + C.R.locals ≤ B.R.locals) (hc : k + C.R.cells ≤ B.R.cells) (hn : n + C.R.slots ≤ B.R.slots)
    (r : ∀ (v : Option Value) (h' : Heap), Qc v h' → Go Q Z B (k + C.R.cells) (n + C.R.slots) h' pc' Ls (v.toList ++ rest)) : Go Q Z B k n h pc Ls st := fun x T P => by
  subst hp hst
  obtain ⟨a0, hw⟩ := P.wd.w
  obtain ⟨E, O', locs, X, e, N⟩ := id P
  obtain ⟨cq, kq, qa, qb, qc⟩ := isOf E.zz e Ea
  obtain ⟨v, vm₁, ⟨T1, L1, k1, n1⟩, -, X1, ⟨Lc, hQ, l1, y1, z1⟩, st1⟩ := X.interfaceBack P.ex (xi := y) (y := C.y) E.own (mvT E.zz (hw w1)) (mvT E.zz (hw w2)) (mvT E.zz (hw w3) hk) (mvT E.zz (hw w4)) (mvT E.zz (hw w5)) (mvT E.zz (hw w6)) (mvT E.zz (hw w7)) (mvT E.zz (hw w8)) hy (K.back (W := W) P i10 i9 w10 w9 hf hl) qa qb qc (g := mkF x.m pc Ls (argsL.reverse ++ .ref a :: rest)) rfl (by rw [E.ml]; exact hs) (Steps.refl _) (argsL := argsL) (rest := rest) (lenOf hpd hlen) rfl (by show 2 * 0 + _ ≤ _; omega) (P.d hd) (fun _ _ => ⟨rfl, e, hc, hn⟩)
  dsimp only [Pt.U, Pt.locs, Pt.cells, Pt.slots] at X1 l1 y1 z1 st1 hQ
  subst l1 y1 z1
  exact liftS st1 (r v T1.heap hQ.1 x T1 ⟨E, hQ.2.1, _, X1, rfl, N.app hQ.2.2⟩)
theorem Go.callIW (pc' : Nat) (hp : pc + 3 = pc') {hs' : List (Nat × Nat × Nat × Nat)} {C : Bd} {Qc : Option Value → Heap → Prop} {ix : Nat} (a : Addr) (argsL : List Value) {st : List Value} (i1 i2 i3 i4 : Nat) (K : ConW hs' Z C (.ref a :: argsL).toArray h Qc) (hd : decode B.by pc = .ok (.invokespecial ix, 3)) (w1 : B.tb[i1]? = some (.methodLink B.y.cls ix C.y)) (w2 : B.tb[i2]? = some (.instanceMethod C.y)) (w3 : B.tb[i3]? = some (.initialized C.y.cls)) (w4 : B.tb[i4]? = some (.codeWith C.y C.by C.ml none hs')) (hrt : C.rt = none) (hi : C.y.name = "<init>")
    (hy : C.y.cls ≠ "java/lang/invoke/MethodHandle" ∧ C.y.cls ≠ "java/lang/invoke/VarHandle") {ps : List FieldType} {rt : Option FieldType} (hpd : parseMethodDescriptor C.y.desc = some ⟨ps, rt⟩) (hlen : argsL.length = ps.length) (hs : Ls.size = B.ml) (hst : st = argsL.reverse ++ .ref a :: rest) {W : Nat} (hW : (rest.map fun v => v.category).sum ≤ W) (hf : C.R.frames + 1 ≤ B.R.frames) (hl : W + (C.ml + 11) + C.R.locals ≤ B.R.locals) (hc : k + C.R.cells ≤ B.R.cells) (hn : n + C.R.slots ≤ B.R.slots)
    (r : ∀ (v : Option Value) (h' : Heap), Qc v h' → Go Q Z B (k + C.R.cells) (n + C.R.slots) h' pc' Ls (v.toList ++ rest)) : Go Q Z B k n h pc Ls st := fun x T P => by
  subst hp hst
  obtain ⟨a0, hw⟩ := P.wd.w
  obtain ⟨E, O', locs, X, e, N⟩ := id P
  obtain ⟨v, vm₁, ⟨T1, L1, k1, n1⟩, -, X1, ⟨Lc, hQ, l1, y1, z1⟩, st1⟩ := X.specialBackH P.ex (y := C.y) hi E.own (mvT E.zz (hw w1)) (mvT E.zz (hw w2)) (mvT E.zz (hw w4)) hy (K.back (W := W) P i4 i3 (by rw [hrt]; exact w4) w3 hf hl) (g := mkF x.m pc Ls (argsL.reverse ++ .ref a :: rest)) rfl (by rw [E.ml]; exact hs) (Steps.refl _) (a := a) (argsL := argsL) (rest := rest) (lenOf hpd hlen) rfl (by show 2 * 0 + _ ≤ _; omega) (P.d hd) (fun _ _ => ⟨rfl, e, hc, hn⟩)
  dsimp only [Pt.U, Pt.locs, Pt.cells, Pt.slots] at X1 l1 y1 z1 st1 hQ
  subst l1 y1 z1
  exact liftS st1 (r v T1.heap hQ.1 x T1 ⟨E, hQ.2.1, _, X1, rfl, N.app hQ.2.2⟩)
end St
end Jvm.Ow
namespace Jvm.Ow
open Sem ClassFile Op Lib Jvm.Stand Jvm.Free Jvm.LawKit Jvm.RoadKit
section More
variable {Q : Option Value → Heap → Prop} {Z : State} {x : Cx} {B : Bd} {T : State} {k n : Nat} {h h' : Heap} {pc : Nat} {Ls Ls' : Array Slot} {st rest : List Value}
theorem Go.instNull (pc' : Nat) (hp : pc + 3 = pc') {ix : Nat} (hd : decode B.by pc = .ok (.instanceof ix, 3)) (r : Go Q Z B k n h pc' Ls (.int 0 :: st)) : Go Q Z B k n h pc Ls (.null :: st) := fun x T P => by
  subst hp
  obtain ⟨E, O', locs, X, e, N⟩ := id P
  exact lift (fun t q => X.instanceofNull P.ex (g := mkF x.m pc Ls (.null :: st)) rfl rfl (P.d hd) t q) (r x T P)
theorem ary_arv {a : Addr} {c0 : ClassId} {ty : FieldType} {z : Int32} {vs : List Value} {d : Value} (F : Arv Z h a c0 ty z vs d) (hl : z.toNatClampNeg = vs.length) : Ary Z h a ty vs := by
  obtain ⟨c, A, -, S, hz, H, G⟩ := F
  have e : c.slots.toList = vs := by
    apply List.ext_getElem?
    intro i
    rw [Array.getElem?_toList]
    by_cases hi : i < vs.length
    · rw [H i (by omega)]
      simp [List.getD, hi]
    · rw [List.getElem?_eq_none (by omega), Array.getElem?_eq_none (by omega)]
  refine ⟨c, A, e, ?_, fun v hv => ?_⟩
  · rw [← hl]; have := nat_of (j := z) hz; have := z.toInt_lt; omega
  · obtain ⟨i, hi, rfl⟩ := List.mem_iff_getElem.mp hv
    have := G i (by omega)
    simpa [List.getD, hi] using this
theorem Go.grid (pc' : Nat) (hp : pc + 4 = pc') {ad C : String} {ty : FieldType} {ix : Nat} {m1 m2 : Int32} (i1 i2 i3 N M cap : Nat) (hd : decode B.by pc = .ok (.multianewarray ix 2, 4)) (hC : (FieldType.array ty).toString = C) (had : "[" ++ C = ad) (w1 : B.tb[i1]? = some (.classLink B.y.cls ix ad)) (w2 : B.tb[i2]? = some (.arrayOver (.array ty))) (w3 : B.tb[i3]? = some (.arrayClass ty))
    (hN : m1.toInt = N) (hM : m2.toInt = M) (hcap : M ≤ cap) (hb : cap * 8 ≤ 536870912) (hb1 : N ≤ 1000) (hdf : fits ty (defaultValue ty) = true) (hdd : (defaultValue ty).isDefault = true) (hc : k + (1 + N) ≤ B.R.cells) (hl : n + (N + N * cap) ≤ B.R.slots)
    (r : ∀ (h' : Heap) (a : Addr), @Eq Nat a h.size → Z.heap.size ≤ a → Keep h h' [] → Ary Z h' a (.array ty) ((List.range N).map fun j => .ref (a + 1 + j)) → (∀ j, j < N → Ary Z h' (a + 1 + j) ty (List.replicate M (defaultValue ty))) → Go Q Z B (k + (1 + N)) (n + (N + N * cap)) h' pc' Ls (.ref a :: st)) : Go Q Z B k n h pc Ls (.int m2 :: .int m1 :: st) := fun x T P => by
  subst hp
  obtain ⟨a0, hw⟩ := P.wd.w
  obtain ⟨E, O', locs, X, e, N'⟩ := id P
  have z0 : (0 : Int32).toInt = 0 := rfl
  have hm1 : ¬ m1 < 0 := by rw [Int32.lt_iff_toInt_lt]; omega
  have hm2 : ¬ m2 < 0 := by rw [Int32.lt_iff_toInt_lt]; omega
  obtain ⟨T', h', cA, comp, X', e', Ex, A, -, -, R1, s'⟩ := gridM X P.ex E.zz E.own hC had (hw w1) (hw w2) (hw w3) e (g := mkF x.m pc Ls (.int m2 :: .int m1 :: st)) rfl (P.d hd) rfl hm1 hm2 (N := N) (ix_nat hN) rfl (cap := cap) (by rw [ix_nat hM]; exact hcap) hb hb1 hdf hdd hc hl
  have hlen : M < 2 ^ 31 := by have := m2.toInt_lt; omega
  refine lift s' (r h' h.size rfl P.le (keep_ext Ex) ?_ (fun j hj => ?_) x T' ⟨E, ⟨Nat.le_trans O'.1 Ex.1, fun y c q => Ex.2 y c (O'.2 y c q)⟩, locs, X', e', N'⟩)
  · have := ary_arv A (by rw [ix_nat hN]; simp)
    rw [List.map_map] at this
    exact this
  · obtain ⟨A1, -⟩ := R1 j (h.size + 1 + j) (by simp [hj])
    refine ⟨_, A1, ?_, by rw [List.length_replicate]; exact hlen, fun v hv => ?_⟩
    · show (Array.replicate _ _).toList = _
      rw [ix_nat hM, Array.toList_replicate]
    · rw [List.eq_of_mem_replicate hv]; exact hdf
/-- a class right under the root is not assignable to another plain class -/
theorem not_asg {tb : List Cond} (hw : Wd Z tb) {C S K : String} {sz : Nat} (i1 i2 i3 : Nat) (w1 : tb[i1]? = some (.superclass C S)) (w2 : tb[i2]? = some (.noSuperclass S)) (w3 : tb[i3]? = some (.instantiable K sz)) (n1 : C ≠ K) (n2 : S ≠ K) : ∃ c t, Z.vm.findClass C = some c ∧ Z.vm.findClass K = some t ∧ Z.vm.assignable c t = false := by
  obtain ⟨a0, hw⟩ := hw.w
  obtain ⟨c, h0⟩ := found_sup (hw w1)
  obtain ⟨p, k, kp, h1, h2, h3, h4, h5, -, h7⟩ := Cond.superclass_spec h0 (hw w1)
  obtain ⟨c', k', g1, g2, g3, -, -⟩ := Cond.noSuperclass_spec (hw w2)
  cases g1.symm.trans h1
  cases g2.symm.trans h3
  obtain ⟨t, kt, i1, i2, i3, i4, -⟩ := Cond.instantiable_spec (hw w3)
  have ne1 := ids_ne h0 i1 n1
  have ne2 := ids_ne h1 i1 n2
  have hi : kt.isInterface = false := (Bool.or_eq_false_iff.mp i4).1
  refine ⟨c, t, h0, i1, ?_⟩
  show Z.vm.assignableAux (255 + 1) c t = false
  have sub : ∀ fuel, Z.vm.isSubclassAux fuel c t = false := by
    intro fuel
    cases fuel with
    | zero => rfl
    | succ f =>
      cases f with
      | zero => simp [Vm.isSubclassAux, ne1, h2, h4]
      | succ f => simp [Vm.isSubclassAux, ne1, ne2, h2, h4, h3, g3]
  simp [Vm.assignableAux, ne1, h2, i2, h5, i3, hi, Vm.isSubclass, sub]
theorem Go.lswHit (pc' : Nat) {dflt : Int} {pairs : Array (Int × Int)} {len : Nat} {z : Int32} {a off : Int} (hd : decode B.by pc = .ok (.lookupswitch dflt pairs, len)) (hsort : (pairs.toList.zip (pairs.toList.drop 1)).all (fun (a, next) => a.1 < next.1) = true) (hfind : pairs.find? (·.1 == z.toInt) = some (a, off)) (h0 : 0 ≤ (pc : Int) + off) (hp : ((pc : Int) + off).toNat = pc') (r : Go Q Z B k n h pc' Ls st) : Go Q Z B k n h pc Ls (.int z :: st) := fun x T P => by
  subst hp
  obtain ⟨E, O', locs, X, e, N⟩ := id P
  exact lift (fun t q => X.lookupswitchHit P.ex (g := mkF x.m pc Ls (.int z :: st)) rfl rfl (P.d hd) hsort hfind h0 t q) (r x T P)
theorem Go.lswMiss (pc' : Nat) {dflt : Int} {pairs : Array (Int × Int)} {len : Nat} {z : Int32} (hd : decode B.by pc = .ok (.lookupswitch dflt pairs, len)) (hsort : (pairs.toList.zip (pairs.toList.drop 1)).all (fun (a, next) => a.1 < next.1) = true) (hfind : pairs.find? (·.1 == z.toInt) = none) (h0 : 0 ≤ (pc : Int) + dflt) (hp : ((pc : Int) + dflt).toNat = pc') (r : Go Q Z B k n h pc' Ls st) : Go Q Z B k n h pc Ls (.int z :: st) := fun x T P => by
  subst hp
  obtain ⟨E, O', locs, X, e, N⟩ := id P
  exact lift (fun t q => X.lookupswitchMiss P.ex (g := mkF x.m pc Ls (.int z :: st)) rfl rfl (P.d hd) hsort hfind h0 t q) (r x T P)
theorem Go.tswIn (pc' : Nat) {dflt low high : Int} {offs : Array Int} {len : Nat} {z : Int32} {off : Int} (hd : decode B.by pc = .ok (.tableswitch dflt low high offs, len)) (hin : ¬ (z.toInt < low ∨ z.toInt > high)) (ho : offs[(z.toInt - low).toNat]? = some off) (h0 : 0 ≤ (pc : Int) + off) (hp : ((pc : Int) + off).toNat = pc') (r : Go Q Z B k n h pc' Ls st) : Go Q Z B k n h pc Ls (.int z :: st) := fun x T P => by
  subst hp
  obtain ⟨E, O', locs, X, e, N⟩ := id P
  exact lift (fun t q => X.tableswitchIn P.ex (g := mkF x.m pc Ls (.int z :: st)) rfl rfl (P.d hd) hin ho h0 t q) (r x T P)
theorem arv_of_ary {a : Addr} {ty : FieldType} {vs : List Value} (A : Ary Z h a ty vs) : ∃ c0, Arv Z h a c0 ty (Int32.ofNat vs.length) vs .null := by
  obtain ⟨c, A, e1, e2, e3⟩ := A
  have hs : c.slots.size = vs.length := by rw [← e1]; simp
  have hz : (Int32.ofNat vs.length).toInt = vs.length := len_ofNat e2
  have at' : ∀ i, i < c.slots.size → c.slots[i]? = some (vs.getD i .null) := fun i hi => by
    rw [slots_at e1]; simp [List.getD, List.getElem?_eq_getElem (show i < vs.length by omega)]
  refine ⟨c.cls, c, A, rfl, by rw [hs, ix_nat hz], ?_, at', fun i hi => ?_⟩
  · rw [Int32.lt_iff_toInt_lt]; have : (0 : Int32).toInt = 0 := rfl; omega
  · refine e3 _ ?_
    have hi' : i < vs.length := by omega
    simp only [List.getD, List.getElem?_eq_getElem hi', Option.getD_some]
    exact List.getElem_mem hi'
theorem cp_list (vs : List Value) (d : Value) {s0 n0 : Nat} (h4 : s0 + n0 ≤ vs.length) : (List.range n0).map (fun i => vs.getD (s0 + i) d) = (vs.drop s0).take n0 := by
  apply List.ext_getElem?
  intro i
  by_cases hi : i < n0
  · rw [List.getElem?_take_of_lt hi, List.getElem?_drop, List.getElem?_map, List.getElem?_range hi]
    simp [List.getD, List.getElem?_eq_getElem (show s0 + i < vs.length by omega)]
  · rw [List.getElem?_eq_none (by simp; omega), List.getElem?_eq_none (by simp; omega)]
theorem Go.acopy (pc' : Nat) (hp : pc + 3 = pc') {ix : Nat} {a b : Addr} {ty : FieldType} {vs vd : List Value} {sp dp nn : Int32} (us : List Value) (i1 i2 i3 i4 : Nat) (hd : decode B.by pc = .ok (.invokestatic ix, 3)) (w1 : B.tb[i1]? = some (.methodLink B.y.cls ix Jvm.Stand.acN)) (w2 : B.tb[i2]? = some (.native Jvm.Stand.acN)) (w3 : B.tb[i3]? = some (.static Jvm.Stand.acN)) (w4 : B.tb[i4]? = some (.initialized "java/lang/System")) (hty : refKind ty = false) (A : Ary Z h a ty vs) (D : Ary Z h b ty vd) (s0 d0 n0 : Nat) (hs : sp.toInt = s0) (hd0 : dp.toInt = d0) (hn : nn.toInt = n0) (h4 : s0 + n0 ≤ vs.length) (h5 : d0 + n0 ≤ vd.length) (hus : vd.take d0 ++ (vs.drop s0).take n0 ++ vd.drop (d0 + n0) = us) (ge : Z.heap.size ≤ b) (hsz : Ls.size = B.ml) (hf : 1 ≤ B.R.frames) {W : Nat} (hW : (st.map fun v => v.category).sum ≤ W) (hl : W + (nativeFrameWords "java/lang/System" "arraycopy" 5 + 11) ≤ B.R.locals)
    (r : ∀ h' : Heap, Keep h h' [b] → Ary Z h' b ty us → Go Q Z B k n h' pc' Ls st) : Go Q Z B k n h pc Ls (.int nn :: .int dp :: .ref b :: .int sp :: .ref a :: st) := fun x T P => by
  subst hp
  obtain ⟨a0, hw⟩ := P.wd.w
  obtain ⟨E, O', locs, X, e, N⟩ := id P
  have z0 : (0 : Int32).toInt = 0 := rfl
  obtain ⟨ca, Aa⟩ := arv_of_ary A
  obtain ⟨cb, Ab⟩ := arv_of_ary D
  have la := ix_nat (len_ofNat A.len)
  have lb := ix_nat (len_ofNat D.len)
  obtain ⟨T', h', L, X', e', N', K', A', s'⟩ := cpA X P.ex E.zz E.own (hw w1) (hw w2) (hw w3) (hw w4) e Aa Ab (us := (vs.drop s0).take n0) (Or.inl ⟨rfl, hty⟩) (sp := sp) (dp := dp) (nn := nn) (by rw [Int32.lt_iff_toInt_lt]; omega) (by rw [Int32.lt_iff_toInt_lt]; omega) (by rw [Int32.lt_iff_toInt_lt]; omega) (by rw [ix_nat hs, ix_nat hn, la]; exact h4) (by rw [ix_nat hd0, ix_nat hn, lb]; exact h5) (by rw [ix_nat hs, ix_nat hn]; exact (cp_list vs _ h4).symm) (by rw [ix_nat hd0, ix_nat hn]; exact h5) N ge (g := mkF x.m pc Ls (.int nn :: .int dp :: .ref b :: .int sp :: .ref a :: st)) rfl (by rw [E.ml]; exact hsz) rfl (P.d hd) hf (W := W) (by show 2 * 0 + _ ≤ _; omega) hl
  rw [ix_nat hd0, ix_nat hn, hus] at A'
  have hlen : us.length = vd.length := by rw [← hus]; simp; omega
  exact lift s' (r h' K' (ary_arv A' (by rw [lb, hlen])) x T' ⟨E, ext_keep O' K' (ge1 ge), L, X', e', N'⟩)
theorem Go.clone (pc' : Nat) (hp : pc + 3 = pc') {ix : Nat} {ad : String} {a : Addr} {ty : FieldType} {vs : List Value} (cap i1 i2 i3 i4 i5 i6 : Nat) (hd : decode B.by pc = .ok (.invokevirtual ix, 3)) (w1 : B.tb[i1]? = some (.methodLink B.y.cls ix ⟨ad, "clone", "()Ljava/lang/Object;"⟩)) (w2 : B.tb[i2]? = some (.sameMethod ad "java/lang/Object" "clone" "()Ljava/lang/Object;")) (w3 : B.tb[i3]? = some (.native ⟨"java/lang/Object", "clone", "()Ljava/lang/Object;"⟩)) (w4 : B.tb[i4]? = some (.instanceMethod ⟨"java/lang/Object", "clone", "()Ljava/lang/Object;"⟩)) (w5 : B.tb[i5]? = some (.selects ad ⟨ad, "clone", "()Ljava/lang/Object;"⟩ ⟨"java/lang/Object", "clone", "()Ljava/lang/Object;"⟩)) (w6 : B.tb[i6]? = some (.castable ad "java/lang/Cloneable")) (A : Ary Z h a ty vs) (Ea : Exa Z h a ad) (hsz : Ls.size = B.ml) (hf : 1 ≤ B.R.frames) {W : Nat} (hW : (st.map fun v => v.category).sum ≤ W) (hl : W + 14 ≤ B.R.locals) (hcap : vs.length ≤ cap) (hc : k + 1 ≤ B.R.cells) (hn : n + cap ≤ B.R.slots)
    (r : ∀ (h' : Heap) (b : Addr), @Eq Nat b h.size → Z.heap.size ≤ b → Keep h h' [] → Ary Z h' b ty vs → Exa Z h' b ad → Go Q Z B (k + 1) (n + cap) h' pc' Ls (.ref b :: st)) : Go Q Z B k n h pc Ls (.ref a :: st) := fun x T P => by
  subst hp
  obtain ⟨a0, hw⟩ := P.wd.w
  obtain ⟨E, O', locs, X, e, N'⟩ := id P
  obtain ⟨c, A, e1, e2, e3⟩ := A
  have hs : c.slots.size = vs.length := by rw [← e1]; simp
  have FC : FitC Z c := fitC_of A fun i hi v hv => e3 v (by rw [slots_at e1] at hv; exact List.mem_of_getElem? hv)
  obtain ⟨T', h', X', e', Ex, A', E', s'⟩ := cloneA X P.ex E.zz E.own (hw w1) (hw w2) (hw w3) (hw w4) (hw w5) (hw w6) e A Ea FC (g := mkF x.m pc Ls (.ref a :: st)) rfl (by rw [E.ml]; exact hsz) rfl (P.d hd) hf (W := W) (cap := cap) (by show 2 * 0 + _ ≤ _; omega) hl (by omega) hc hn
  exact lift s' (r h' h.size rfl P.le (keep_ext Ex) ⟨_, A', e1, e2, e3⟩ E' x T' ⟨E, ⟨Nat.le_trans O'.1 Ex.1, fun y c q => Ex.2 y c (O'.2 y c q)⟩, locs, X', e', N'⟩)
end More
theorem own_fs {s : State} {args : Array Value} {t : Term} {C n d : String} {a : Addr} {v : Value} (ev : t.eval args s none [] s = some (.ref a)) (ef : (Term.field t C n d).eval args s none [] s = some v) : Fld s s.heap a C n d v := by
  rw [fld_at ev] at ef; exact Fld.start ef
theorem own_fe {s : State} {args : Array Value} {t t2 : Term} {C n d : String} {a b : Addr} (ev : t.eval args s none [] s = some (.ref a)) (eb : t2.eval args s none [] s = some (.ref b)) (hx : (Cond.eq (Term.field t C n d) t2).value args s none s [] = some true) : Fld s s.heap a C n d (.ref b) := by
  refine own_fs ev ?_
  cases hf : (Term.field t C n d).eval args s none [] s with
  | none => simp [Cond.value, hf] at hx
  | some v => cases v <;> simp [Cond.value, hf, eb] at hx ⊢; exact hx
theorem own_ar0 {s : State} {args : Array Value} {t : Term} {ty : FieldType} {a : Addr} (ev : t.eval args s none [] s = some (.ref a)) (hx : (Cond.arrayOf t ty).value args s none s [] = some true) (hl : (Cond.eq (Term.length t) (Term.int 0)).value args s none s [] = some true) : Ary s s.heap a ty [] := by
  obtain ⟨c, A⟩ := Arr.start ev hx
  have hA : s.arrayAt? a = some c := Arr.fin (Vm.Alike.refl _) A
  have e0 : c.slots.size = 0 := by
    by_cases h31 : c.slots.size < 2 ^ 31
    · have e := len_f ev hA h31
      have e2 : (c.slots.size.toInt32 : Int32) = 0 := by simpa [Cond.value, Term.eval, ev, hA, h31] using hl
      exact (ofNat_zero h31).mp e2
    · exfalso
      have e : (Term.length t).eval args s none [] s = none := by simp [Term.eval, ev, hA, h31]
      simp [Cond.value, e] at hl
  exact ⟨c, A, by simpa using e0, by decide, fun v hv => by cases hv⟩
theorem own_na {Z : State} {h : Heap} {tb : List Cond} (hw : Wd Z tb) {C : String} {sz : Nat} (i : Nat) (w : tb[i]? = some (.instantiable C sz)) {a b : Addr} {ty : FieldType} {vs : List Value} (F : Exa Z h a C) (G : Ary Z h b ty vs) : b ≠ a := by
  obtain ⟨a0, hw⟩ := hw.w
  obtain ⟨c, A, -⟩ := G
  exact (ne_arr F (hw w) A).symm
theorem own_ins {Z : State} {h : Heap} {tb : List Cond} (hw : Wd Z tb) {C K : String} (i : Nat) (w : tb[i]? = some (.castable C K)) {a : Addr} (F : Exa Z h a C) : Ins Z h a K true := by
  obtain ⟨a0, hw⟩ := hw.w
  exact Ins.of_exa F (hw w)
end Jvm.Ow
namespace Jvm.Pilot.@@N@@
open Jvm Jvm.ClassFile Sem Op Lib Jvm.Free Jvm.Stand Jvm.LawKit Jvm.RoadKit Bundle Jvm.Ow Jvm.Pilot.@@N@@.Jvm.D
abbrev IL (xs : List Int32) : List Value := xs.map Value.int
theorem IL.get {xs : List Int32} {j : Nat} (hj : j < xs.length) : (IL xs)[j]? = some (.int (xs.getD j 0)) := by simp [List.getD, hj]
theorem IL.len {xs : List Int32} : (IL xs).length = xs.length := by simp
def Ch (c : Int32) : Prop := 0 ≤ c.toInt ∧ c.toInt < 65536
def lo (c : Int32) : Int32 := nar .byte (c >>> ((0 : Int32) &&& 31)).toInt8.toInt32
def hi (c : Int32) : Int32 := nar .byte (c >>> ((8 : Int32) &&& 31)).toInt8.toInt32
def l1 (c : Int32) : Int32 := nar .byte c.toInt8.toInt32
def gc (b0 b1 : Int32) : Int32 := nar .char (((b0 &&& (255 : Int32)) <<< ((0 : Int32) &&& 31)) ||| ((b1 &&& (255 : Int32)) <<< ((8 : Int32) &&& 31))).toUInt32.toUInt16.toUInt32.toInt32
def gl (b : Int32) : Int32 := nar .char (b &&& (255 : Int32)).toUInt32.toUInt16.toUInt32.toInt32
theorem lo_at (c : Int32) : (lo c &&& (255 : Int32)).toInt = c.toInt % 256 := by
  have h1 : (lo c &&& (255 : Int32)).toInt = (lo c).toInt % (2 ^ 8 : Nat) := c_mask _ 255 8 (by decide) (by decide)
  have h2 := c_i2b ((c >>> ((0 : Int32) &&& 31)).toInt8.toInt32)
  have h3 := c_i2b (c >>> ((0 : Int32) &&& 31))
  have h4 : (c >>> ((0 : Int32) &&& 31)).toInt = c.toInt / (2 ^ 0 : Nat) := c_ishr c 0 0 (by decide)
  have h5 : (lo c).toInt = ((c >>> ((0 : Int32) &&& 31)).toInt8.toInt32.toInt8.toInt32).toInt := rfl
  omega
theorem hi_at (c : Int32) : (hi c &&& (255 : Int32)).toInt = c.toInt / 256 % 256 := by
  have h1 : (hi c &&& (255 : Int32)).toInt = (hi c).toInt % (2 ^ 8 : Nat) := c_mask _ 255 8 (by decide) (by decide)
  have h2 := c_i2b ((c >>> ((8 : Int32) &&& 31)).toInt8.toInt32)
  have h3 := c_i2b (c >>> ((8 : Int32) &&& 31))
  have h4 : (c >>> ((8 : Int32) &&& 31)).toInt = c.toInt / (2 ^ 8 : Nat) := c_ishr c 8 8 (by decide)
  have h5 : (hi c).toInt = ((c >>> ((8 : Int32) &&& 31)).toInt8.toInt32.toInt8.toInt32).toInt := rfl
  omega
theorem l1_at (c : Int32) : (l1 c &&& (255 : Int32)).toInt = c.toInt % 256 := by
  have h1 : (l1 c &&& (255 : Int32)).toInt = (l1 c).toInt % (2 ^ 8 : Nat) := c_mask _ 255 8 (by decide) (by decide)
  have h2 := c_i2b (c.toInt8.toInt32)
  have h3 := c_i2b c
  have h5 : (l1 c).toInt = (c.toInt8.toInt32.toInt8.toInt32).toInt := rfl
  omega
theorem nc_at (x : Int32) (h0 : 0 ≤ x.toInt) (h1 : x.toInt < 65536) : (nar .char x.toUInt32.toUInt16.toUInt32.toInt32).toInt = x.toInt := by
  have a := c_i2c x
  have b := c_i2c x.toUInt32.toUInt16.toUInt32.toInt32
  have e : (nar .char x.toUInt32.toUInt16.toUInt32.toInt32).toInt = (x.toUInt32.toUInt16.toUInt32.toInt32.toUInt32.toUInt16.toUInt32.toInt32).toInt := rfl
  omega
theorem own_gc {c : Int32} (h : Ch c) : gc (lo c) (hi c) = c := by
  obtain ⟨h1, h2⟩ := h
  apply Int32.toInt_inj.mp
  have a := lo_at c
  have b := hi_at c
  have d := c_ishl (lo c &&& (255 : Int32)) 0 0 (by decide)
  have e := c_ishl (hi c &&& (255 : Int32)) 8 8 (by decide)
  have r1 := Int32.toInt_lt ((lo c &&& (255 : Int32)) <<< ((0 : Int32) &&& 31))
  have r2 := Int32.le_toInt ((lo c &&& (255 : Int32)) <<< ((0 : Int32) &&& 31))
  have r3 := Int32.toInt_lt ((hi c &&& (255 : Int32)) <<< ((8 : Int32) &&& 31))
  have r4 := Int32.le_toInt ((hi c &&& (255 : Int32)) <<< ((8 : Int32) &&& 31))
  have f := c_or' ((lo c &&& (255 : Int32)) <<< ((0 : Int32) &&& 31)) ((hi c &&& (255 : Int32)) <<< ((8 : Int32) &&& 31)) 8 (by decide) 256 rfl (by omega) (by omega) (by omega)
  have r5 := Int32.toInt_lt (((lo c &&& (255 : Int32)) <<< ((0 : Int32) &&& 31)) ||| ((hi c &&& (255 : Int32)) <<< ((8 : Int32) &&& 31)))
  have r6 := Int32.le_toInt (((lo c &&& (255 : Int32)) <<< ((0 : Int32) &&& 31)) ||| ((hi c &&& (255 : Int32)) <<< ((8 : Int32) &&& 31)))
  rw [gc, nc_at _ (by omega) (by omega)]
  omega
theorem own_gl {c : Int32} (h : Ch c) (h' : ¬ (255 : Int32) < c) : gl (l1 c) = c := by
  rw [Int32.lt_iff_toInt_lt] at h'
  have o : (255 : Int32).toInt = 255 := rfl
  obtain ⟨h1, h2⟩ := h
  apply Int32.toInt_inj.mp
  have a := l1_at c
  rw [gl, nc_at _ (by omega) (by omega)]
  omega
theorem own_ch {p v : Int32} (h : p.toUInt32.toUInt16.toUInt32.toInt32 = v) : Ch v := by
  have := c_i2c p
  rw [h] at this
  constructor <;> omega
theorem own_nc {v : Int32} (h : Ch v) : nar .char v = v := by
  apply Int32.toInt_inj.mp
  have := c_i2c v
  show (v.toUInt32.toUInt16.toUInt32.toInt32).toInt = _
  have := h.1; have := h.2; omega
theorem own_dbl {j v : Int32} {jn : Nat} (hj : j.toInt = jn) (h9 : jn < 9) (h : j <<< ((1 : Int32) &&& 31) = v) : v.toInt = ((2 * jn : Nat) : Int) := by
  have := c_ishl j 1 1 (by decide)
  rw [h] at this
  have r1 := Int32.toInt_lt v
  have r2 := Int32.le_toInt v
  omega
theorem own_dbl1 {v : Int32} {jn : Nat} (h9 : jn < 9) (h : v.toInt = ((2 * jn : Nat) : Int)) : (v + (1 : Int32)).toInt = ((2 * jn + 1 : Nat) : Int) := by
  have o : (1 : Int32).toInt = 1 := rfl
  have := XT.add32 (x := v) (y := 1) ⟨by omega, by omega⟩
  omega
theorem own_il2 {Z : State} {h : Heap} {t : Addr} {us : List Int32} {i j : Nat} {x y : Int32} (A : Ary Z h t .byte (((IL us).set i (.int x)).set j (.int y))) : Ary Z h t .byte (IL ((us.set i x).set j y)) := by
  have e : IL ((us.set i x).set j y) = ((IL us).set i (.int x)).set j (.int y) := by simp only [IL, List.map_set]
  rw [e]; exact A
theorem own_ofne {i N : Nat} (h : i < N) (hN : N < 100) : ¬ Int32.ofNat i = Int32.ofNat N := fun q => by
  have a := Int32.toInt_ofNat_of_lt (n := i) (by omega)
  have b := Int32.toInt_ofNat_of_lt (n := N) (by omega)
  rw [q] at a; omega
theorem own_gc2 {x0 x1 : Int32} {i : Nat} (hin : i < 2) (h0 : Ch x0) (h1 : Ch x1) : gc (([lo x0, hi x0, lo x1, hi x1] : List Int32).getD (2 * i) 0) (([lo x0, hi x0, lo x1, hi x1] : List Int32).getD (2 * i + 1) 0) = ([x0, x1] : List Int32).getD i 0 := by
  rcases (show i = 0 ∨ i = 1 by omega) with rfl | rfl
  · show gc (lo x0) (hi x0) = x0; exact own_gc h0
  · show gc (lo x1) (hi x1) = x1; exact own_gc h1
theorem own_gc3 {x0 x1 x2 : Int32} {i : Nat} (hin : i < 3) (h0 : Ch x0) (h1 : Ch x1) (h2 : Ch x2) : gc (([lo x0, hi x0, lo x1, hi x1, lo x2, hi x2] : List Int32).getD (2 * i) 0) (([lo x0, hi x0, lo x1, hi x1, lo x2, hi x2] : List Int32).getD (2 * i + 1) 0) = ([x0, x1, x2] : List Int32).getD i 0 := by
  rcases (show i = 0 ∨ i = 1 ∨ i = 2 by omega) with rfl | rfl | rfl
  · show gc (lo x0) (hi x0) = x0; exact own_gc h0
  · show gc (lo x1) (hi x1) = x1; exact own_gc h1
  · show gc (lo x2) (hi x2) = x2; exact own_gc h2
theorem own_xn (X Y k : Nat) (h : Y < 2 ^ k) : (2 ^ k * X) ^^^ Y = 2 ^ k * X + Y := by
  apply Nat.eq_of_testBit_eq
  intro i
  rw [Nat.testBit_xor, Nat.testBit_two_pow_mul_add _ h]
  have z := Nat.testBit_two_pow_mul_add X (b := 0) (i := k) (Nat.two_pow_pos k) i
  rw [Nat.add_zero] at z
  rw [z]
  by_cases hi : i < k
  · simp [hi]
  · have : Y.testBit i = false := Nat.testBit_lt_two_pow (Nat.lt_of_lt_of_le h (Nat.pow_le_pow_right (by decide) (by omega)))
    simp [hi, this]
theorem own_xs (X Y k : Nat) (h : Y < 2 ^ k) : Int32.ofNat (2 ^ k * X) ^^^ Int32.ofNat Y = Int32.ofNat (2 ^ k * X + Y) := by
  apply Int32.toBitVec_inj.mp
  rw [Int32.toBitVec_xor, ← own_xn X Y k h]
  show BitVec.ofNat 32 _ ^^^ BitVec.ofNat 32 _ = BitVec.ofNat 32 _
  apply BitVec.eq_of_toNat_eq
  rw [BitVec.toNat_xor, BitVec.toNat_ofNat, BitVec.toNat_ofNat, BitVec.toNat_ofNat, Nat.xor_mod_two_pow]
theorem own_l12 : ∀ q : Fin 16, Int32.ofInt (q.val - 32) <<< ((12 : Int32) &&& 31) = Int32.ofNat (2 ^ 12 * q.val) ^^^ (-131072 : Int32) := by decide +kernel
theorem own_l6 : ∀ q : Fin 64, Int32.ofInt (q.val - 128) <<< ((6 : Int32) &&& 31) = Int32.ofNat (2 ^ 6 * q.val) ^^^ (-8192 : Int32) := by decide +kernel
theorem own_l0 : ∀ q : Fin 64, Int32.ofInt (q.val - 128) = Int32.ofNat q.val ^^^ (-128 : Int32) := by decide +kernel
theorem own_l12' : ∀ q : Fin 64, Int32.ofInt (q.val - 128) <<< ((12 : Int32) &&& 31) = Int32.ofNat (2 ^ 12 * q.val) ^^^ (-524288 : Int32) := by decide +kernel
theorem own_l18 : ∀ q : Fin 8, Int32.ofInt (q.val - 16) <<< ((18 : Int32) &&& 31) = Int32.ofNat (2 ^ 18 * q.val) ^^^ (-4194304 : Int32) := by decide +kernel
theorem own_l6' : ∀ q : Fin 32, Int32.ofInt (q.val - 64) <<< ((6 : Int32) &&& 31) = Int32.ofNat (2 ^ 6 * q.val) ^^^ (-4096 : Int32) := by decide +kernel
theorem own_D2 (q : Fin 32) (m : Fin 64) : (Int32.ofInt (q.val - 64) <<< ((6 : Int32) &&& 31)) ^^^ Int32.ofInt (m.val - 128) ^^^ (3968 : Int32) = Int32.ofNat (64 * q.val + m.val) := by
  rw [own_l6', own_l0]
  have e : ∀ a b : Int32, a ^^^ (-4096 : Int32) ^^^ (b ^^^ (-128 : Int32)) ^^^ (3968 : Int32) = a ^^^ b := fun a b => by
    have : ∀ x y z w : Int32, x ^^^ y ^^^ (z ^^^ w) = x ^^^ z ^^^ (y ^^^ w) := fun x y z w => by ac_rfl
    rw [this, Int32.xor_assoc, show (-4096 : Int32) ^^^ (-128) ^^^ 3968 = 0 by decide, Int32.xor_zero]
  rw [e, own_xs _ _ 6 m.isLt]
theorem own_D3 (q : Fin 16) (m l : Fin 64) : ((Int32.ofInt (q.val - 32) <<< ((12 : Int32) &&& 31)) ^^^ (Int32.ofInt (m.val - 128) <<< ((6 : Int32) &&& 31))) ^^^ (Int32.ofInt (l.val - 128) ^^^ (-123008 : Int32)) = Int32.ofNat (4096 * q.val + (64 * m.val + l.val)) := by
  rw [own_l12, own_l6, own_l0]
  have e : ∀ a b d : Int32, a ^^^ (-131072 : Int32) ^^^ (b ^^^ (-8192 : Int32)) ^^^ (d ^^^ (-128 : Int32) ^^^ (-123008 : Int32)) = a ^^^ (b ^^^ d) := fun a b d => by
    have : ∀ x y z u v w o : Int32, x ^^^ y ^^^ (z ^^^ u) ^^^ (v ^^^ w ^^^ o) = x ^^^ (z ^^^ v) ^^^ (y ^^^ u ^^^ w ^^^ o) := fun x y z u v w o => by ac_rfl
    rw [this, show (-131072 : Int32) ^^^ (-8192) ^^^ (-128) ^^^ (-123008) = 0 by decide, Int32.xor_zero]
  have hm := m.isLt
  have hl := l.isLt
  rw [e, own_xs _ _ 6 l.isLt, own_xs _ _ 12 (by omega)]
theorem own_D4 (q : Fin 8) (m l o : Fin 64) : (((Int32.ofInt (q.val - 16) <<< ((18 : Int32) &&& 31)) ^^^ (Int32.ofInt (m.val - 128) <<< ((12 : Int32) &&& 31))) ^^^ (Int32.ofInt (l.val - 128) <<< ((6 : Int32) &&& 31))) ^^^ (Int32.ofInt (o.val - 128) ^^^ (3678080 : Int32)) = Int32.ofNat (262144 * q.val + (4096 * m.val + (64 * l.val + o.val))) := by
  rw [own_l18, own_l12', own_l6, own_l0]
  have e : ∀ a b d f : Int32, a ^^^ (-4194304 : Int32) ^^^ (b ^^^ (-524288 : Int32)) ^^^ (d ^^^ (-8192 : Int32)) ^^^ (f ^^^ (-128 : Int32) ^^^ (3678080 : Int32)) = a ^^^ (b ^^^ (d ^^^ f)) := fun a b d f => by
    have : ∀ x y z u v w s t r : Int32, x ^^^ y ^^^ (z ^^^ u) ^^^ (v ^^^ w) ^^^ (s ^^^ t ^^^ r) = x ^^^ (z ^^^ (v ^^^ s)) ^^^ (y ^^^ u ^^^ w ^^^ t ^^^ r) := fun x y z u v w s t r => by ac_rfl
    rw [this, show (-4194304 : Int32) ^^^ (-524288) ^^^ (-8192) ^^^ (-128) ^^^ 3678080 = 0 by decide, Int32.xor_zero]
  have hm := m.isLt
  have hl := l.isLt
  have ho := o.isLt
  rw [e, own_xs _ _ 6 o.isLt, own_xs _ _ 12 (by omega), own_xs _ _ 18 (by omega)]
/-- a byte of the kind 'mark or small' -/
theorem own_or {a s v : Int32} {k : Nat} (hk : k ≤ 31) {P A : Int} (hP : P = (2 ^ k : Nat)) (hA : a.toInt = A) (hA0 : A % P = 0) (hA1 : 0 ≤ A ∧ A + P ≤ 256) (hA2 : 128 ≤ A) (h0 : 0 ≤ s.toInt) (h1 : s.toInt < P) (e : (a ||| s).toInt8.toInt32 = v) : v = Int32.ofInt (A + s.toInt - 256) := by
  have o := c_or a s k hk P hP (by rw [hA]; exact hA0) h0 h1
  have i := c_i2b (a ||| s)
  have r1 := Int32.toInt_lt (a ||| s)
  have r2 := Int32.le_toInt (a ||| s)
  rw [e] at i
  rw [hA] at o
  have : v.toInt = A + s.toInt - 256 := by omega
  rw [← this, Int32.ofInt_toInt]
theorem own_and63 (s : Int32) : (s &&& (63 : Int32)).toInt = s.toInt % 64 := c_mask s 63 6 (by decide) (by decide)
theorem own_eqn {c : Int32} {n : Nat} (h : c.toInt = n) : c = Int32.ofNat n := by
  have e : c = Int32.ofInt c.toInt := (Int32.ofInt_toInt c).symm
  rw [e, h]; rfl
theorem own_B {c b0 b1 : Int32} (h0 : 0 ≤ c.toInt) (h1 : c.toInt < 2048) (e0 : ((192 : Int32) ||| (c >>> ((6 : Int32) &&& 31))).toInt8.toInt32 = b0) (e1 : ((128 : Int32) ||| (c &&& (63 : Int32))).toInt8.toInt32 = b1) : ∃ (q : Fin 32) (m : Fin 64), c.toInt = ((64 * q.val + m.val : Nat) : Int) ∧ b0 = Int32.ofInt (q.val - 64) ∧ b1 = Int32.ofInt (m.val - 128) := by
  have s := c_ishr c 6 6 (by decide)
  have t := own_and63 c
  have v0 := own_or (k := 6) (by decide) (P := 64) (A := 192) rfl rfl (by decide) (by decide) (by decide) (by omega) (by omega) e0
  have v1 := own_or (k := 6) (by decide) (P := 64) (A := 128) rfl rfl (by decide) (by decide) (by decide) (by omega) (by omega) e1
  refine ⟨⟨(c.toInt / 64).toNat, by omega⟩, ⟨(c.toInt % 64).toNat, by omega⟩, by simp only; omega, ?_, ?_⟩
  · rw [v0]; congr 1; simp only; omega
  · rw [v1]; congr 1; simp only; omega
theorem own_C {c b0 b1 b2 : Int32} (h0 : 0 ≤ c.toInt) (h1 : c.toInt < 65536) (e0 : ((224 : Int32) ||| (c >>> ((12 : Int32) &&& 31))).toInt8.toInt32 = b0) (e1 : ((128 : Int32) ||| ((c >>> ((6 : Int32) &&& 31)) &&& (63 : Int32))).toInt8.toInt32 = b1) (e2 : ((128 : Int32) ||| (c &&& (63 : Int32))).toInt8.toInt32 = b2) : ∃ (q : Fin 16) (m l : Fin 64), c.toInt = ((4096 * q.val + (64 * m.val + l.val) : Nat) : Int) ∧ b0 = Int32.ofInt (q.val - 32) ∧ b1 = Int32.ofInt (m.val - 128) ∧ b2 = Int32.ofInt (l.val - 128) := by
  have s := c_ishr c 12 12 (by decide)
  have s1 := c_ishr c 6 6 (by decide)
  have t1 := own_and63 (c >>> ((6 : Int32) &&& 31))
  have t := own_and63 c
  have v0 := own_or (k := 5) (by decide) (P := 32) (A := 224) rfl rfl (by decide) (by decide) (by decide) (by omega) (by omega) e0
  have v1 := own_or (k := 6) (by decide) (P := 64) (A := 128) rfl rfl (by decide) (by decide) (by decide) (by omega) (by omega) e1
  have v2 := own_or (k := 6) (by decide) (P := 64) (A := 128) rfl rfl (by decide) (by decide) (by decide) (by omega) (by omega) e2
  refine ⟨⟨(c.toInt / 4096).toNat, by omega⟩, ⟨(c.toInt / 64 % 64).toNat, by omega⟩, ⟨(c.toInt % 64).toNat, by omega⟩, by simp only; omega, ?_, ?_, ?_⟩
  · rw [v0]; congr 1; simp only; omega
  · rw [v1]; congr 1; simp only; omega
  · rw [v2]; congr 1; simp only; omega
theorem own_Dq {c b0 b1 b2 b3 : Int32} (h0 : 0 ≤ c.toInt) (h1 : c.toInt < 1114112) (e0 : ((240 : Int32) ||| (c >>> ((18 : Int32) &&& 31))).toInt8.toInt32 = b0) (e1 : ((128 : Int32) ||| ((c >>> ((12 : Int32) &&& 31)) &&& (63 : Int32))).toInt8.toInt32 = b1) (e2 : ((128 : Int32) ||| ((c >>> ((6 : Int32) &&& 31)) &&& (63 : Int32))).toInt8.toInt32 = b2) (e3 : ((128 : Int32) ||| (c &&& (63 : Int32))).toInt8.toInt32 = b3) : ∃ (q : Fin 8) (m l o : Fin 64), c.toInt = ((262144 * q.val + (4096 * m.val + (64 * l.val + o.val)) : Nat) : Int) ∧ b0 = Int32.ofInt (q.val - 16) ∧ b1 = Int32.ofInt (m.val - 128) ∧ b2 = Int32.ofInt (l.val - 128) ∧ b3 = Int32.ofInt (o.val - 128) := by
  have s := c_ishr c 18 18 (by decide)
  have s2 := c_ishr c 12 12 (by decide)
  have s1 := c_ishr c 6 6 (by decide)
  have t2 := own_and63 (c >>> ((12 : Int32) &&& 31))
  have t1 := own_and63 (c >>> ((6 : Int32) &&& 31))
  have t := own_and63 c
  have v0 := own_or (k := 4) (by decide) (P := 16) (A := 240) rfl rfl (by decide) (by decide) (by decide) (by omega) (by omega) e0
  have v1 := own_or (k := 6) (by decide) (P := 64) (A := 128) rfl rfl (by decide) (by decide) (by decide) (by omega) (by omega) e1
  have v2 := own_or (k := 6) (by decide) (P := 64) (A := 128) rfl rfl (by decide) (by decide) (by decide) (by omega) (by omega) e2
  have v3 := own_or (k := 6) (by decide) (P := 64) (A := 128) rfl rfl (by decide) (by decide) (by decide) (by omega) (by omega) e3
  refine ⟨⟨(c.toInt / 262144).toNat, by omega⟩, ⟨(c.toInt / 4096 % 64).toNat, by omega⟩, ⟨(c.toInt / 64 % 64).toNat, by omega⟩, ⟨(c.toInt % 64).toNat, by omega⟩, by simp only; omega, ?_, ?_, ?_, ?_⟩
  · rw [v0]; congr 1; simp only; omega
  · rw [v1]; congr 1; simp only; omega
  · rw [v2]; congr 1; simp only; omega
  · rw [v3]; congr 1; simp only; omega
theorem own_nb {e v : Int32} (h : e.toInt8.toInt32 = v) : nar .byte v = v := by
  have a := c_i2b e
  have b := c_i2b v
  rw [h] at a
  apply Int32.toInt_inj.mp
  show (v.toInt8.toInt32).toInt = _
  omega
theorem own_r {p r : Int32} (h : p &&& (2147483647 : Int32) = r) : 0 ≤ r.toInt := by
  have := c_mask p 2147483647 31 (by decide) (by decide)
  rw [h] at this; omega
theorem own_r7 {p r : Int32} (h : p &&& (127 : Int32) = r) : 0 ≤ r.toInt ∧ r.toInt < 128 := by
  have := c_mask p 127 7 (by decide) (by decide)
  rw [h] at this; omega
theorem own_t {c tc tb : Int32} (h : 0 ≤ c.toInt ∧ c.toInt < 128) (hc : c.toUInt32.toUInt16.toUInt32.toInt32 = tc) (hb : c.toInt8.toInt32 = tb) : ¬ tb < 0 ∧ tb.toUInt32.toUInt16.toUInt32.toInt32 = tc ∧ ¬ (255 : Int32) < tc ∧ l1 tc = tb ∧ l1 tb = tb := by
  have a := c_i2c c
  have b := c_i2b c
  have e1 : tc = c := by apply Int32.toInt_inj.mp; rw [← hc]; omega
  have e2 : tb = c := by apply Int32.toInt_inj.mp; rw [← hb]; omega
  have z0 : (0 : Int32).toInt = 0 := rfl
  have z1 : (255 : Int32).toInt = 255 := rfl
  refine ⟨?_, ?_, ?_, ?_, ?_⟩
  · rw [e2, Int32.lt_iff_toInt_lt]; omega
  · rw [e2, hc]
  · rw [e1, Int32.lt_iff_toInt_lt]; omega
  · rw [e1, e2]; show nar .byte c.toInt8.toInt32 = c; rw [hb, own_nb hb, e2]
  · rw [e2]; show nar .byte c.toInt8.toInt32 = c; rw [hb, own_nb hb, e2]
theorem own_rB {r c : Int32} (h0 : 0 ≤ r.toInt) (hc : (128 : Int32) + (r % (1920 : Int32)) = c) : 128 ≤ c.toInt ∧ c.toInt < 2048 := by
  have a := (c_irem r 1920 1920 rfl).1 h0
  have b := c_iadd 128 (r % 1920)
  have z : (128 : Int32).toInt = 128 := rfl
  have r1 := Int32.toInt_lt c
  have r2 := Int32.le_toInt c
  rw [hc] at b; omega
theorem own_rC {r s : Int32} (h0 : 0 ≤ r.toInt) (hc : r % (61440 : Int32) = s) : 0 ≤ s.toInt ∧ s.toInt < 61440 := by
  have a := (c_irem r 61440 61440 rfl).1 h0
  rw [hc] at a; omega
theorem own_rC1 {s : Int32} (h : 0 ≤ s.toInt ∧ s.toInt < 61440) (hs : s < (53248 : Int32)) : (2048 ≤ ((2048 : Int32) + s).toInt ∧ ((2048 : Int32) + s).toInt < 55296) ∨ (57344 ≤ ((2048 : Int32) + s).toInt ∧ ((2048 : Int32) + s).toInt < 65536) := by
  rw [Int32.lt_iff_toInt_lt] at hs
  have b := c_iadd 2048 s
  have z : (2048 : Int32).toInt = 2048 := rfl
  have z1 : (53248 : Int32).toInt = 53248 := rfl
  have r1 := Int32.toInt_lt ((2048 : Int32) + s)
  have r2 := Int32.le_toInt ((2048 : Int32) + s)
  omega
theorem own_rC2 {s : Int32} (h : 0 ≤ s.toInt ∧ s.toInt < 61440) (hs : ¬ s < (53248 : Int32)) : (2048 ≤ ((57344 : Int32) + (s - (53248 : Int32))).toInt ∧ ((57344 : Int32) + (s - (53248 : Int32))).toInt < 55296) ∨ (57344 ≤ ((57344 : Int32) + (s - (53248 : Int32))).toInt ∧ ((57344 : Int32) + (s - (53248 : Int32))).toInt < 65536) := by
  rw [Int32.lt_iff_toInt_lt] at hs
  have b := c_iadd 57344 (s - 53248)
  have b1 := c_isub s 53248
  have z : (57344 : Int32).toInt = 57344 := rfl
  have z1 : (53248 : Int32).toInt = 53248 := rfl
  have r1 := Int32.toInt_lt ((57344 : Int32) + (s - (53248 : Int32)))
  have r2 := Int32.le_toInt ((57344 : Int32) + (s - (53248 : Int32)))
  have r3 := Int32.toInt_lt (s - (53248 : Int32))
  have r4 := Int32.le_toInt (s - (53248 : Int32))
  omega
theorem own_rD {r c : Int32} (h0 : 0 ≤ r.toInt) (hc : (65536 : Int32) + (r % (1048576 : Int32)) = c) : 65536 ≤ c.toInt ∧ c.toInt < 1114112 := by
  have a := (c_irem r 1048576 1048576 rfl).1 h0
  have b := c_iadd 65536 (r % 1048576)
  have z : (65536 : Int32).toInt = 65536 := rfl
  have r1 := Int32.toInt_lt c
  have r2 := Int32.le_toInt c
  rw [hc] at b; omega
theorem own_rE {r s : Int32} (h0 : 0 ≤ r.toInt) (hc : r % (72 : Int32) = s) : 0 ≤ s.toInt ∧ s.toInt < 72 := by
  have a := (c_irem r 72 72 rfl).1 h0
  rw [hc] at a; omega
theorem own_rE1 {s : Int32} (h : 0 ≤ s.toInt ∧ s.toInt < 72) (hs : s < (64 : Int32)) : (128 ≤ ((128 : Int32) + s).toInt ∧ ((128 : Int32) + s).toInt < 192) ∨ (248 ≤ ((128 : Int32) + s).toInt ∧ ((128 : Int32) + s).toInt < 256) := by
  rw [Int32.lt_iff_toInt_lt] at hs
  have b := c_iadd 128 s
  have z : (128 : Int32).toInt = 128 := rfl
  have z1 : (64 : Int32).toInt = 64 := rfl
  have r1 := Int32.toInt_lt ((128 : Int32) + s)
  have r2 := Int32.le_toInt ((128 : Int32) + s)
  omega
theorem own_rE2 {s : Int32} (h : 0 ≤ s.toInt ∧ s.toInt < 72) (hs : ¬ s < (64 : Int32)) : (128 ≤ ((248 : Int32) + (s - (64 : Int32))).toInt ∧ ((248 : Int32) + (s - (64 : Int32))).toInt < 192) ∨ (248 ≤ ((248 : Int32) + (s - (64 : Int32))).toInt ∧ ((248 : Int32) + (s - (64 : Int32))).toInt < 256) := by
  rw [Int32.lt_iff_toInt_lt] at hs
  have b := c_iadd 248 (s - 64)
  have b1 := c_isub s 64
  have z : (248 : Int32).toInt = 248 := rfl
  have z1 : (64 : Int32).toInt = 64 := rfl
  have r1 := Int32.toInt_lt ((248 : Int32) + (s - (64 : Int32)))
  have r2 := Int32.le_toInt ((248 : Int32) + (s - (64 : Int32)))
  have r3 := Int32.toInt_lt (s - (64 : Int32))
  have r4 := Int32.le_toInt (s - (64 : Int32))
  omega
theorem own_q32 : ∀ q : Fin 32, Int32.ofInt (q.val - 64) < 0 ∧ (Int32.ofInt (q.val - 64) >>> ((5 : Int32) &&& 31)) = (-2 : Int32) ∧ (2 ≤ q.val → ¬ (Int32.ofInt (q.val - 64) &&& (30 : Int32)) = 0) ∧ (q.val < 4 → (Int32.ofInt (q.val - 64) &&& (254 : Int32)) = (194 : Int32) ∨ q.val < 2) ∧ (4 ≤ q.val → ¬ (Int32.ofInt (q.val - 64) &&& (254 : Int32)) = (194 : Int32)) := by decide +kernel
theorem own_q16 : ∀ q : Fin 16, Int32.ofInt (q.val - 32) < 0 ∧ ¬ (Int32.ofInt (q.val - 32) &&& (254 : Int32)) = (194 : Int32) ∧ ¬ (Int32.ofInt (q.val - 32) >>> ((5 : Int32) &&& 31)) = (-2 : Int32) ∧ (Int32.ofInt (q.val - 32) >>> ((4 : Int32) &&& 31)) = (-2 : Int32) ∧ (Int32.ofInt (q.val - 32) = (-32 : Int32) → q.val = 0) := by decide +kernel
theorem own_q8 : ∀ q : Fin 8, Int32.ofInt (q.val - 16) < 0 ∧ ¬ (Int32.ofInt (q.val - 16) &&& (254 : Int32)) = (194 : Int32) ∧ ¬ (Int32.ofInt (q.val - 16) >>> ((5 : Int32) &&& 31)) = (-2 : Int32) ∧ ¬ (Int32.ofInt (q.val - 16) >>> ((4 : Int32) &&& 31)) = (-2 : Int32) ∧ (Int32.ofInt (q.val - 16) >>> ((3 : Int32) &&& 31)) = (-2 : Int32) := by decide +kernel
theorem own_m64 : ∀ m : Fin 64, (Int32.ofInt (m.val - 128) &&& (192 : Int32)) = (128 : Int32) ∧ Int32.ofInt (m.val - 128) < (-64 : Int32) ∧ (32 ≤ m.val → ¬ (Int32.ofInt (m.val - 128) &&& (224 : Int32)) = (128 : Int32)) := by decide +kernel
theorem own_e256 : ∀ k : Fin 256, 128 ≤ k.val → (k.val < 192 ∨ 248 ≤ k.val) → Int32.ofInt (k.val - 256) < 0 ∧ ¬ (Int32.ofInt (k.val - 256) &&& (254 : Int32)) = (194 : Int32) ∧ ¬ (Int32.ofInt (k.val - 256) >>> ((5 : Int32) &&& 31)) = (-2 : Int32) ∧ ¬ (Int32.ofInt (k.val - 256) >>> ((4 : Int32) &&& 31)) = (-2 : Int32) ∧ ¬ (Int32.ofInt (k.val - 256) >>> ((3 : Int32) &&& 31)) = (-2 : Int32) := by decide +kernel
theorem own_fB {c b0 b1 x0 : Int32} (h : 128 ≤ c.toInt ∧ c.toInt < 2048) (e0 : ((192 : Int32) ||| (c >>> ((6 : Int32) &&& 31))).toInt8.toInt32 = b0) (e1 : ((128 : Int32) ||| (c &&& (63 : Int32))).toInt8.toInt32 = b1) (ex : c.toUInt32.toUInt16.toUInt32.toInt32 = x0) : b0 < 0 ∧ (b0 >>> ((5 : Int32) &&& 31)) = (-2 : Int32) ∧ ¬ (b0 &&& (30 : Int32)) = 0 ∧ (b1 &&& (192 : Int32)) = (128 : Int32) ∧ b1 < (-64 : Int32) ∧ ((b0 <<< ((6 : Int32) &&& 31)) ^^^ b1 ^^^ (3968 : Int32)).toUInt32.toUInt16.toUInt32.toInt32 = x0 ∧ ((255 : Int32) < x0 → ¬ (b0 &&& (254 : Int32)) = (194 : Int32)) ∧ (¬ (255 : Int32) < x0 → (b0 &&& (254 : Int32)) = (194 : Int32)) := by
  obtain ⟨q, m, hc, rfl, rfl⟩ := own_B (by omega) h.2 e0 e1
  obtain ⟨a1, a2, a3, a4, a5⟩ := own_q32 q
  obtain ⟨d1, d2, -⟩ := own_m64 m
  have i := c_i2c c
  rw [ex] at i
  have z : (255 : Int32).toInt = 255 := rfl
  have hm := m.isLt
  refine ⟨a1, a2, a3 (by omega), d1, d2, ?_, fun g => ?_, fun g => ?_⟩
  · rw [own_D2, ← own_eqn hc, ex]
  · rw [Int32.lt_iff_toInt_lt] at g; exact a5 (by omega)
  · rw [Int32.lt_iff_toInt_lt] at g; exact (a4 (by omega)).resolve_right (by omega)
theorem own_fC {c b0 b1 b2 x0 : Int32} (h : (2048 ≤ c.toInt ∧ c.toInt < 55296) ∨ (57344 ≤ c.toInt ∧ c.toInt < 65536)) (e0 : ((224 : Int32) ||| (c >>> ((12 : Int32) &&& 31))).toInt8.toInt32 = b0) (e1 : ((128 : Int32) ||| ((c >>> ((6 : Int32) &&& 31)) &&& (63 : Int32))).toInt8.toInt32 = b1) (e2 : ((128 : Int32) ||| (c &&& (63 : Int32))).toInt8.toInt32 = b2) (ex : c.toUInt32.toUInt16.toUInt32.toInt32 = x0) : b0 < 0 ∧ ¬ (b0 &&& (254 : Int32)) = (194 : Int32) ∧ ¬ (b0 >>> ((5 : Int32) &&& 31)) = (-2 : Int32) ∧ (b0 >>> ((4 : Int32) &&& 31)) = (-2 : Int32) ∧ (b0 = (-32 : Int32) → ¬ (b1 &&& (224 : Int32)) = (128 : Int32)) ∧ (b1 &&& (192 : Int32)) = (128 : Int32) ∧ (b2 &&& (192 : Int32)) = (128 : Int32) ∧ (((b0 <<< ((12 : Int32) &&& 31)) ^^^ (b1 <<< ((6 : Int32) &&& 31))) ^^^ (b2 ^^^ (-123008 : Int32))).toUInt32.toUInt16.toUInt32.toInt32 = x0 ∧ (x0 < (55296 : Int32) ∨ ¬ x0 < (57344 : Int32)) ∧ (255 : Int32) < x0 := by
  obtain ⟨q, m, l, hc, rfl, rfl, rfl⟩ := own_C (by omega) (by omega) e0 e1 e2
  obtain ⟨a1, a2, a3, a4, a5⟩ := own_q16 q
  obtain ⟨d1, d2, d3⟩ := own_m64 m
  obtain ⟨f1, f2, f3⟩ := own_m64 l
  have i := c_i2c c
  rw [ex] at i
  have z : (255 : Int32).toInt = 255 := rfl
  have z1 : (55296 : Int32).toInt = 55296 := rfl
  have z2 : (57344 : Int32).toInt = 57344 := rfl
  have hl := l.isLt
  refine ⟨a1, a2, a3, a4, fun g => d3 (by have := a5 g; omega), d1, f1, ?_, ?_, ?_⟩
  · rw [own_D3, ← own_eqn hc, ex]
  · rw [Int32.lt_iff_toInt_lt, Int32.lt_iff_toInt_lt]; omega
  · rw [Int32.lt_iff_toInt_lt]; omega
theorem own_fD {c b0 b1 b2 b3 u x0 x1 : Int32} (h : 65536 ≤ c.toInt ∧ c.toInt < 1114112) (e0 : ((240 : Int32) ||| (c >>> ((18 : Int32) &&& 31))).toInt8.toInt32 = b0) (e1 : ((128 : Int32) ||| ((c >>> ((12 : Int32) &&& 31)) &&& (63 : Int32))).toInt8.toInt32 = b1) (e2 : ((128 : Int32) ||| ((c >>> ((6 : Int32) &&& 31)) &&& (63 : Int32))).toInt8.toInt32 = b2) (e3 : ((128 : Int32) ||| (c &&& (63 : Int32))).toInt8.toInt32 = b3) (eu : c - (65536 : Int32) = u) (ex0 : ((55296 : Int32) + (u >>> ((10 : Int32) &&& 31))).toUInt32.toUInt16.toUInt32.toInt32 = x0) (ex1 : ((56320 : Int32) + (u &&& (1023 : Int32))).toUInt32.toUInt16.toUInt32.toInt32 = x1) :
    b0 < 0 ∧ ¬ (b0 &&& (254 : Int32)) = (194 : Int32) ∧ ¬ (b0 >>> ((5 : Int32) &&& 31)) = (-2 : Int32) ∧ ¬ (b0 >>> ((4 : Int32) &&& 31)) = (-2 : Int32) ∧ (b0 >>> ((3 : Int32) &&& 31)) = (-2 : Int32) ∧ (b1 &&& (192 : Int32)) = (128 : Int32) ∧ (b2 &&& (192 : Int32)) = (128 : Int32) ∧ (b3 &&& (192 : Int32)) = (128 : Int32) ∧ (((b0 <<< ((18 : Int32) &&& 31)) ^^^ (b1 <<< ((12 : Int32) &&& 31))) ^^^ (b2 <<< ((6 : Int32) &&& 31))) ^^^ (b3 ^^^ (3678080 : Int32)) = c ∧ ¬ c < (65536 : Int32) ∧ c < (1114112 : Int32) ∧ (XT.ushr c (10 : Int32) + (55232 : Int32)).toUInt32.toUInt16.toUInt32.toInt32 = x0 ∧ ((c &&& (1023 : Int32)) + (56320 : Int32)).toUInt32.toUInt16.toUInt32.toInt32 = x1 ∧ (255 : Int32) < x0 := by
  obtain ⟨q, m, l, o, hc, rfl, rfl, rfl, rfl⟩ := own_Dq (by omega) (by omega) e0 e1 e2 e3
  obtain ⟨a1, a2, a3, a4, a5⟩ := own_q8 q
  have z1 : (65536 : Int32).toInt = 65536 := rfl
  have z2 : (1114112 : Int32).toInt = 1114112 := rfl
  have z3 : (55232 : Int32).toInt = 55232 := rfl
  have z4 : (55296 : Int32).toInt = 55296 := rfl
  have z5 : (56320 : Int32).toInt = 56320 := rfl
  have z6 : (255 : Int32).toInt = 255 := rfl
  have s := c_isub c 65536
  rw [eu] at s
  have ru1 := Int32.toInt_lt u
  have ru2 := Int32.le_toInt u
  have sh := c_ishr u 10 10 (by decide)
  have us : (XT.ushr c (10 : Int32)).toInt = (c.toInt % 4294967296) / (2 ^ 10 : Nat) := c_iushr c 10 10 (by decide) (by decide)
  have mu : (u &&& (1023 : Int32)).toInt = u.toInt % (2 ^ 10 : Nat) := c_mask u 1023 10 (by decide) (by decide)
  have mc : (c &&& (1023 : Int32)).toInt = c.toInt % (2 ^ 10 : Nat) := c_mask c 1023 10 (by decide) (by decide)
  have p1 := c_iadd (XT.ushr c (10 : Int32)) (55232 : Int32)
  have p2 := c_iadd (55296 : Int32) (u >>> ((10 : Int32) &&& 31))
  have p3 := c_iadd (c &&& (1023 : Int32)) (56320 : Int32)
  have p4 := c_iadd (56320 : Int32) (u &&& (1023 : Int32))
  have q1 := Int32.toInt_lt (XT.ushr c (10 : Int32) + (55232 : Int32))
  have q2 := Int32.le_toInt (XT.ushr c (10 : Int32) + (55232 : Int32))
  have q3 := Int32.toInt_lt ((55296 : Int32) + (u >>> ((10 : Int32) &&& 31)))
  have q4 := Int32.le_toInt ((55296 : Int32) + (u >>> ((10 : Int32) &&& 31)))
  have q5 := Int32.toInt_lt ((c &&& (1023 : Int32)) + (56320 : Int32))
  have q6 := Int32.le_toInt ((c &&& (1023 : Int32)) + (56320 : Int32))
  have q7 := Int32.toInt_lt ((56320 : Int32) + (u &&& (1023 : Int32)))
  have q8 := Int32.le_toInt ((56320 : Int32) + (u &&& (1023 : Int32)))
  have E1 : XT.ushr c (10 : Int32) + (55232 : Int32) = (55296 : Int32) + (u >>> ((10 : Int32) &&& 31)) := Int32.toInt_inj.mp (by omega)
  have E2 : (c &&& (1023 : Int32)) + (56320 : Int32) = (56320 : Int32) + (u &&& (1023 : Int32)) := Int32.toInt_inj.mp (by omega)
  have i := c_i2c ((55296 : Int32) + (u >>> ((10 : Int32) &&& 31)))
  rw [ex0] at i
  refine ⟨a1, a2, a3, a4, a5, (own_m64 m).1, (own_m64 l).1, (own_m64 o).1, ?_, ?_, ?_, ?_, ?_, ?_⟩
  · rw [own_D4]; exact (own_eqn hc).symm
  · rw [Int32.lt_iff_toInt_lt]; omega
  · rw [Int32.lt_iff_toInt_lt]; omega
  · rw [E1]; exact ex0
  · rw [E2]; exact ex1
  · rw [Int32.lt_iff_toInt_lt]; omega
theorem own_fE {b b0 : Int32} (h : (128 ≤ b.toInt ∧ b.toInt < 192) ∨ (248 ≤ b.toInt ∧ b.toInt < 256)) (e : b.toInt8.toInt32 = b0) : b0 < 0 ∧ ¬ (b0 &&& (254 : Int32)) = (194 : Int32) ∧ ¬ (b0 >>> ((5 : Int32) &&& 31)) = (-2 : Int32) ∧ ¬ (b0 >>> ((4 : Int32) &&& 31)) = (-2 : Int32) ∧ ¬ (b0 >>> ((3 : Int32) &&& 31)) = (-2 : Int32) := by
  have i := c_i2b b
  rw [e] at i
  have v : b0 = Int32.ofInt (b.toInt - 256) := by
    have : b0.toInt = b.toInt - 256 := by omega
    rw [← this, Int32.ofInt_toInt]
  have r := own_e256 ⟨b.toInt.toNat, by omega⟩ (by simp only; omega) (by simp only; omega)
  have w : Int32.ofInt (((⟨b.toInt.toNat, by omega⟩ : Fin 256).val : Int) - 256) = b0 := by rw [v]; congr 1; simp only; omega
  rw [w] at r; exact r
theorem own_tk (us : List Int32) {M : Nat} : (List.replicate M (Value.int 0)).take 0 ++ ((IL us).drop 0).take M ++ (List.replicate M (Value.int 0)).drop (0 + M) = IL (us.take M) := by
  simp [IL, List.map_take]
theorem own_no2 {x0 x1 : Int32} (h0 : ¬ (255 : Int32) < x0) (h1 : ¬ (255 : Int32) < x1) : ¬ ∃ i : Nat, i < 2 ∧ (255 : Int32) < ([x0, x1] : List Int32).getD i 0 := by
  rintro ⟨i, hi, g⟩
  rcases (show i = 0 ∨ i = 1 by omega) with rfl | rfl
  · exact h0 g
  · exact h1 g
theorem own_si {s : State} {args : Array Value} {C n d : String} {v : Int32} (h : (Cond.eq (Term.static C n d) (Term.int v)).value args s none s [] = some true) (hi : (Cond.initializedFor C n d).before args s = true) : Sta s s.heap C n d (.int v) := by
  refine Sta.start (args := args) ?_ (Or.inl hi)
  cases hf : (Term.static C n d).eval args s none [] s with
  | none => simp [Cond.value, hf] at h
  | some w => cases w <;> simp [Cond.value, hf, Term.int_eval] at h ⊢; exact h
theorem own_se {s : State} {args : Array Value} {t t2 : Term} {a : Addr} (ev : t.eval args s none [] s = some (.ref a)) (h : (Cond.eq t t2).value args s none s [] = some true) : t2.eval args s none [] s = some (.ref a) := by
  cases hf : t2.eval args s none [] s with
  | none => simp [Cond.value, ev, hf] at h
  | some v => cases v <;> simp [Cond.value, ev, hf] at h ⊢; first | exact h | exact h.symm
theorem d20_0 : decode jdk_52_method_4_code 0 = .ok (.getstatic 44, 3) := by decide +kernel
theorem d20_3 : decode jdk_52_method_4_code 3 = .ok (.ifCond .ne 25, 3) := by decide +kernel
theorem d20_28 : decode jdk_52_method_4_code 28 = .ok (.iload_n 1, 1) := by decide +kernel
theorem d20_29 : decode jdk_52_method_4_code 29 = .ok (.iconst 1, 1) := by decide +kernel
theorem d20_30 : decode jdk_52_method_4_code 30 = .ok (.ishl, 1) := by decide +kernel
theorem d20_31 : decode jdk_52_method_4_code 31 = .ok (.istore_n 1, 1) := by decide +kernel
theorem d20_32 : decode jdk_52_method_4_code 32 = .ok (.aload_n 0, 1) := by decide +kernel
theorem d20_33 : decode jdk_52_method_4_code 33 = .ok (.iload_n 1, 1) := by decide +kernel
theorem d20_34 : decode jdk_52_method_4_code 34 = .ok (.iinc 1 1, 3) := by decide +kernel
theorem d20_37 : decode jdk_52_method_4_code 37 = .ok (.iload_n 2, 1) := by decide +kernel
theorem d20_38 : decode jdk_52_method_4_code 38 = .ok (.getstatic 59, 3) := by decide +kernel
theorem d20_41 : decode jdk_52_method_4_code 41 = .ok (.ishr, 1) := by decide +kernel
theorem d20_42 : decode jdk_52_method_4_code 42 = .ok (.i2b, 1) := by decide +kernel
theorem d20_43 : decode jdk_52_method_4_code 43 = .ok (.bastore, 1) := by decide +kernel
theorem d20_44 : decode jdk_52_method_4_code 44 = .ok (.aload_n 0, 1) := by decide +kernel
theorem d20_45 : decode jdk_52_method_4_code 45 = .ok (.iload_n 1, 1) := by decide +kernel
theorem d20_46 : decode jdk_52_method_4_code 46 = .ok (.iload_n 2, 1) := by decide +kernel
theorem d20_47 : decode jdk_52_method_4_code 47 = .ok (.getstatic 63, 3) := by decide +kernel
theorem d20_50 : decode jdk_52_method_4_code 50 = .ok (.ishr, 1) := by decide +kernel
theorem d20_51 : decode jdk_52_method_4_code 51 = .ok (.i2b, 1) := by decide +kernel
theorem d20_52 : decode jdk_52_method_4_code 52 = .ok (.bastore, 1) := by decide +kernel
theorem d20_53 : decode jdk_52_method_4_code 53 = .ok (.return_, 1) := by decide +kernel
theorem pd20 : parseMethodDescriptor "([BII)V" = some ⟨[(.array .byte), .int, .int], none⟩ := by decide +kernel
theorem pn20 : plainFor (⟨"java/lang/StringUTF16", "putChar", "([BII)V"⟩ : MethodName) = true := by first | (refine plainFor_of_name ?_; simp [plainName, overriddenIn]; done) | (refine plainFor_of_name ?_; decide +kernel) | decide +kernel
abbrev B20 : Bd := ((⟨"java/lang/StringUTF16", "putChar", "([BII)V"⟩ : MethodName), jdk_52_method_4_code, 3, none, ({ frames := 0, cells := 0, slots := 0, locals := 0 } : Room), tables_1)
theorem ef20 (mid : MethodId) (t : Addr) (j : Int32) (x : Int32) : entryFrame mid (List.toArray [.ref t, .int j, .int x]) 3 = mkF mid 0 #[.val (.ref t), .val (.int j), .val (.int x)] [] := by first | (simp [entryFrame, mkF, argsToLocals, Value.category]; done) | rfl
def Q20 (Z : State) (t : Addr) (us : List Int32) (jn : Nat) (x : Int32) (h0 : Heap) (v : Option Value) (h : Heap) : Prop := v = none ∧ Keep h0 h [t] ∧ Ary Z h t .byte (IL ((us.set (2 * jn) (lo x)).set (2 * jn + 1) (hi x)))
set_option maxRecDepth 65536 in
set_option maxHeartbeats 40000000 in
theorem c20 (Z : State) (hw : Wd Z tables_1) (h0 : Heap) (t : Addr) (j : Int32) (x : Int32) (us : List Int32) (jn : Nat) (hj : j.toInt = jn) (hj9 : jn < 9) (hAs : Sta Z Z.heap "java/lang/StringUTF16" "$assertionsDisabled" "Z" (.int 1)) (hHi : Sta Z Z.heap "java/lang/StringUTF16" "HI_BYTE_SHIFT" "I" (.int 0)) (hLo : Sta Z Z.heap "java/lang/StringUTF16" "LO_BYTE_SHIFT" "I" (.int 8)) (hgt : Z.heap.size ≤ t) (hlt : 2 * jn + 1 < us.length) (hA : Ary Z h0 t .byte (IL us)) : Con Z B20 (List.toArray [.ref t, .int j, .int x]) h0 (Q20 Z t us jn x h0) := by
  refine Con.mk hw pn20 (fun mid => ef20 mid t j x) (Go.old fun hle' => ?_)
  have hle := hle'.1
  refine Go.getS 3 rfl (v := .int (1 : Int32)) 108 d20_0 rfl hAs ?_
  refine Go.if_ne 28 6 d20_3 (by decide) rfl rfl (fun (b101 : ¬ (1 : Int32) = 0) => ?_) (fun (b101 : (1 : Int32) = 0) => ?_)
  · refine Go.iloadN 29 rfl d20_28 rfl ?_
    refine Go.iconst 30 rfl (1 : Int32) d20_29 rfl ?_
    refine Go.ishl 31 rfl d20_30 ?_
    refine Go.nameI fun v102 hv102 => ?_
    have e1 : v102.toInt = ((2 * jn : Nat) : Int) := own_dbl hj hj9 hv102
    have e2 : (v102 + (1 : Int32)).toInt = ((2 * jn + 1 : Nat) : Int) := own_dbl1 hj9 e1
    refine Go.istoreN 32 rfl d20_31 (Ls' := #[.val (.ref t), .val (.int v102), .val (.int x)]) rfl ?_
    refine Go.aloadN 33 rfl d20_32 rfl rfl ?_
    refine Go.iloadN 34 rfl d20_33 rfl ?_
    refine Go.iinc 37 rfl (1 : Int32) d20_34 rfl rfl (Ls' := #[.val (.ref t), .val (.int (v102 + (1 : Int32))), .val (.int x)]) rfl ?_
    refine Go.iloadN 38 rfl d20_37 rfl ?_
    refine Go.getS 41 rfl (v := .int (0 : Int32)) 109 d20_38 rfl hHi ?_
    refine Go.ishr 42 rfl d20_41 ?_
    refine Go.i2b 43 rfl d20_42 ?_
    refine Go.stB 44 rfl d20_43 hA (2 * jn) e1 (by rw [IL.len]; omega) hgt fun h103 K104 A105 => ?_
    have A106 : Ary Z h103 t .byte ((IL us).set (2 * jn) (.int (lo x))) := A105
    refine Go.aloadN 45 rfl d20_44 rfl rfl ?_
    refine Go.iloadN 46 rfl d20_45 rfl ?_
    refine Go.iloadN 47 rfl d20_46 rfl ?_
    refine Go.getS 50 rfl (v := .int (8 : Int32)) 110 d20_47 rfl hLo ?_
    refine Go.ishr 51 rfl d20_50 ?_
    refine Go.i2b 52 rfl d20_51 ?_
    refine Go.stB 53 rfl d20_52 A106 (2 * jn + 1) e2 (by rw [List.length_set, IL.len]; omega) hgt fun h107 K108 A109 => ?_
    have A110 : Ary Z h107 t .byte (((IL us).set (2 * jn) (.int (lo x))).set (2 * jn + 1) (.int (hi x))) := A109
    exact Go.retV d20_53 rfl (by decide) (by decide) ⟨rfl, (((Keep.refl h0 [t]).trans K104 (by simp)).trans K108 (by simp)), own_il2 A110⟩
  · exact absurd b101 (show ¬ (1 : Int32) = 0 from (by decide))
theorem d21_0 : decode jdk_52_method_5_code 0 = .ok (.getstatic 44, 3) := by decide +kernel
theorem d21_3 : decode jdk_52_method_5_code 3 = .ok (.ifCond .ne 25, 3) := by decide +kernel
theorem d21_28 : decode jdk_52_method_5_code 28 = .ok (.iload_n 1, 1) := by decide +kernel
theorem d21_29 : decode jdk_52_method_5_code 29 = .ok (.iconst 1, 1) := by decide +kernel
theorem d21_30 : decode jdk_52_method_5_code 30 = .ok (.ishl, 1) := by decide +kernel
theorem d21_31 : decode jdk_52_method_5_code 31 = .ok (.istore_n 1, 1) := by decide +kernel
theorem d21_32 : decode jdk_52_method_5_code 32 = .ok (.aload_n 0, 1) := by decide +kernel
theorem d21_33 : decode jdk_52_method_5_code 33 = .ok (.iload_n 1, 1) := by decide +kernel
theorem d21_34 : decode jdk_52_method_5_code 34 = .ok (.iinc 1 1, 3) := by decide +kernel
theorem d21_37 : decode jdk_52_method_5_code 37 = .ok (.baload, 1) := by decide +kernel
theorem d21_38 : decode jdk_52_method_5_code 38 = .ok (.sipush 255, 3) := by decide +kernel
theorem d21_41 : decode jdk_52_method_5_code 41 = .ok (.iand, 1) := by decide +kernel
theorem d21_42 : decode jdk_52_method_5_code 42 = .ok (.getstatic 59, 3) := by decide +kernel
theorem d21_45 : decode jdk_52_method_5_code 45 = .ok (.ishl, 1) := by decide +kernel
theorem d21_46 : decode jdk_52_method_5_code 46 = .ok (.aload_n 0, 1) := by decide +kernel
theorem d21_47 : decode jdk_52_method_5_code 47 = .ok (.iload_n 1, 1) := by decide +kernel
theorem d21_48 : decode jdk_52_method_5_code 48 = .ok (.baload, 1) := by decide +kernel
theorem d21_49 : decode jdk_52_method_5_code 49 = .ok (.sipush 255, 3) := by decide +kernel
theorem d21_52 : decode jdk_52_method_5_code 52 = .ok (.iand, 1) := by decide +kernel
theorem d21_53 : decode jdk_52_method_5_code 53 = .ok (.getstatic 63, 3) := by decide +kernel
theorem d21_56 : decode jdk_52_method_5_code 56 = .ok (.ishl, 1) := by decide +kernel
theorem d21_57 : decode jdk_52_method_5_code 57 = .ok (.ior, 1) := by decide +kernel
theorem d21_58 : decode jdk_52_method_5_code 58 = .ok (.i2c, 1) := by decide +kernel
theorem d21_59 : decode jdk_52_method_5_code 59 = .ok (.ireturn, 1) := by decide +kernel
theorem pd21 : parseMethodDescriptor "([BI)C" = some ⟨[(.array .byte), .int], some .char⟩ := by decide +kernel
theorem pn21 : plainFor (⟨"java/lang/StringUTF16", "getChar", "([BI)C"⟩ : MethodName) = true := by first | (refine plainFor_of_name ?_; simp [plainName, overriddenIn]; done) | (refine plainFor_of_name ?_; decide +kernel) | decide +kernel
abbrev B21 : Bd := ((⟨"java/lang/StringUTF16", "getChar", "([BI)C"⟩ : MethodName), jdk_52_method_5_code, 2, (some .char), ({ frames := 0, cells := 0, slots := 0, locals := 0 } : Room), tables_1)
theorem ef21 (mid : MethodId) (t : Addr) (j : Int32) : entryFrame mid (List.toArray [.ref t, .int j]) 2 = mkF mid 0 #[.val (.ref t), .val (.int j)] [] := by first | (simp [entryFrame, mkF, argsToLocals, Value.category]; done) | rfl
def Q21 (us : List Int32) (jn : Nat) (h0 : Heap) (v : Option Value) (h : Heap) : Prop := v = some (.int (gc (us.getD (2 * jn) 0) (us.getD (2 * jn + 1) 0))) ∧ h0 = h
set_option maxRecDepth 65536 in
set_option maxHeartbeats 40000000 in
theorem c21 (Z : State) (hw : Wd Z tables_1) (h0 : Heap) (t : Addr) (j : Int32) (us : List Int32) (jn : Nat) (hj : j.toInt = jn) (hj9 : jn < 9) (hAs : Sta Z Z.heap "java/lang/StringUTF16" "$assertionsDisabled" "Z" (.int 1)) (hHi : Sta Z Z.heap "java/lang/StringUTF16" "HI_BYTE_SHIFT" "I" (.int 0)) (hLo : Sta Z Z.heap "java/lang/StringUTF16" "LO_BYTE_SHIFT" "I" (.int 8)) (hlt : 2 * jn + 1 < us.length) (hA : Ary Z h0 t .byte (IL us)) : Con Z B21 (List.toArray [.ref t, .int j]) h0 (Q21 us jn h0) := by
  refine Con.mk hw pn21 (fun mid => ef21 mid t j) (Go.old fun hle' => ?_)
  have hle := hle'.1
  refine Go.getS 3 rfl (v := .int (1 : Int32)) 108 d21_0 rfl hAs ?_
  refine Go.if_ne 28 6 d21_3 (by decide) rfl rfl (fun (b101 : ¬ (1 : Int32) = 0) => ?_) (fun (b101 : (1 : Int32) = 0) => ?_)
  · refine Go.iloadN 29 rfl d21_28 rfl ?_
    refine Go.iconst 30 rfl (1 : Int32) d21_29 rfl ?_
    refine Go.ishl 31 rfl d21_30 ?_
    refine Go.nameI fun v102 hv102 => ?_
    have e1 : v102.toInt = ((2 * jn : Nat) : Int) := own_dbl hj hj9 hv102
    have e2 : (v102 + (1 : Int32)).toInt = ((2 * jn + 1 : Nat) : Int) := own_dbl1 hj9 e1
    refine Go.istoreN 32 rfl d21_31 (Ls' := #[.val (.ref t), .val (.int v102)]) rfl ?_
    refine Go.aloadN 33 rfl d21_32 rfl rfl ?_
    refine Go.iloadN 34 rfl d21_33 rfl ?_
    refine Go.iinc 37 rfl (1 : Int32) d21_34 rfl rfl (Ls' := #[.val (.ref t), .val (.int (v102 + (1 : Int32)))]) rfl ?_
    refine Go.baload 38 rfl (us.getD (2 * jn) 0) d21_37 hA (2 * jn) e1 (IL.get (by omega)) ?_
    refine Go.sipush 41 rfl (255 : Int32) d21_38 rfl ?_
    refine Go.iand 42 rfl d21_41 ?_
    refine Go.getS 45 rfl (v := .int (0 : Int32)) 109 d21_42 rfl hHi ?_
    refine Go.ishl 46 rfl d21_45 ?_
    refine Go.aloadN 47 rfl d21_46 rfl rfl ?_
    refine Go.iloadN 48 rfl d21_47 rfl ?_
    refine Go.baload 49 rfl (us.getD (2 * jn + 1) 0) d21_48 hA (2 * jn + 1) e2 (IL.get hlt) ?_
    refine Go.sipush 52 rfl (255 : Int32) d21_49 rfl ?_
    refine Go.iand 53 rfl d21_52 ?_
    refine Go.getS 56 rfl (v := .int (8 : Int32)) 110 d21_53 rfl hLo ?_
    refine Go.ishl 57 rfl d21_56 ?_
    refine Go.ior 58 rfl d21_57 ?_
    refine Go.i2c 59 rfl d21_58 ?_
    exact Go.retN (t := .char) (z' := (gc (us.getD (2 * jn) 0) (us.getD (2 * jn + 1) 0))) d21_59 rfl (by decide) rfl (by decide) (by decide) ⟨rfl, rfl⟩
  · exact absurd b101 (show ¬ (1 : Int32) = 0 from (by decide))
theorem d19_0 : decode jdk_52_method_3_code 0 = .ok (.iload_n 0, 1) := by decide +kernel
theorem d19_1 : decode jdk_52_method_3_code 1 = .ok (.ifCond .ge 11, 3) := by decide +kernel
theorem d19_12 : decode jdk_52_method_3_code 12 = .ok (.iload_n 0, 1) := by decide +kernel
theorem d19_13 : decode jdk_52_method_3_code 13 = .ok (.ldc 20, 2) := by decide +kernel
theorem d19_15 : decode jdk_52_method_3_code 15 = .ok (.if_icmp .lt 40, 3) := by decide +kernel
theorem d19_55 : decode jdk_52_method_3_code 55 = .ok (.iload_n 0, 1) := by decide +kernel
theorem d19_56 : decode jdk_52_method_3_code 56 = .ok (.iconst 1, 1) := by decide +kernel
theorem d19_57 : decode jdk_52_method_3_code 57 = .ok (.ishl, 1) := by decide +kernel
theorem d19_58 : decode jdk_52_method_3_code 58 = .ok (.ireturn, 1) := by decide +kernel
theorem pd19 : parseMethodDescriptor "(I)I" = some ⟨[.int], some .int⟩ := by decide +kernel
theorem pn19 : plainFor (⟨"java/lang/StringUTF16", "newBytesLength", "(I)I"⟩ : MethodName) = true := by first | (refine plainFor_of_name ?_; simp [plainName, overriddenIn]; done) | (refine plainFor_of_name ?_; decide +kernel) | decide +kernel
abbrev B19 : Bd := ((⟨"java/lang/StringUTF16", "newBytesLength", "(I)I"⟩ : MethodName), jdk_52_method_3_code, 1, (some .int), ({ frames := 0, cells := 0, slots := 0, locals := 0 } : Room), tables_1)
theorem ef19n5 (mid : MethodId)  : entryFrame mid (List.toArray [.int (5 : Int32)]) 1 = mkF mid 0 #[.val (.int (5 : Int32))] [] := by first | (simp [entryFrame, mkF, argsToLocals, Value.category]; done) | rfl
def Q19n5 (h0 : Heap) (v : Option Value) (h : Heap) : Prop := v = some (.int (10 : Int32)) ∧ h0 = h
set_option maxRecDepth 65536 in
set_option maxHeartbeats 40000000 in
theorem c19n5 (Z : State) (hw : Wd Z tables_1) (h0 : Heap)    : Con Z B19 (List.toArray [.int (5 : Int32)]) h0 (Q19n5 h0) := by
  refine Con.mk hw pn19 (fun mid => ef19n5 mid ) (Go.old fun hle' => ?_)
  have hle := hle'.1
  refine Go.iloadN 1 rfl d19_0 rfl ?_
  refine Go.if_ge 12 4 d19_1 (by decide) rfl rfl (fun (b101 : ¬ (5 : Int32) < 0) => ?_) (fun (b101 : (5 : Int32) < 0) => ?_)
  · refine Go.iloadN 13 rfl d19_12 rfl ?_
    refine Go.ldcI 15 rfl (v := (1073741823 : Int32)) 104 d19_13 rfl ?_
    refine Go.icmp_lt 55 18 d19_15 (by decide) rfl rfl (fun (b102 : (5 : Int32) < (1073741823 : Int32)) => ?_) (fun (b102 : ¬ (5 : Int32) < (1073741823 : Int32)) => ?_)
    · refine Go.iloadN 56 rfl d19_55 rfl ?_
      refine Go.iconst 57 rfl (1 : Int32) d19_56 rfl ?_
      refine Go.ishl 58 rfl d19_57 ?_
      refine Go.eqI (w := 10) (by decide) ?_
      exact Go.retI d19_58 rfl (by decide) (by decide) ⟨rfl, rfl⟩
    · exact absurd (show (5 : Int32) < (1073741823 : Int32) from (by decide)) b102
  · exact absurd b101 (show ¬ (5 : Int32) < 0 from (by decide))
theorem d18_0 : decode jdk_52_method_2_code 0 = .ok (.iload_n 0, 1) := by decide +kernel
theorem d18_1 : decode jdk_52_method_2_code 1 = .ok (.invokestatic 11, 3) := by decide +kernel
theorem d18_4 : decode jdk_52_method_2_code 4 = .ok (.newarray .byte, 2) := by decide +kernel
theorem d18_6 : decode jdk_52_method_2_code 6 = .ok (.areturn, 1) := by decide +kernel
theorem pd18 : parseMethodDescriptor "(I)[B" = some ⟨[.int], some (.array .byte)⟩ := by decide +kernel
theorem pn18 : plainFor (⟨"java/lang/StringUTF16", "newBytesFor", "(I)[B"⟩ : MethodName) = true := by first | (refine plainFor_of_name ?_; simp [plainName, overriddenIn]; done) | (refine plainFor_of_name ?_; decide +kernel) | decide +kernel
abbrev B18 : Bd := ((⟨"java/lang/StringUTF16", "newBytesFor", "(I)[B"⟩ : MethodName), jdk_52_method_2_code, 1, (some (.array .byte)), ({ frames := 1, cells := 1, slots := 10, locals := 12 } : Room), tables_1)
theorem ef18n5 (mid : MethodId)  : entryFrame mid (List.toArray [.int (5 : Int32)]) 1 = mkF mid 0 #[.val (.int (5 : Int32))] [] := by first | (simp [entryFrame, mkF, argsToLocals, Value.category]; done) | rfl
def Q18n5 (Z : State) (h0 : Heap) (v : Option Value) (h : Heap) : Prop := ∃ t, v = some (.ref t) ∧ h0.size ≤ t ∧ Keep h0 h [] ∧ Ary Z h t .byte (IL [0, 0, 0, 0, 0, 0, 0, 0, 0, 0])
set_option maxRecDepth 65536 in
set_option maxHeartbeats 40000000 in
theorem c18n5 (Z : State) (hw : Wd Z tables_1) (h0 : Heap)    : Con Z B18 (List.toArray [.int (5 : Int32)]) h0 (Q18n5 Z h0) := by
  refine Con.mk hw pn18 (fun mid => ef18n5 mid ) (Go.old fun hle' => ?_)
  have hle := hle'.1
  refine Go.iloadN 1 rfl d18_0 rfl ?_
  refine Go.callS 4 rfl (C := B19) [.int (5 : Int32)] (rest := []) 101 102 19 103 (c19n5 Z hw h0) d18_1 rfl rfl rfl rfl (by decide) pd19 rfl rfl rfl (W := 0) (Nat.le_of_ble_eq_true rfl) (by decide) (by decide) (by decide) (by decide) fun v101 h102 q103 => ?_
  obtain ⟨rfl, rfl⟩ := q103
  refine Go.newA 6 rfl 1 10 10 d18_4 rfl rfl (by decide) (by decide) (by decide) (by decide) fun h105 a104 g106 z107 K108 A109 E110 => ?_
  have A111 : Ary Z h105 a104 .byte [.int 0, .int 0, .int 0, .int 0, .int 0, .int 0, .int 0, .int 0, .int 0, .int 0] := A109
  exact Go.retA d18_6 rfl rfl rfl (by decide) (by decide) ⟨a104, rfl, Nat.le_of_eq g106.symm, ((Keep.refl h0 []).trans K108 all0), A111⟩
theorem ef19n4 (mid : MethodId)  : entryFrame mid (List.toArray [.int (4 : Int32)]) 1 = mkF mid 0 #[.val (.int (4 : Int32))] [] := by first | (simp [entryFrame, mkF, argsToLocals, Value.category]; done) | rfl
def Q19n4 (h0 : Heap) (v : Option Value) (h : Heap) : Prop := v = some (.int (8 : Int32)) ∧ h0 = h
set_option maxRecDepth 65536 in
set_option maxHeartbeats 40000000 in
theorem c19n4 (Z : State) (hw : Wd Z tables_1) (h0 : Heap)    : Con Z B19 (List.toArray [.int (4 : Int32)]) h0 (Q19n4 h0) := by
  refine Con.mk hw pn19 (fun mid => ef19n4 mid ) (Go.old fun hle' => ?_)
  have hle := hle'.1
  refine Go.iloadN 1 rfl d19_0 rfl ?_
  refine Go.if_ge 12 4 d19_1 (by decide) rfl rfl (fun (b101 : ¬ (4 : Int32) < 0) => ?_) (fun (b101 : (4 : Int32) < 0) => ?_)
  · refine Go.iloadN 13 rfl d19_12 rfl ?_
    refine Go.ldcI 15 rfl (v := (1073741823 : Int32)) 104 d19_13 rfl ?_
    refine Go.icmp_lt 55 18 d19_15 (by decide) rfl rfl (fun (b102 : (4 : Int32) < (1073741823 : Int32)) => ?_) (fun (b102 : ¬ (4 : Int32) < (1073741823 : Int32)) => ?_)
    · refine Go.iloadN 56 rfl d19_55 rfl ?_
      refine Go.iconst 57 rfl (1 : Int32) d19_56 rfl ?_
      refine Go.ishl 58 rfl d19_57 ?_
      refine Go.eqI (w := 8) (by decide) ?_
      exact Go.retI d19_58 rfl (by decide) (by decide) ⟨rfl, rfl⟩
    · exact absurd (show (4 : Int32) < (1073741823 : Int32) from (by decide)) b102
  · exact absurd b101 (show ¬ (4 : Int32) < 0 from (by decide))
theorem ef18n4 (mid : MethodId)  : entryFrame mid (List.toArray [.int (4 : Int32)]) 1 = mkF mid 0 #[.val (.int (4 : Int32))] [] := by first | (simp [entryFrame, mkF, argsToLocals, Value.category]; done) | rfl
def Q18n4 (Z : State) (h0 : Heap) (v : Option Value) (h : Heap) : Prop := ∃ t, v = some (.ref t) ∧ h0.size ≤ t ∧ Keep h0 h [] ∧ Ary Z h t .byte (IL [0, 0, 0, 0, 0, 0, 0, 0])
set_option maxRecDepth 65536 in
set_option maxHeartbeats 40000000 in
theorem c18n4 (Z : State) (hw : Wd Z tables_1) (h0 : Heap)    : Con Z B18 (List.toArray [.int (4 : Int32)]) h0 (Q18n4 Z h0) := by
  refine Con.mk hw pn18 (fun mid => ef18n4 mid ) (Go.old fun hle' => ?_)
  have hle := hle'.1
  refine Go.iloadN 1 rfl d18_0 rfl ?_
  refine Go.callS 4 rfl (C := B19) [.int (4 : Int32)] (rest := []) 101 102 19 103 (c19n4 Z hw h0) d18_1 rfl rfl rfl rfl (by decide) pd19 rfl rfl rfl (W := 0) (Nat.le_of_ble_eq_true rfl) (by decide) (by decide) (by decide) (by decide) fun v101 h102 q103 => ?_
  obtain ⟨rfl, rfl⟩ := q103
  refine Go.newA 6 rfl 1 8 8 d18_4 rfl rfl (by decide) (by decide) (by decide) (by decide) fun h105 a104 g106 z107 K108 A109 E110 => ?_
  have A111 : Ary Z h105 a104 .byte [.int 0, .int 0, .int 0, .int 0, .int 0, .int 0, .int 0, .int 0] := A109
  exact Go.retA d18_6 rfl rfl rfl (by decide) (by decide) ⟨a104, rfl, Nat.le_of_eq g106.symm, ((Keep.refl h0 []).trans K108 all0), A111⟩
theorem ef19n3 (mid : MethodId)  : entryFrame mid (List.toArray [.int (3 : Int32)]) 1 = mkF mid 0 #[.val (.int (3 : Int32))] [] := by first | (simp [entryFrame, mkF, argsToLocals, Value.category]; done) | rfl
def Q19n3 (h0 : Heap) (v : Option Value) (h : Heap) : Prop := v = some (.int (6 : Int32)) ∧ h0 = h
set_option maxRecDepth 65536 in
set_option maxHeartbeats 40000000 in
theorem c19n3 (Z : State) (hw : Wd Z tables_1) (h0 : Heap)    : Con Z B19 (List.toArray [.int (3 : Int32)]) h0 (Q19n3 h0) := by
  refine Con.mk hw pn19 (fun mid => ef19n3 mid ) (Go.old fun hle' => ?_)
  have hle := hle'.1
  refine Go.iloadN 1 rfl d19_0 rfl ?_
  refine Go.if_ge 12 4 d19_1 (by decide) rfl rfl (fun (b101 : ¬ (3 : Int32) < 0) => ?_) (fun (b101 : (3 : Int32) < 0) => ?_)
  · refine Go.iloadN 13 rfl d19_12 rfl ?_
    refine Go.ldcI 15 rfl (v := (1073741823 : Int32)) 104 d19_13 rfl ?_
    refine Go.icmp_lt 55 18 d19_15 (by decide) rfl rfl (fun (b102 : (3 : Int32) < (1073741823 : Int32)) => ?_) (fun (b102 : ¬ (3 : Int32) < (1073741823 : Int32)) => ?_)
    · refine Go.iloadN 56 rfl d19_55 rfl ?_
      refine Go.iconst 57 rfl (1 : Int32) d19_56 rfl ?_
      refine Go.ishl 58 rfl d19_57 ?_
      refine Go.eqI (w := 6) (by decide) ?_
      exact Go.retI d19_58 rfl (by decide) (by decide) ⟨rfl, rfl⟩
    · exact absurd (show (3 : Int32) < (1073741823 : Int32) from (by decide)) b102
  · exact absurd b101 (show ¬ (3 : Int32) < 0 from (by decide))
theorem ef18n3 (mid : MethodId)  : entryFrame mid (List.toArray [.int (3 : Int32)]) 1 = mkF mid 0 #[.val (.int (3 : Int32))] [] := by first | (simp [entryFrame, mkF, argsToLocals, Value.category]; done) | rfl
def Q18n3 (Z : State) (h0 : Heap) (v : Option Value) (h : Heap) : Prop := ∃ t, v = some (.ref t) ∧ h0.size ≤ t ∧ Keep h0 h [] ∧ Ary Z h t .byte (IL [0, 0, 0, 0, 0, 0])
set_option maxRecDepth 65536 in
set_option maxHeartbeats 40000000 in
theorem c18n3 (Z : State) (hw : Wd Z tables_1) (h0 : Heap)    : Con Z B18 (List.toArray [.int (3 : Int32)]) h0 (Q18n3 Z h0) := by
  refine Con.mk hw pn18 (fun mid => ef18n3 mid ) (Go.old fun hle' => ?_)
  have hle := hle'.1
  refine Go.iloadN 1 rfl d18_0 rfl ?_
  refine Go.callS 4 rfl (C := B19) [.int (3 : Int32)] (rest := []) 101 102 19 103 (c19n3 Z hw h0) d18_1 rfl rfl rfl rfl (by decide) pd19 rfl rfl rfl (W := 0) (Nat.le_of_ble_eq_true rfl) (by decide) (by decide) (by decide) (by decide) fun v101 h102 q103 => ?_
  obtain ⟨rfl, rfl⟩ := q103
  refine Go.newA 6 rfl 1 6 6 d18_4 rfl rfl (by decide) (by decide) (by decide) (by decide) fun h105 a104 g106 z107 K108 A109 E110 => ?_
  have A111 : Ary Z h105 a104 .byte [.int 0, .int 0, .int 0, .int 0, .int 0, .int 0] := A109
  exact Go.retA d18_6 rfl rfl rfl (by decide) (by decide) ⟨a104, rfl, Nat.le_of_eq g106.symm, ((Keep.refl h0 []).trans K108 all0), A111⟩
theorem ef19n2 (mid : MethodId)  : entryFrame mid (List.toArray [.int (2 : Int32)]) 1 = mkF mid 0 #[.val (.int (2 : Int32))] [] := by first | (simp [entryFrame, mkF, argsToLocals, Value.category]; done) | rfl
def Q19n2 (h0 : Heap) (v : Option Value) (h : Heap) : Prop := v = some (.int (4 : Int32)) ∧ h0 = h
set_option maxRecDepth 65536 in
set_option maxHeartbeats 40000000 in
theorem c19n2 (Z : State) (hw : Wd Z tables_1) (h0 : Heap)    : Con Z B19 (List.toArray [.int (2 : Int32)]) h0 (Q19n2 h0) := by
  refine Con.mk hw pn19 (fun mid => ef19n2 mid ) (Go.old fun hle' => ?_)
  have hle := hle'.1
  refine Go.iloadN 1 rfl d19_0 rfl ?_
  refine Go.if_ge 12 4 d19_1 (by decide) rfl rfl (fun (b101 : ¬ (2 : Int32) < 0) => ?_) (fun (b101 : (2 : Int32) < 0) => ?_)
  · refine Go.iloadN 13 rfl d19_12 rfl ?_
    refine Go.ldcI 15 rfl (v := (1073741823 : Int32)) 104 d19_13 rfl ?_
    refine Go.icmp_lt 55 18 d19_15 (by decide) rfl rfl (fun (b102 : (2 : Int32) < (1073741823 : Int32)) => ?_) (fun (b102 : ¬ (2 : Int32) < (1073741823 : Int32)) => ?_)
    · refine Go.iloadN 56 rfl d19_55 rfl ?_
      refine Go.iconst 57 rfl (1 : Int32) d19_56 rfl ?_
      refine Go.ishl 58 rfl d19_57 ?_
      refine Go.eqI (w := 4) (by decide) ?_
      exact Go.retI d19_58 rfl (by decide) (by decide) ⟨rfl, rfl⟩
    · exact absurd (show (2 : Int32) < (1073741823 : Int32) from (by decide)) b102
  · exact absurd b101 (show ¬ (2 : Int32) < 0 from (by decide))
theorem ef18n2 (mid : MethodId)  : entryFrame mid (List.toArray [.int (2 : Int32)]) 1 = mkF mid 0 #[.val (.int (2 : Int32))] [] := by first | (simp [entryFrame, mkF, argsToLocals, Value.category]; done) | rfl
def Q18n2 (Z : State) (h0 : Heap) (v : Option Value) (h : Heap) : Prop := ∃ t, v = some (.ref t) ∧ h0.size ≤ t ∧ Keep h0 h [] ∧ Ary Z h t .byte (IL [0, 0, 0, 0])
set_option maxRecDepth 65536 in
set_option maxHeartbeats 40000000 in
theorem c18n2 (Z : State) (hw : Wd Z tables_1) (h0 : Heap)    : Con Z B18 (List.toArray [.int (2 : Int32)]) h0 (Q18n2 Z h0) := by
  refine Con.mk hw pn18 (fun mid => ef18n2 mid ) (Go.old fun hle' => ?_)
  have hle := hle'.1
  refine Go.iloadN 1 rfl d18_0 rfl ?_
  refine Go.callS 4 rfl (C := B19) [.int (2 : Int32)] (rest := []) 101 102 19 103 (c19n2 Z hw h0) d18_1 rfl rfl rfl rfl (by decide) pd19 rfl rfl rfl (W := 0) (Nat.le_of_ble_eq_true rfl) (by decide) (by decide) (by decide) (by decide) fun v101 h102 q103 => ?_
  obtain ⟨rfl, rfl⟩ := q103
  refine Go.newA 6 rfl 1 4 4 d18_4 rfl rfl (by decide) (by decide) (by decide) (by decide) fun h105 a104 g106 z107 K108 A109 E110 => ?_
  have A111 : Ary Z h105 a104 .byte [.int 0, .int 0, .int 0, .int 0] := A109
  exact Go.retA d18_6 rfl rfl rfl (by decide) (by decide) ⟨a104, rfl, Nat.le_of_eq g106.symm, ((Keep.refl h0 []).trans K108 all0), A111⟩
theorem d17_0 : decode jdk_52_method_14_code 0 = .ok (.iload_n 2, 1) := by decide +kernel
theorem d17_1 : decode jdk_52_method_14_code 1 = .ok (.invokestatic 107, 3) := by decide +kernel
theorem d17_4 : decode jdk_52_method_14_code 4 = .ok (.astore_n 3, 1) := by decide +kernel
theorem d17_5 : decode jdk_52_method_14_code 5 = .ok (.iconst 0, 1) := by decide +kernel
theorem d17_6 : decode jdk_52_method_14_code 6 = .ok (.istore 4, 2) := by decide +kernel
theorem d17_8 : decode jdk_52_method_14_code 8 = .ok (.iload 4, 2) := by decide +kernel
theorem d17_10 : decode jdk_52_method_14_code 10 = .ok (.iload_n 2, 1) := by decide +kernel
theorem d17_11 : decode jdk_52_method_14_code 11 = .ok (.if_icmp .ge 21, 3) := by decide +kernel
theorem d17_14 : decode jdk_52_method_14_code 14 = .ok (.aload_n 3, 1) := by decide +kernel
theorem d17_15 : decode jdk_52_method_14_code 15 = .ok (.iload 4, 2) := by decide +kernel
theorem d17_17 : decode jdk_52_method_14_code 17 = .ok (.aload_n 0, 1) := by decide +kernel
theorem d17_18 : decode jdk_52_method_14_code 18 = .ok (.iload_n 1, 1) := by decide +kernel
theorem d17_19 : decode jdk_52_method_14_code 19 = .ok (.caload, 1) := by decide +kernel
theorem d17_20 : decode jdk_52_method_14_code 20 = .ok (.invokestatic 111, 3) := by decide +kernel
theorem d17_23 : decode jdk_52_method_14_code 23 = .ok (.iinc 1 1, 3) := by decide +kernel
theorem d17_26 : decode jdk_52_method_14_code 26 = .ok (.iinc 4 1, 3) := by decide +kernel
theorem d17_29 : decode jdk_52_method_14_code 29 = .ok (.goto (-21), 3) := by decide +kernel
theorem d17_32 : decode jdk_52_method_14_code 32 = .ok (.aload_n 3, 1) := by decide +kernel
theorem d17_33 : decode jdk_52_method_14_code 33 = .ok (.areturn, 1) := by decide +kernel
theorem pd17 : parseMethodDescriptor "([CII)[B" = some ⟨[(.array .char), .int, .int], some (.array .byte)⟩ := by decide +kernel
theorem pn17 : plainFor (⟨"java/lang/StringUTF16", "toBytes", "([CII)[B"⟩ : MethodName) = true := by first | (refine plainFor_of_name ?_; simp [plainName, overriddenIn]; done) | (refine plainFor_of_name ?_; decide +kernel) | decide +kernel
abbrev B17 : Bd := ((⟨"java/lang/StringUTF16", "toBytes", "([CII)[B"⟩ : MethodName), jdk_52_method_14_code, 5, (some (.array .byte)), ({ frames := 2, cells := 1, slots := 10, locals := 24 } : Room), tables_1)
theorem ef17n3 (mid : MethodId) (s : Addr) : entryFrame mid (List.toArray [.ref s, .int (0 : Int32), .int (3 : Int32)]) 5 = mkF mid 0 #[.val (.ref s), .val (.int (0 : Int32)), .val (.int (3 : Int32)), .unset, .unset] [] := by first | (simp [entryFrame, mkF, argsToLocals, Value.category]; done) | rfl
def Q17n3 (Z : State) (x0 : Int32) (x1 : Int32) (x2 : Int32) (h0 : Heap) (v : Option Value) (h : Heap) : Prop := ∃ t, v = some (.ref t) ∧ h0.size ≤ t ∧ Keep h0 h [] ∧ Ary Z h t .byte (IL [lo x0, hi x0, lo x1, hi x1, lo x2, hi x2])
set_option maxRecDepth 65536 in
set_option maxHeartbeats 40000000 in
theorem c17n3 (Z : State) (hw : Wd Z tables_1) (h0 : Heap) (s : Addr) (x0 : Int32) (x1 : Int32) (x2 : Int32) (hAs : Sta Z Z.heap "java/lang/StringUTF16" "$assertionsDisabled" "Z" (.int 1)) (hHi : Sta Z Z.heap "java/lang/StringUTF16" "HI_BYTE_SHIFT" "I" (.int 0)) (hLo : Sta Z Z.heap "java/lang/StringUTF16" "LO_BYTE_SHIFT" "I" (.int 8)) (hA : Ary Z h0 s .char [.int x0, .int x1, .int x2]) : Con Z B17 (List.toArray [.ref s, .int (0 : Int32), .int (3 : Int32)]) h0 (Q17n3 Z x0 x1 x2 h0) := by
  refine Con.mk hw pn17 (fun mid => ef17n3 mid s) (Go.old fun hle' => ?_)
  have hle := hle'.1
  refine Go.iloadN 1 rfl d17_0 rfl ?_
  refine Go.callS 4 rfl (C := B18) [.int (3 : Int32)] (rest := []) 98 99 19 100 (c18n3 Z hw h0) d17_1 rfl rfl rfl rfl (by decide) pd18 rfl rfl rfl (W := 0) (Nat.le_of_ble_eq_true rfl) (by decide) (by decide) (by decide) (by decide) fun v101 h102 q103 => ?_
  obtain ⟨t, rfl, g, K, A⟩ := q103
  have z104 : Z.heap.size ≤ t := Nat.le_trans hle g
  refine Go.astoreN 5 rfl d17_4 rfl (Ls' := #[.val (.ref s), .val (.int (0 : Int32)), .val (.int (3 : Int32)), .val (.ref t), .unset]) rfl ?_
  refine Go.iconst 6 rfl (0 : Int32) d17_5 rfl ?_
  refine Go.istore 8 rfl d17_6 (Ls' := #[.val (.ref s), .val (.int (0 : Int32)), .val (.int (3 : Int32)), .val (.ref t), .val (.int (0 : Int32))]) rfl ?_
  refine Go.iload 10 rfl d17_8 rfl ?_
  refine Go.iloadN 11 rfl d17_10 rfl ?_
  refine Go.icmp_ge 32 14 d17_11 (by decide) rfl rfl (fun (b105 : ¬ (0 : Int32) < (3 : Int32)) => ?_) (fun (b105 : (0 : Int32) < (3 : Int32)) => ?_)
  · exact absurd (show (0 : Int32) < (3 : Int32) from (by decide)) b105
  · refine Go.aloadN 15 rfl d17_14 rfl rfl ?_
    refine Go.iload 17 rfl d17_15 rfl ?_
    refine Go.aloadN 18 rfl d17_17 rfl rfl ?_
    refine Go.iloadN 19 rfl d17_18 rfl ?_
    have F106 : Ary Z h102 s .char [.int x0, .int x1, .int x2] := (hA.keep K nin0)
    refine Go.caload 20 rfl x0 d17_19 F106 0 rfl rfl ?_
    refine Go.callS 23 rfl (C := B20) [.ref t, .int (0 : Int32), .int x0] (rest := []) 105 106 19 107 (c20 Z hw h102 t (0 : Int32) x0 [0, 0, 0, 0, 0, 0] 0 rfl (by decide) hAs hHi hLo z104 (Nat.le_of_ble_eq_true rfl) A) d17_20 rfl rfl rfl rfl (by decide) pd20 rfl rfl rfl (W := 0) (Nat.le_of_ble_eq_true rfl) (by decide) (by decide) (by decide) (by decide) fun v107 h108 q109 => ?_
    obtain ⟨rfl, K110, A111⟩ := q109
    have A112 : Ary Z h108 t .byte (IL [lo x0, hi x0, 0, 0, 0, 0]) := A111
    refine Go.iinc 26 rfl (1 : Int32) d17_23 rfl rfl (Ls' := #[.val (.ref s), .val (.int ((0 : Int32) + (1 : Int32))), .val (.int (3 : Int32)), .val (.ref t), .val (.int (0 : Int32))]) rfl ?_
    refine Go.iinc 29 rfl (1 : Int32) d17_26 rfl rfl (Ls' := #[.val (.ref s), .val (.int ((0 : Int32) + (1 : Int32))), .val (.int (3 : Int32)), .val (.ref t), .val (.int ((0 : Int32) + (1 : Int32)))]) rfl ?_
    refine Go.goto 8 d17_29 (by decide) (by decide) ?_
    refine Go.iload 10 rfl d17_8 rfl ?_
    refine Go.iloadN 11 rfl d17_10 rfl ?_
    refine Go.icmp_ge 32 14 d17_11 (by decide) rfl rfl (fun (b113 : ¬ ((0 : Int32) + (1 : Int32)) < (3 : Int32)) => ?_) (fun (b113 : ((0 : Int32) + (1 : Int32)) < (3 : Int32)) => ?_)
    · exact absurd (show ((0 : Int32) + (1 : Int32)) < (3 : Int32) from (by decide)) b113
    · refine Go.aloadN 15 rfl d17_14 rfl rfl ?_
      refine Go.iload 17 rfl d17_15 rfl ?_
      refine Go.aloadN 18 rfl d17_17 rfl rfl ?_
      refine Go.iloadN 19 rfl d17_18 rfl ?_
      have ne114 : s ≠ t := (show @Ne Nat s t from by have := ltN hA.lt; have := g; omega)
      have F115 : Ary Z h108 s .char [.int x0, .int x1, .int x2] := (F106.keep K110 (ninS ne114 nin0))
      refine Go.caload 20 rfl x1 d17_19 F115 1 rfl rfl ?_
      refine Go.callS 23 rfl (C := B20) [.ref t, .int ((0 : Int32) + (1 : Int32)), .int x1] (rest := []) 105 106 19 107 (c20 Z hw h108 t ((0 : Int32) + (1 : Int32)) x1 [lo x0, hi x0, 0, 0, 0, 0] 1 rfl (by decide) hAs hHi hLo z104 (Nat.le_of_ble_eq_true rfl) A112) d17_20 rfl rfl rfl rfl (by decide) pd20 rfl rfl rfl (W := 0) (Nat.le_of_ble_eq_true rfl) (by decide) (by decide) (by decide) (by decide) fun v116 h117 q118 => ?_
      obtain ⟨rfl, K119, A120⟩ := q118
      have A121 : Ary Z h117 t .byte (IL [lo x0, hi x0, lo x1, hi x1, 0, 0]) := A120
      refine Go.iinc 26 rfl (1 : Int32) d17_23 rfl rfl (Ls' := #[.val (.ref s), .val (.int (((0 : Int32) + (1 : Int32)) + (1 : Int32))), .val (.int (3 : Int32)), .val (.ref t), .val (.int ((0 : Int32) + (1 : Int32)))]) rfl ?_
      refine Go.iinc 29 rfl (1 : Int32) d17_26 rfl rfl (Ls' := #[.val (.ref s), .val (.int (((0 : Int32) + (1 : Int32)) + (1 : Int32))), .val (.int (3 : Int32)), .val (.ref t), .val (.int (((0 : Int32) + (1 : Int32)) + (1 : Int32)))]) rfl ?_
      refine Go.goto 8 d17_29 (by decide) (by decide) ?_
      refine Go.iload 10 rfl d17_8 rfl ?_
      refine Go.iloadN 11 rfl d17_10 rfl ?_
      refine Go.icmp_ge 32 14 d17_11 (by decide) rfl rfl (fun (b122 : ¬ (((0 : Int32) + (1 : Int32)) + (1 : Int32)) < (3 : Int32)) => ?_) (fun (b122 : (((0 : Int32) + (1 : Int32)) + (1 : Int32)) < (3 : Int32)) => ?_)
      · exact absurd (show (((0 : Int32) + (1 : Int32)) + (1 : Int32)) < (3 : Int32) from (by decide)) b122
      · refine Go.aloadN 15 rfl d17_14 rfl rfl ?_
        refine Go.iload 17 rfl d17_15 rfl ?_
        refine Go.aloadN 18 rfl d17_17 rfl rfl ?_
        refine Go.iloadN 19 rfl d17_18 rfl ?_
        have F123 : Ary Z h117 s .char [.int x0, .int x1, .int x2] := (F115.keep K119 (ninS ne114 nin0))
        refine Go.caload 20 rfl x2 d17_19 F123 2 rfl rfl ?_
        refine Go.callS 23 rfl (C := B20) [.ref t, .int (((0 : Int32) + (1 : Int32)) + (1 : Int32)), .int x2] (rest := []) 105 106 19 107 (c20 Z hw h117 t (((0 : Int32) + (1 : Int32)) + (1 : Int32)) x2 [lo x0, hi x0, lo x1, hi x1, 0, 0] 2 rfl (by decide) hAs hHi hLo z104 (Nat.le_of_ble_eq_true rfl) A121) d17_20 rfl rfl rfl rfl (by decide) pd20 rfl rfl rfl (W := 0) (Nat.le_of_ble_eq_true rfl) (by decide) (by decide) (by decide) (by decide) fun v124 h125 q126 => ?_
        obtain ⟨rfl, K127, A128⟩ := q126
        have A129 : Ary Z h125 t .byte (IL [lo x0, hi x0, lo x1, hi x1, lo x2, hi x2]) := A128
        refine Go.iinc 26 rfl (1 : Int32) d17_23 rfl rfl (Ls' := #[.val (.ref s), .val (.int ((((0 : Int32) + (1 : Int32)) + (1 : Int32)) + (1 : Int32))), .val (.int (3 : Int32)), .val (.ref t), .val (.int (((0 : Int32) + (1 : Int32)) + (1 : Int32)))]) rfl ?_
        refine Go.iinc 29 rfl (1 : Int32) d17_26 rfl rfl (Ls' := #[.val (.ref s), .val (.int ((((0 : Int32) + (1 : Int32)) + (1 : Int32)) + (1 : Int32))), .val (.int (3 : Int32)), .val (.ref t), .val (.int ((((0 : Int32) + (1 : Int32)) + (1 : Int32)) + (1 : Int32)))]) rfl ?_
        refine Go.goto 8 d17_29 (by decide) (by decide) ?_
        refine Go.iload 10 rfl d17_8 rfl ?_
        refine Go.iloadN 11 rfl d17_10 rfl ?_
        refine Go.icmp_ge 32 14 d17_11 (by decide) rfl rfl (fun (b130 : ¬ ((((0 : Int32) + (1 : Int32)) + (1 : Int32)) + (1 : Int32)) < (3 : Int32)) => ?_) (fun (b130 : ((((0 : Int32) + (1 : Int32)) + (1 : Int32)) + (1 : Int32)) < (3 : Int32)) => ?_)
        · refine Go.aloadN 33 rfl d17_32 rfl rfl ?_
          have kc131 : Keep h0 h125 [] := (((((Keep.refl h0 []).trans K all0).trans K110 (allS (Or.inr g) all0)).trans K119 (allS (Or.inr g) all0)).trans K127 (allS (Or.inr g) all0))
          exact Go.retA d17_33 rfl rfl rfl (by decide) (by decide) ⟨t, rfl, g, kc131, A129⟩
        · exact absurd b130 (show ¬ ((((0 : Int32) + (1 : Int32)) + (1 : Int32)) + (1 : Int32)) < (3 : Int32) from (by decide))
theorem d5_0 : decode jdk_52_method_21_code 0 = .ok (.iconst 0, 1) := by decide +kernel
theorem d5_1 : decode jdk_52_method_21_code 1 = .ok (.istore 5, 2) := by decide +kernel
theorem d5_3 : decode jdk_52_method_21_code 3 = .ok (.iload 5, 2) := by decide +kernel
theorem d5_5 : decode jdk_52_method_21_code 5 = .ok (.iload 4, 2) := by decide +kernel
theorem d5_7 : decode jdk_52_method_21_code 7 = .ok (.if_icmp .ge 37, 3) := by decide +kernel
theorem d5_10 : decode jdk_52_method_21_code 10 = .ok (.aload_n 0, 1) := by decide +kernel
theorem d5_11 : decode jdk_52_method_21_code 11 = .ok (.iload_n 1, 1) := by decide +kernel
theorem d5_12 : decode jdk_52_method_21_code 12 = .ok (.caload, 1) := by decide +kernel
theorem d5_13 : decode jdk_52_method_21_code 13 = .ok (.istore 6, 2) := by decide +kernel
theorem d5_15 : decode jdk_52_method_21_code 15 = .ok (.iload 6, 2) := by decide +kernel
theorem d5_17 : decode jdk_52_method_21_code 17 = .ok (.sipush 255, 3) := by decide +kernel
theorem d5_20 : decode jdk_52_method_21_code 20 = .ok (.if_icmp .le 6, 3) := by decide +kernel
theorem d5_23 : decode jdk_52_method_21_code 23 = .ok (.iload 5, 2) := by decide +kernel
theorem d5_25 : decode jdk_52_method_21_code 25 = .ok (.ireturn, 1) := by decide +kernel
theorem d5_26 : decode jdk_52_method_21_code 26 = .ok (.aload_n 2, 1) := by decide +kernel
theorem d5_27 : decode jdk_52_method_21_code 27 = .ok (.iload_n 3, 1) := by decide +kernel
theorem d5_28 : decode jdk_52_method_21_code 28 = .ok (.iload 6, 2) := by decide +kernel
theorem d5_30 : decode jdk_52_method_21_code 30 = .ok (.i2b, 1) := by decide +kernel
theorem d5_31 : decode jdk_52_method_21_code 31 = .ok (.bastore, 1) := by decide +kernel
theorem d5_32 : decode jdk_52_method_21_code 32 = .ok (.iinc 1 1, 3) := by decide +kernel
theorem d5_35 : decode jdk_52_method_21_code 35 = .ok (.iinc 3 1, 3) := by decide +kernel
theorem d5_38 : decode jdk_52_method_21_code 38 = .ok (.iinc 5 1, 3) := by decide +kernel
theorem d5_41 : decode jdk_52_method_21_code 41 = .ok (.goto (-38), 3) := by decide +kernel
theorem d5_44 : decode jdk_52_method_21_code 44 = .ok (.iload 4, 2) := by decide +kernel
theorem d5_46 : decode jdk_52_method_21_code 46 = .ok (.ireturn, 1) := by decide +kernel
theorem pd5 : parseMethodDescriptor "([CI[BII)I" = some ⟨[(.array .char), .int, (.array .byte), .int, .int], some .int⟩ := by decide +kernel
theorem pn5 : plainFor (⟨"java/lang/StringUTF16", "compress", "([CI[BII)I"⟩ : MethodName) = true := by first | (refine plainFor_of_name ?_; simp [plainName, overriddenIn]; done) | (refine plainFor_of_name ?_; decide +kernel) | decide +kernel
abbrev B5 : Bd := ((⟨"java/lang/StringUTF16", "compress", "([CI[BII)I"⟩ : MethodName), jdk_52_method_21_code, 7, (some .int), ({ frames := 0, cells := 0, slots := 0, locals := 0 } : Room), tables_1)
theorem ef5n3 (mid : MethodId) (s : Addr) (t : Addr) : entryFrame mid (List.toArray [.ref s, .int (0 : Int32), .ref t, .int (0 : Int32), .int (3 : Int32)]) 7 = mkF mid 0 #[.val (.ref s), .val (.int (0 : Int32)), .val (.ref t), .val (.int (0 : Int32)), .val (.int (3 : Int32)), .unset, .unset] [] := by first | (simp [entryFrame, mkF, argsToLocals, Value.category]; done) | rfl
def Q5n3 (Z : State) (t : Addr) (x0 : Int32) (x1 : Int32) (x2 : Int32) (h0 : Heap) (v : Option Value) (h : Heap) : Prop := ∃ r, v = some (.int r) ∧ Keep h0 h [t] ∧ ((r = (3 : Int32) ∧ ¬ (255 : Int32) < x0 ∧ ¬ (255 : Int32) < x1 ∧ ¬ (255 : Int32) < x2 ∧ Ary Z h t .byte (IL [l1 x0, l1 x1, l1 x2])) ∨ ∃ i : Nat, i < 3 ∧ r = Int32.ofNat i ∧ (255 : Int32) < ([x0, x1, x2] : List Int32).getD i 0)
set_option maxRecDepth 65536 in
set_option maxHeartbeats 40000000 in
theorem c5n3 (Z : State) (hw : Wd Z tables_1) (h0 : Heap) (s : Addr) (t : Addr) (x0 : Int32) (x1 : Int32) (x2 : Int32) (hA : Ary Z h0 s .char [.int x0, .int x1, .int x2]) (hB : Ary Z h0 t .byte [.int 0, .int 0, .int 0]) (hgt : Z.heap.size ≤ t) (hne : s ≠ t) : Con Z B5 (List.toArray [.ref s, .int (0 : Int32), .ref t, .int (0 : Int32), .int (3 : Int32)]) h0 (Q5n3 Z t x0 x1 x2 h0) := by
  refine Con.mk hw pn5 (fun mid => ef5n3 mid s t) (Go.old fun hle' => ?_)
  have hle := hle'.1
  refine Go.iconst 1 rfl (0 : Int32) d5_0 rfl ?_
  refine Go.istore 3 rfl d5_1 (Ls' := #[.val (.ref s), .val (.int (0 : Int32)), .val (.ref t), .val (.int (0 : Int32)), .val (.int (3 : Int32)), .val (.int (0 : Int32)), .unset]) rfl ?_
  refine Go.iload 5 rfl d5_3 rfl ?_
  refine Go.iload 7 rfl d5_5 rfl ?_
  refine Go.icmp_ge 44 10 d5_7 (by decide) rfl rfl (fun (b101 : ¬ (0 : Int32) < (3 : Int32)) => ?_) (fun (b101 : (0 : Int32) < (3 : Int32)) => ?_)
  · exact absurd (show (0 : Int32) < (3 : Int32) from (by decide)) b101
  · refine Go.aloadN 11 rfl d5_10 rfl rfl ?_
    refine Go.iloadN 12 rfl d5_11 rfl ?_
    refine Go.caload 13 rfl x0 d5_12 hA 0 rfl rfl ?_
    refine Go.istore 15 rfl d5_13 (Ls' := #[.val (.ref s), .val (.int (0 : Int32)), .val (.ref t), .val (.int (0 : Int32)), .val (.int (3 : Int32)), .val (.int (0 : Int32)), .val (.int x0)]) rfl ?_
    refine Go.iload 17 rfl d5_15 rfl ?_
    refine Go.sipush 20 rfl (255 : Int32) d5_17 rfl ?_
    refine Go.icmp_le 26 23 d5_20 (by decide) rfl rfl (fun (b102 : ¬ (255 : Int32) < x0) => ?_) (fun (b102 : (255 : Int32) < x0) => ?_)
    · refine Go.aloadN 27 rfl d5_26 rfl rfl ?_
      refine Go.iloadN 28 rfl d5_27 rfl ?_
      refine Go.iload 30 rfl d5_28 rfl ?_
      refine Go.i2b 31 rfl d5_30 ?_
      refine Go.stB 32 rfl d5_31 hB 0 rfl (Nat.le_of_ble_eq_true rfl) hgt fun h103 K104 A105 => ?_
      have A106 : Ary Z h103 t .byte [.int (nar .byte x0.toInt8.toInt32), .int 0, .int 0] := A105
      refine Go.iinc 35 rfl (1 : Int32) d5_32 rfl rfl (Ls' := #[.val (.ref s), .val (.int ((0 : Int32) + (1 : Int32))), .val (.ref t), .val (.int (0 : Int32)), .val (.int (3 : Int32)), .val (.int (0 : Int32)), .val (.int x0)]) rfl ?_
      refine Go.iinc 38 rfl (1 : Int32) d5_35 rfl rfl (Ls' := #[.val (.ref s), .val (.int ((0 : Int32) + (1 : Int32))), .val (.ref t), .val (.int ((0 : Int32) + (1 : Int32))), .val (.int (3 : Int32)), .val (.int (0 : Int32)), .val (.int x0)]) rfl ?_
      refine Go.iinc 41 rfl (1 : Int32) d5_38 rfl rfl (Ls' := #[.val (.ref s), .val (.int ((0 : Int32) + (1 : Int32))), .val (.ref t), .val (.int ((0 : Int32) + (1 : Int32))), .val (.int (3 : Int32)), .val (.int ((0 : Int32) + (1 : Int32))), .val (.int x0)]) rfl ?_
      refine Go.goto 3 d5_41 (by decide) (by decide) ?_
      refine Go.iload 5 rfl d5_3 rfl ?_
      refine Go.iload 7 rfl d5_5 rfl ?_
      refine Go.icmp_ge 44 10 d5_7 (by decide) rfl rfl (fun (b107 : ¬ ((0 : Int32) + (1 : Int32)) < (3 : Int32)) => ?_) (fun (b107 : ((0 : Int32) + (1 : Int32)) < (3 : Int32)) => ?_)
      · exact absurd (show ((0 : Int32) + (1 : Int32)) < (3 : Int32) from (by decide)) b107
      · refine Go.aloadN 11 rfl d5_10 rfl rfl ?_
        refine Go.iloadN 12 rfl d5_11 rfl ?_
        have F108 : Ary Z h103 s .char [.int x0, .int x1, .int x2] := (hA.keep K104 (ninS hne nin0))
        refine Go.caload 13 rfl x1 d5_12 F108 1 rfl rfl ?_
        refine Go.istore 15 rfl d5_13 (Ls' := #[.val (.ref s), .val (.int ((0 : Int32) + (1 : Int32))), .val (.ref t), .val (.int ((0 : Int32) + (1 : Int32))), .val (.int (3 : Int32)), .val (.int ((0 : Int32) + (1 : Int32))), .val (.int x1)]) rfl ?_
        refine Go.iload 17 rfl d5_15 rfl ?_
        refine Go.sipush 20 rfl (255 : Int32) d5_17 rfl ?_
        refine Go.icmp_le 26 23 d5_20 (by decide) rfl rfl (fun (b109 : ¬ (255 : Int32) < x1) => ?_) (fun (b109 : (255 : Int32) < x1) => ?_)
        · refine Go.aloadN 27 rfl d5_26 rfl rfl ?_
          refine Go.iloadN 28 rfl d5_27 rfl ?_
          refine Go.iload 30 rfl d5_28 rfl ?_
          refine Go.i2b 31 rfl d5_30 ?_
          refine Go.stB 32 rfl d5_31 A106 1 rfl (Nat.le_of_ble_eq_true rfl) hgt fun h110 K111 A112 => ?_
          have A113 : Ary Z h110 t .byte [.int (nar .byte x0.toInt8.toInt32), .int (nar .byte x1.toInt8.toInt32), .int 0] := A112
          refine Go.iinc 35 rfl (1 : Int32) d5_32 rfl rfl (Ls' := #[.val (.ref s), .val (.int (((0 : Int32) + (1 : Int32)) + (1 : Int32))), .val (.ref t), .val (.int ((0 : Int32) + (1 : Int32))), .val (.int (3 : Int32)), .val (.int ((0 : Int32) + (1 : Int32))), .val (.int x1)]) rfl ?_
          refine Go.iinc 38 rfl (1 : Int32) d5_35 rfl rfl (Ls' := #[.val (.ref s), .val (.int (((0 : Int32) + (1 : Int32)) + (1 : Int32))), .val (.ref t), .val (.int (((0 : Int32) + (1 : Int32)) + (1 : Int32))), .val (.int (3 : Int32)), .val (.int ((0 : Int32) + (1 : Int32))), .val (.int x1)]) rfl ?_
          refine Go.iinc 41 rfl (1 : Int32) d5_38 rfl rfl (Ls' := #[.val (.ref s), .val (.int (((0 : Int32) + (1 : Int32)) + (1 : Int32))), .val (.ref t), .val (.int (((0 : Int32) + (1 : Int32)) + (1 : Int32))), .val (.int (3 : Int32)), .val (.int (((0 : Int32) + (1 : Int32)) + (1 : Int32))), .val (.int x1)]) rfl ?_
          refine Go.goto 3 d5_41 (by decide) (by decide) ?_
          refine Go.iload 5 rfl d5_3 rfl ?_
          refine Go.iload 7 rfl d5_5 rfl ?_
          refine Go.icmp_ge 44 10 d5_7 (by decide) rfl rfl (fun (b114 : ¬ (((0 : Int32) + (1 : Int32)) + (1 : Int32)) < (3 : Int32)) => ?_) (fun (b114 : (((0 : Int32) + (1 : Int32)) + (1 : Int32)) < (3 : Int32)) => ?_)
          · exact absurd (show (((0 : Int32) + (1 : Int32)) + (1 : Int32)) < (3 : Int32) from (by decide)) b114
          · refine Go.aloadN 11 rfl d5_10 rfl rfl ?_
            refine Go.iloadN 12 rfl d5_11 rfl ?_
            have F115 : Ary Z h110 s .char [.int x0, .int x1, .int x2] := (F108.keep K111 (ninS hne nin0))
            refine Go.caload 13 rfl x2 d5_12 F115 2 rfl rfl ?_
            refine Go.istore 15 rfl d5_13 (Ls' := #[.val (.ref s), .val (.int (((0 : Int32) + (1 : Int32)) + (1 : Int32))), .val (.ref t), .val (.int (((0 : Int32) + (1 : Int32)) + (1 : Int32))), .val (.int (3 : Int32)), .val (.int (((0 : Int32) + (1 : Int32)) + (1 : Int32))), .val (.int x2)]) rfl ?_
            refine Go.iload 17 rfl d5_15 rfl ?_
            refine Go.sipush 20 rfl (255 : Int32) d5_17 rfl ?_
            refine Go.icmp_le 26 23 d5_20 (by decide) rfl rfl (fun (b116 : ¬ (255 : Int32) < x2) => ?_) (fun (b116 : (255 : Int32) < x2) => ?_)
            · refine Go.aloadN 27 rfl d5_26 rfl rfl ?_
              refine Go.iloadN 28 rfl d5_27 rfl ?_
              refine Go.iload 30 rfl d5_28 rfl ?_
              refine Go.i2b 31 rfl d5_30 ?_
              refine Go.stB 32 rfl d5_31 A113 2 rfl (Nat.le_of_ble_eq_true rfl) hgt fun h117 K118 A119 => ?_
              have A120 : Ary Z h117 t .byte [.int (nar .byte x0.toInt8.toInt32), .int (nar .byte x1.toInt8.toInt32), .int (nar .byte x2.toInt8.toInt32)] := A119
              refine Go.iinc 35 rfl (1 : Int32) d5_32 rfl rfl (Ls' := #[.val (.ref s), .val (.int ((((0 : Int32) + (1 : Int32)) + (1 : Int32)) + (1 : Int32))), .val (.ref t), .val (.int (((0 : Int32) + (1 : Int32)) + (1 : Int32))), .val (.int (3 : Int32)), .val (.int (((0 : Int32) + (1 : Int32)) + (1 : Int32))), .val (.int x2)]) rfl ?_
              refine Go.iinc 38 rfl (1 : Int32) d5_35 rfl rfl (Ls' := #[.val (.ref s), .val (.int ((((0 : Int32) + (1 : Int32)) + (1 : Int32)) + (1 : Int32))), .val (.ref t), .val (.int ((((0 : Int32) + (1 : Int32)) + (1 : Int32)) + (1 : Int32))), .val (.int (3 : Int32)), .val (.int (((0 : Int32) + (1 : Int32)) + (1 : Int32))), .val (.int x2)]) rfl ?_
              refine Go.iinc 41 rfl (1 : Int32) d5_38 rfl rfl (Ls' := #[.val (.ref s), .val (.int ((((0 : Int32) + (1 : Int32)) + (1 : Int32)) + (1 : Int32))), .val (.ref t), .val (.int ((((0 : Int32) + (1 : Int32)) + (1 : Int32)) + (1 : Int32))), .val (.int (3 : Int32)), .val (.int ((((0 : Int32) + (1 : Int32)) + (1 : Int32)) + (1 : Int32))), .val (.int x2)]) rfl ?_
              refine Go.goto 3 d5_41 (by decide) (by decide) ?_
              refine Go.iload 5 rfl d5_3 rfl ?_
              refine Go.iload 7 rfl d5_5 rfl ?_
              refine Go.icmp_ge 44 10 d5_7 (by decide) rfl rfl (fun (b121 : ¬ ((((0 : Int32) + (1 : Int32)) + (1 : Int32)) + (1 : Int32)) < (3 : Int32)) => ?_) (fun (b121 : ((((0 : Int32) + (1 : Int32)) + (1 : Int32)) + (1 : Int32)) < (3 : Int32)) => ?_)
              · refine Go.iload 46 rfl d5_44 rfl ?_
                have kc122 : Keep h0 h117 [t] := ((((Keep.refl h0 [t]).trans K104 (by simp)).trans K111 (by simp)).trans K118 (by simp))
                exact Go.retI d5_46 rfl (by decide) (by decide) ⟨_, rfl, kc122, Or.inl ⟨rfl, b102, b109, b116, A120⟩⟩
              · exact absurd b121 (show ¬ ((((0 : Int32) + (1 : Int32)) + (1 : Int32)) + (1 : Int32)) < (3 : Int32) from (by decide))
            · refine Go.iload 25 rfl d5_23 rfl ?_
              refine Go.eqI (w := 2) (by decide) ?_
              exact Go.retI d5_25 rfl (by decide) (by decide) ⟨_, rfl, (((Keep.refl h0 [t]).trans K104 (by simp)).trans K111 (by simp)), Or.inr ⟨2, by decide, rfl, b116⟩⟩
        · refine Go.iload 25 rfl d5_23 rfl ?_
          refine Go.eqI (w := 1) (by decide) ?_
          exact Go.retI d5_25 rfl (by decide) (by decide) ⟨_, rfl, ((Keep.refl h0 [t]).trans K104 (by simp)), Or.inr ⟨1, by decide, rfl, b109⟩⟩
    · refine Go.iload 25 rfl d5_23 rfl ?_
      refine Go.eqI (w := 0) (by decide) ?_
      exact Go.retI d5_25 rfl (by decide) (by decide) ⟨_, rfl, (Keep.refl h0 [t]), Or.inr ⟨0, by decide, rfl, b102⟩⟩
theorem d4_0 : decode jdk_52_method_16_code 0 = .ok (.iload_n 2, 1) := by decide +kernel
theorem d4_1 : decode jdk_52_method_16_code 1 = .ok (.newarray .byte, 2) := by decide +kernel
theorem d4_3 : decode jdk_52_method_16_code 3 = .ok (.astore_n 3, 1) := by decide +kernel
theorem d4_4 : decode jdk_52_method_16_code 4 = .ok (.aload_n 0, 1) := by decide +kernel
theorem d4_5 : decode jdk_52_method_16_code 5 = .ok (.iload_n 1, 1) := by decide +kernel
theorem d4_6 : decode jdk_52_method_16_code 6 = .ok (.aload_n 3, 1) := by decide +kernel
theorem d4_7 : decode jdk_52_method_16_code 7 = .ok (.iconst 0, 1) := by decide +kernel
theorem d4_8 : decode jdk_52_method_16_code 8 = .ok (.iload_n 2, 1) := by decide +kernel
theorem d4_9 : decode jdk_52_method_16_code 9 = .ok (.invokestatic 115, 3) := by decide +kernel
theorem d4_12 : decode jdk_52_method_16_code 12 = .ok (.istore 4, 2) := by decide +kernel
theorem d4_14 : decode jdk_52_method_16_code 14 = .ok (.iload 4, 2) := by decide +kernel
theorem d4_16 : decode jdk_52_method_16_code 16 = .ok (.iload_n 2, 1) := by decide +kernel
theorem d4_17 : decode jdk_52_method_16_code 17 = .ok (.if_icmp .eq 40, 3) := by decide +kernel
theorem d4_20 : decode jdk_52_method_16_code 20 = .ok (.aload_n 0, 1) := by decide +kernel
theorem d4_21 : decode jdk_52_method_16_code 21 = .ok (.iload_n 1, 1) := by decide +kernel
theorem d4_22 : decode jdk_52_method_16_code 22 = .ok (.iload_n 2, 1) := by decide +kernel
theorem d4_23 : decode jdk_52_method_16_code 23 = .ok (.invokestatic 119, 3) := by decide +kernel
theorem d4_26 : decode jdk_52_method_16_code 26 = .ok (.astore 5, 2) := by decide +kernel
theorem d4_28 : decode jdk_52_method_16_code 28 = .ok (.aload 5, 2) := by decide +kernel
theorem d4_30 : decode jdk_52_method_16_code 30 = .ok (.iload 4, 2) := by decide +kernel
theorem d4_32 : decode jdk_52_method_16_code 32 = .ok (.invokestatic 71, 3) := by decide +kernel
theorem d4_35 : decode jdk_52_method_16_code 35 = .ok (.sipush 255, 3) := by decide +kernel
theorem d4_38 : decode jdk_52_method_16_code 38 = .ok (.if_icmp .gt 16, 3) := by decide +kernel
theorem d4_54 : decode jdk_52_method_16_code 54 = .ok (.aload 5, 2) := by decide +kernel
theorem d4_56 : decode jdk_52_method_16_code 56 = .ok (.areturn, 1) := by decide +kernel
theorem d4_57 : decode jdk_52_method_16_code 57 = .ok (.aload_n 3, 1) := by decide +kernel
theorem d4_58 : decode jdk_52_method_16_code 58 = .ok (.areturn, 1) := by decide +kernel
theorem pd4 : parseMethodDescriptor "([CII)[B" = some ⟨[(.array .char), .int, .int], some (.array .byte)⟩ := by decide +kernel
theorem pn4 : plainFor (⟨"java/lang/StringUTF16", "compress", "([CII)[B"⟩ : MethodName) = true := by first | (refine plainFor_of_name ?_; simp [plainName, overriddenIn]; done) | (refine plainFor_of_name ?_; decide +kernel) | decide +kernel
abbrev B4 : Bd := ((⟨"java/lang/StringUTF16", "compress", "([CII)[B"⟩ : MethodName), jdk_52_method_16_code, 6, (some (.array .byte)), ({ frames := 3, cells := 2, slots := 13, locals := 40 } : Room), tables_1)
theorem ef4n3 (mid : MethodId) (s : Addr) : entryFrame mid (List.toArray [.ref s, .int (0 : Int32), .int (3 : Int32)]) 6 = mkF mid 0 #[.val (.ref s), .val (.int (0 : Int32)), .val (.int (3 : Int32)), .unset, .unset, .unset] [] := by first | (simp [entryFrame, mkF, argsToLocals, Value.category]; done) | rfl
def Q4n3 (Z : State) (x0 : Int32) (x1 : Int32) (x2 : Int32) (h0 : Heap) (v : Option Value) (h : Heap) : Prop := ∃ t, v = some (.ref t) ∧ h0.size ≤ t ∧ Keep h0 h [] ∧ ((¬ (255 : Int32) < x0 ∧ ¬ (255 : Int32) < x1 ∧ ¬ (255 : Int32) < x2 ∧ Ary Z h t .byte (IL [l1 x0, l1 x1, l1 x2])) ∨ ((∃ i : Nat, i < 3 ∧ (255 : Int32) < ([x0, x1, x2] : List Int32).getD i 0) ∧ Ary Z h t .byte (IL [lo x0, hi x0, lo x1, hi x1, lo x2, hi x2])))
set_option maxRecDepth 65536 in
set_option maxHeartbeats 40000000 in
theorem c4n3 (Z : State) (hw : Wd Z tables_1) (h0 : Heap) (s : Addr) (x0 : Int32) (x1 : Int32) (x2 : Int32) (hAs : Sta Z Z.heap "java/lang/StringUTF16" "$assertionsDisabled" "Z" (.int 1)) (hHi : Sta Z Z.heap "java/lang/StringUTF16" "HI_BYTE_SHIFT" "I" (.int 0)) (hLo : Sta Z Z.heap "java/lang/StringUTF16" "LO_BYTE_SHIFT" "I" (.int 8)) (hA : Ary Z h0 s .char [.int x0, .int x1, .int x2]) (hx0 : Ch x0) (hx1 : Ch x1) (hx2 : Ch x2) : Con Z B4 (List.toArray [.ref s, .int (0 : Int32), .int (3 : Int32)]) h0 (Q4n3 Z x0 x1 x2 h0) := by
  refine Con.mk hw pn4 (fun mid => ef4n3 mid s) (Go.old fun hle' => ?_)
  have hle := hle'.1
  refine Go.iloadN 1 rfl d4_0 rfl ?_
  refine Go.newA 3 rfl 1 3 3 d4_1 rfl rfl (by decide) (by decide) (by decide) (by decide) fun h102 a101 g103 z104 K105 A106 E107 => ?_
  have A108 : Ary Z h102 a101 .byte [.int 0, .int 0, .int 0] := A106
  refine Go.astoreN 4 rfl d4_3 rfl (Ls' := #[.val (.ref s), .val (.int (0 : Int32)), .val (.int (3 : Int32)), .val (.ref a101), .unset, .unset]) rfl ?_
  refine Go.aloadN 5 rfl d4_4 rfl rfl ?_
  refine Go.iloadN 6 rfl d4_5 rfl ?_
  refine Go.aloadN 7 rfl d4_6 rfl rfl ?_
  refine Go.iconst 8 rfl (0 : Int32) d4_7 rfl ?_
  refine Go.iloadN 9 rfl d4_8 rfl ?_
  have F109 : Ary Z h102 s .char [.int x0, .int x1, .int x2] := (hA.keep K105 nin0)
  have ne110 : s ≠ a101 := (show @Ne Nat s a101 from by have := ltN hA.lt; have := g103; omega)
  refine Go.callS 12 rfl (C := B5) [.ref s, .int (0 : Int32), .ref a101, .int (0 : Int32), .int (3 : Int32)] (rest := []) 21 22 19 23 (c5n3 Z hw h102 s a101 x0 x1 x2 F109 A108 z104 ne110) d4_9 rfl rfl rfl rfl (by decide) pd5 rfl rfl rfl (W := 0) (Nat.le_of_ble_eq_true rfl) (by decide) (by decide) (by decide) (by decide) fun v111 h112 q113 => ?_
  obtain ⟨r, rfl, KQ5, DQ5⟩ := q113
  refine Go.istore 14 rfl d4_12 (Ls' := #[.val (.ref s), .val (.int (0 : Int32)), .val (.int (3 : Int32)), .val (.ref a101), .val (.int r), .unset]) rfl ?_
  refine Go.iload 16 rfl d4_14 rfl ?_
  refine Go.iloadN 17 rfl d4_16 rfl ?_
  rcases DQ5 with ⟨rfl, lg0, lg1, lg2, AQ5⟩ | ⟨i, hin, rfl, hbig⟩
  · refine Go.icmp_eq 57 20 d4_17 (by decide) rfl rfl (fun (b114 : (3 : Int32) = (3 : Int32)) => ?_) (fun (b114 : ¬ (3 : Int32) = (3 : Int32)) => ?_)
    · refine Go.aloadN 58 rfl d4_57 rfl rfl ?_
      exact Go.retA d4_58 rfl rfl rfl (by decide) (by decide) ⟨a101, rfl, Nat.le_of_eq g103.symm, (((Keep.refl h0 []).trans K105 all0).trans KQ5 (allS (Or.inr (Nat.le_of_eq g103.symm)) all0)), Or.inl ⟨lg0, lg1, lg2, AQ5⟩⟩
    · exact absurd (show (3 : Int32) = (3 : Int32) from (by decide)) b114
  · refine Go.icmp_eq 57 20 d4_17 (by decide) rfl rfl (fun (b115 : (Int32.ofNat i) = (3 : Int32)) => ?_) (fun (b115 : ¬ (Int32.ofNat i) = (3 : Int32)) => ?_)
    · exact absurd b115 (own_ofne hin (by decide))
    · refine Go.aloadN 21 rfl d4_20 rfl rfl ?_
      refine Go.iloadN 22 rfl d4_21 rfl ?_
      refine Go.iloadN 23 rfl d4_22 rfl ?_
      have F116 : Ary Z h112 s .char [.int x0, .int x1, .int x2] := (F109.keep KQ5 (ninS ne110 nin0))
      refine Go.callS 26 rfl (C := B17) [.ref s, .int (0 : Int32), .int (3 : Int32)] (rest := []) 95 96 19 97 (c17n3 Z hw h112 s x0 x1 x2 hAs hHi hLo F116) d4_23 rfl rfl rfl rfl (by decide) pd17 rfl rfl rfl (W := 0) (Nat.le_of_ble_eq_true rfl) (by decide) (by decide) (by decide) (by decide) fun v117 h118 q119 => ?_
      obtain ⟨u, rfl, gu, Ku, Au⟩ := q119
      have sz121 := (Nat.le_trans K105.1 KQ5.1)
      have z120 : Z.heap.size ≤ u := Nat.le_trans (Nat.le_trans hle sz121) gu
      refine Go.astore 28 rfl d4_26 rfl (Ls' := #[.val (.ref s), .val (.int (0 : Int32)), .val (.int (3 : Int32)), .val (.ref a101), .val (.int (Int32.ofNat i)), .val (.ref u)]) rfl ?_
      refine Go.aload 30 rfl d4_28 rfl rfl ?_
      refine Go.iload 32 rfl d4_30 rfl ?_
      refine Go.callS 35 rfl (C := B21) [.ref u, .int (Int32.ofNat i)] (rest := []) 111 112 19 113 (c21 Z hw h118 u (Int32.ofNat i) [lo x0, hi x0, lo x1, hi x1, lo x2, hi x2] i (len_ofNat (by omega)) (by omega) hAs hHi hLo (by show 2 * i + 1 < 6; omega) Au) d4_32 rfl rfl rfl rfl (by decide) pd21 rfl rfl rfl (W := 0) (Nat.le_of_ble_eq_true rfl) (by decide) (by decide) (by decide) (by decide) fun v122 h123 q124 => ?_
      obtain ⟨rfl, rfl⟩ := q124
      refine Go.eqI (w := ([x0, x1, x2] : List Int32).getD i 0) (own_gc3 hin hx0 hx1 hx2) ?_
      refine Go.sipush 38 rfl (255 : Int32) d4_35 rfl ?_
      refine Go.icmp_gt 54 41 d4_38 (by decide) rfl rfl (fun (b125 : (255 : Int32) < (([x0, x1, x2] : List Int32).getD i 0)) => ?_) (fun (b125 : ¬ (255 : Int32) < (([x0, x1, x2] : List Int32).getD i 0)) => ?_)
      · refine Go.aload 56 rfl d4_54 rfl rfl ?_
        have kc126 : Keep h0 h118 [] := ((((Keep.refl h0 []).trans K105 all0).trans KQ5 (allS (Or.inr (Nat.le_of_eq g103.symm)) all0)).trans Ku all0)
        exact Go.retA d4_56 rfl rfl rfl (by decide) (by decide) ⟨u, rfl, (by have := K105.1; have := KQ5.1; have := gu; omega), kc126, Or.inr ⟨⟨i, hin, hbig⟩, Au⟩⟩
      · exact absurd hbig b125
theorem d6_0 : decode jdk_52_method_15_code 0 = .ok (.iload_n 1, 1) := by decide +kernel
theorem d6_1 : decode jdk_52_method_15_code 1 = .ok (.aload_n 0, 1) := by decide +kernel
theorem d6_2 : decode jdk_52_method_15_code 2 = .ok (.arraylength, 1) := by decide +kernel
theorem d6_3 : decode jdk_52_method_15_code 3 = .ok (.isub, 1) := by decide +kernel
theorem d6_4 : decode jdk_52_method_15_code 4 = .ok (.bipush 31, 2) := by decide +kernel
theorem d6_6 : decode jdk_52_method_15_code 6 = .ok (.iushr, 1) := by decide +kernel
theorem d6_7 : decode jdk_52_method_15_code 7 = .ok (.i2b, 1) := by decide +kernel
theorem d6_8 : decode jdk_52_method_15_code 8 = .ok (.ireturn, 1) := by decide +kernel
theorem pd6 : parseMethodDescriptor "([BI)B" = some ⟨[(.array .byte), .int], some .byte⟩ := by decide +kernel
theorem pn6 : plainFor (⟨"java/lang/StringUTF16", "coderFromArrayLen", "([BI)B"⟩ : MethodName) = true := by first | (refine plainFor_of_name ?_; simp [plainName, overriddenIn]; done) | (refine plainFor_of_name ?_; decide +kernel) | decide +kernel
abbrev B6 : Bd := ((⟨"java/lang/StringUTF16", "coderFromArrayLen", "([BI)B"⟩ : MethodName), jdk_52_method_15_code, 2, (some .byte), ({ frames := 0, cells := 0, slots := 0, locals := 0 } : Room), tables_1)
theorem ef6n3k0 (mid : MethodId) (t : Addr) : entryFrame mid (List.toArray [.ref t, .int (3 : Int32)]) 2 = mkF mid 0 #[.val (.ref t), .val (.int (3 : Int32))] [] := by first | (simp [entryFrame, mkF, argsToLocals, Value.category]; done) | rfl
def Q6n3k0 (h0 : Heap) (v : Option Value) (h : Heap) : Prop := v = some (.int 0) ∧ h0 = h
set_option maxRecDepth 65536 in
set_option maxHeartbeats 40000000 in
theorem c6n3k0 (Z : State) (hw : Wd Z tables_1) (h0 : Heap) (t : Addr)  (vs : List Value) (hB : Ary Z h0 t .byte vs) (hl : vs.length = 3) : Con Z B6 (List.toArray [.ref t, .int (3 : Int32)]) h0 (Q6n3k0 h0) := by
  refine Con.mk hw pn6 (fun mid => ef6n3k0 mid t) (Go.old fun hle' => ?_)
  have hle := hle'.1
  refine Go.iloadN 1 rfl d6_0 rfl ?_
  refine Go.aloadN 2 rfl d6_1 rfl rfl ?_
  refine Go.alen 3 rfl (3 : Int32) d6_2 hB (by rw [hl]; rfl) ?_
  refine Go.isub 4 rfl d6_3 ?_
  refine Go.bipush 6 rfl (31 : Int32) d6_4 rfl ?_
  refine Go.iushr 7 rfl d6_6 ?_
  refine Go.i2b 8 rfl d6_7 ?_
  exact Go.retN (t := .byte) (z' := 0) d6_8 rfl (by decide) (by decide) (by decide) (by decide) ⟨rfl, rfl⟩
theorem ef6n3k1 (mid : MethodId) (t : Addr) : entryFrame mid (List.toArray [.ref t, .int (3 : Int32)]) 2 = mkF mid 0 #[.val (.ref t), .val (.int (3 : Int32))] [] := by first | (simp [entryFrame, mkF, argsToLocals, Value.category]; done) | rfl
def Q6n3k1 (h0 : Heap) (v : Option Value) (h : Heap) : Prop := v = some (.int 1) ∧ h0 = h
set_option maxRecDepth 65536 in
set_option maxHeartbeats 40000000 in
theorem c6n3k1 (Z : State) (hw : Wd Z tables_1) (h0 : Heap) (t : Addr)  (vs : List Value) (hB : Ary Z h0 t .byte vs) (hl : vs.length = 6) : Con Z B6 (List.toArray [.ref t, .int (3 : Int32)]) h0 (Q6n3k1 h0) := by
  refine Con.mk hw pn6 (fun mid => ef6n3k1 mid t) (Go.old fun hle' => ?_)
  have hle := hle'.1
  refine Go.iloadN 1 rfl d6_0 rfl ?_
  refine Go.aloadN 2 rfl d6_1 rfl rfl ?_
  refine Go.alen 3 rfl (6 : Int32) d6_2 hB (by rw [hl]; rfl) ?_
  refine Go.isub 4 rfl d6_3 ?_
  refine Go.bipush 6 rfl (31 : Int32) d6_4 rfl ?_
  refine Go.iushr 7 rfl d6_6 ?_
  refine Go.i2b 8 rfl d6_7 ?_
  exact Go.retN (t := .byte) (z' := 1) d6_8 rfl (by decide) (by decide) (by decide) (by decide) ⟨rfl, rfl⟩
theorem d2_0 : decode jdk_42_method_149_code 0 = .ok (.aload_n 0, 1) := by decide +kernel
theorem d2_1 : decode jdk_42_method_149_code 1 = .ok (.invokespecial 1, 3) := by decide +kernel
theorem d2_4 : decode jdk_42_method_149_code 4 = .ok (.iload_n 3, 1) := by decide +kernel
theorem d2_5 : decode jdk_42_method_149_code 5 = .ok (.ifCond .ne 22, 3) := by decide +kernel
theorem d2_27 : decode jdk_42_method_149_code 27 = .ok (.getstatic 38, 3) := by decide +kernel
theorem d2_30 : decode jdk_42_method_149_code 30 = .ok (.ifCond .eq 28, 3) := by decide +kernel
theorem d2_33 : decode jdk_42_method_149_code 33 = .ok (.aload_n 1, 1) := by decide +kernel
theorem d2_34 : decode jdk_42_method_149_code 34 = .ok (.iload_n 2, 1) := by decide +kernel
theorem d2_35 : decode jdk_42_method_149_code 35 = .ok (.iload_n 3, 1) := by decide +kernel
theorem d2_36 : decode jdk_42_method_149_code 36 = .ok (.invokestatic 177, 3) := by decide +kernel
theorem d2_39 : decode jdk_42_method_149_code 39 = .ok (.astore 5, 2) := by decide +kernel
theorem d2_41 : decode jdk_42_method_149_code 41 = .ok (.aload_n 0, 1) := by decide +kernel
theorem d2_42 : decode jdk_42_method_149_code 42 = .ok (.aload 5, 2) := by decide +kernel
theorem d2_44 : decode jdk_42_method_149_code 44 = .ok (.iload_n 3, 1) := by decide +kernel
theorem d2_45 : decode jdk_42_method_149_code 45 = .ok (.invokestatic 47, 3) := by decide +kernel
theorem d2_48 : decode jdk_42_method_149_code 48 = .ok (.putfield 15, 3) := by decide +kernel
theorem d2_51 : decode jdk_42_method_149_code 51 = .ok (.aload_n 0, 1) := by decide +kernel
theorem d2_52 : decode jdk_42_method_149_code 52 = .ok (.aload 5, 2) := by decide +kernel
theorem d2_54 : decode jdk_42_method_149_code 54 = .ok (.putfield 9, 3) := by decide +kernel
theorem d2_57 : decode jdk_42_method_149_code 57 = .ok (.return_, 1) := by decide +kernel
theorem pd2 : parseMethodDescriptor "([CIILjava/lang/Void;)V" = some ⟨[(.array .char), .int, .int, (.object "java/lang/Void")], none⟩ := by decide +kernel
theorem pn2 : plainFor (⟨"java/lang/String", "<init>", "([CIILjava/lang/Void;)V"⟩ : MethodName) = true := by first | (refine plainFor_of_name ?_; simp [plainName, overriddenIn]; done) | (refine plainFor_of_name ?_; decide +kernel) | decide +kernel
abbrev B2 : Bd := ((⟨"java/lang/String", "<init>", "([CIILjava/lang/Void;)V"⟩ : MethodName), jdk_42_method_149_code, 6, none, ({ frames := 4, cells := 2, slots := 13, locals := 57 } : Room), tables_1)
theorem ef2n3 (mid : MethodId) (a : Addr) (s : Addr) : entryFrame mid (List.toArray [.ref a, .ref s, .int (0 : Int32), .int (3 : Int32), .null]) 6 = mkF mid 0 #[.val (.ref a), .val (.ref s), .val (.int (0 : Int32)), .val (.int (3 : Int32)), .val (.null), .unset] [] := by first | (simp [entryFrame, mkF, argsToLocals, Value.category]; done) | rfl
def Q2n3 (Z : State) (a : Addr) (x0 : Int32) (x1 : Int32) (x2 : Int32) (h0 : Heap) (v : Option Value) (h : Heap) : Prop := v = none ∧ ∃ t, h0.size ≤ t ∧ Keep h0 h [a] ∧ Fld Z h a "java/lang/String" "value" "[B" (.ref t) ∧ ((Fld Z h a "java/lang/String" "coder" "B" (.int 0) ∧ ¬ (255 : Int32) < x0 ∧ ¬ (255 : Int32) < x1 ∧ ¬ (255 : Int32) < x2 ∧ Ary Z h t .byte (IL [l1 x0, l1 x1, l1 x2])) ∨ (Fld Z h a "java/lang/String" "coder" "B" (.int 1) ∧ (∃ i : Nat, i < 3 ∧ (255 : Int32) < ([x0, x1, x2] : List Int32).getD i 0) ∧ Ary Z h t .byte (IL [lo x0, hi x0, lo x1, hi x1, lo x2, hi x2])))
set_option maxRecDepth 65536 in
set_option maxHeartbeats 40000000 in
theorem c2n3 (Z : State) (hw : Wd Z tables_1) (h0 : Heap) (a : Addr) (s : Addr) (x0 : Int32) (x1 : Int32) (x2 : Int32) (cs : Int32) (hS : Sta Z Z.heap "java/lang/String" "COMPACT_STRINGS" "Z" (.int cs)) (hcs : ¬ cs = 0) (hAs : Sta Z Z.heap "java/lang/StringUTF16" "$assertionsDisabled" "Z" (.int 1)) (hHi : Sta Z Z.heap "java/lang/StringUTF16" "HI_BYTE_SHIFT" "I" (.int 0)) (hLo : Sta Z Z.heap "java/lang/StringUTF16" "LO_BYTE_SHIFT" "I" (.int 8)) (hge : Z.heap.size ≤ a) (hE : Exa Z h0 a "java/lang/String") (hV : Fld Z h0 a "java/lang/String" "value" "[B" .null) (hC : Fld Z h0 a "java/lang/String" "coder" "B" (.int 0)) (hA : Ary Z h0 s .char [.int x0, .int x1, .int x2]) (hx0 : Ch x0) (hx1 : Ch x1) (hx2 : Ch x2) : Con Z B2 (List.toArray [.ref a, .ref s, .int (0 : Int32), .int (3 : Int32), .null]) h0 (Q2n3 Z a x0 x1 x2 h0) := by
  refine Con.mk hw pn2 (fun mid => ef2n3 mid a s) (Go.old fun hle' => ?_)
  have hle := hle'.1
  refine Go.aloadN 1 rfl d2_0 rfl rfl ?_
  refine Go.initO 4 rfl 13 14 15 d2_1 rfl rfl rfl rfl (by decide) (W := 0) (Nat.le_of_ble_eq_true rfl) (by decide) ?_
  refine Go.iloadN 5 rfl d2_4 rfl ?_
  refine Go.if_ne 27 8 d2_5 (by decide) rfl rfl (fun (b101 : ¬ (3 : Int32) = 0) => ?_) (fun (b101 : (3 : Int32) = 0) => ?_)
  · refine Go.getS 30 rfl (v := .int cs) 16 d2_27 rfl hS ?_
    refine Go.if_eq 58 33 d2_30 (by decide) rfl rfl (fun (b102 : cs = 0) => ?_) (fun (b102 : ¬ cs = 0) => ?_)
    · exact absurd b102 (show ¬ cs = 0 from hcs)
    · refine Go.aloadN 34 rfl d2_33 rfl rfl ?_
      refine Go.iloadN 35 rfl d2_34 rfl ?_
      refine Go.iloadN 36 rfl d2_35 rfl ?_
      refine Go.callS 39 rfl (C := B4) [.ref s, .int (0 : Int32), .int (3 : Int32)] (rest := []) 17 18 19 20 (c4n3 Z hw h0 s x0 x1 x2 hAs hHi hLo hA hx0 hx1 hx2) d2_36 rfl rfl rfl rfl (by decide) pd4 rfl rfl rfl (W := 0) (Nat.le_of_ble_eq_true rfl) (by decide) (by decide) (by decide) (by decide) fun v103 h104 q105 => ?_
      obtain ⟨t, rfl, g, K, D⟩ := q105
      have z106 : Z.heap.size ≤ t := Nat.le_trans hle g
      rcases D with ⟨lg0, lg1, lg2, A1⟩ | ⟨hbig, A1⟩
      · refine Go.astore 41 rfl d2_39 rfl (Ls' := #[.val (.ref a), .val (.ref s), .val (.int (0 : Int32)), .val (.int (3 : Int32)), .val (.null), .val (.ref t)]) rfl ?_
        refine Go.aloadN 42 rfl d2_41 rfl rfl ?_
        refine Go.aload 44 rfl d2_42 rfl rfl ?_
        refine Go.iloadN 45 rfl d2_44 rfl ?_
        refine Go.callS 48 rfl (C := B6) [.ref t, .int (3 : Int32)] (rest := [.ref a]) 24 25 19 26 (c6n3k0 Z hw h104 t (IL [l1 x0, l1 x1, l1 x2]) A1 rfl) d2_45 rfl rfl rfl rfl (by decide) pd6 rfl rfl rfl (W := 1) (Nat.le_of_ble_eq_true rfl) (by decide) (by decide) (by decide) (by decide) fun v107 h108 q109 => ?_
        obtain ⟨rfl, rfl⟩ := q109
        have F110 : Fld Z h104 a "java/lang/String" "coder" "B" (.int (0 : Int32)) := (hC.keep K nin0)
        have F111 : Exa Z h104 a "java/lang/String" := (hE.keep K)
        refine Go.putF 51 rfl (v' := .int (0 : Int32)) (ty := .byte) 27 28 4 d2_48 rfl F110 F111 (Or.inr ⟨rfl, rfl, rfl⟩) rfl (by decide) rfl rfl hge fun h112 K113 W114 F115 => ?_
        refine Go.aloadN 52 rfl d2_51 rfl rfl ?_
        refine Go.aload 54 rfl d2_52 rfl rfl ?_
        have F116 : Fld Z h112 a "java/lang/String" "value" "[B" (.null) := (Fld.oth hw (hV.keep K nin0) W114 30 28 (Or.inr rfl) (Or.inr rfl) (by decide) rfl rfl)
        have F117 : Exa Z h112 a "java/lang/String" := (F111.keep K113)
        refine Go.putF 57 rfl (v' := .ref t) (ty := (.array .byte)) 29 30 4 d2_54 rfl F116 F117 (Or.inr ⟨rfl, rfl, rfl⟩) rfl (by decide) rfl rfl hge fun h118 K119 W120 F121 => ?_
        have kc122 : Keep h0 h118 [a] := ((((Keep.refl h0 [a]).trans K all0).trans K113 (by simp)).trans K119 (by simp))
        have F123 : Fld Z h118 a "java/lang/String" "coder" "B" (.int (0 : Int32)) := (Fld.oth hw F115 W120 28 30 (Or.inr rfl) (Or.inr rfl) (by decide) rfl rfl)
        have ne124 : t ≠ a := (show @Ne Nat t a from by have := ltN hE.lt; have := g; omega)
        have F125 : Ary Z h118 t .byte (IL [l1 x0, l1 x1, l1 x2]) := ((A1.keep K113 (ninS ne124 nin0)).keep K119 (ninS ne124 nin0))
        exact Go.retV d2_57 rfl (by decide) (by decide) ⟨rfl, t, g, kc122, F121, Or.inl ⟨F123, lg0, lg1, lg2, F125⟩⟩
      · refine Go.astore 41 rfl d2_39 rfl (Ls' := #[.val (.ref a), .val (.ref s), .val (.int (0 : Int32)), .val (.int (3 : Int32)), .val (.null), .val (.ref t)]) rfl ?_
        refine Go.aloadN 42 rfl d2_41 rfl rfl ?_
        refine Go.aload 44 rfl d2_42 rfl rfl ?_
        refine Go.iloadN 45 rfl d2_44 rfl ?_
        refine Go.callS 48 rfl (C := B6) [.ref t, .int (3 : Int32)] (rest := [.ref a]) 24 25 19 26 (c6n3k1 Z hw h104 t (IL [lo x0, hi x0, lo x1, hi x1, lo x2, hi x2]) A1 rfl) d2_45 rfl rfl rfl rfl (by decide) pd6 rfl rfl rfl (W := 1) (Nat.le_of_ble_eq_true rfl) (by decide) (by decide) (by decide) (by decide) fun v126 h127 q128 => ?_
        obtain ⟨rfl, rfl⟩ := q128
        have F129 : Fld Z h104 a "java/lang/String" "coder" "B" (.int (0 : Int32)) := (hC.keep K nin0)
        have F130 : Exa Z h104 a "java/lang/String" := (hE.keep K)
        refine Go.putF 51 rfl (v' := .int (1 : Int32)) (ty := .byte) 27 28 4 d2_48 rfl F129 F130 (Or.inr ⟨rfl, rfl, rfl⟩) rfl (by decide) rfl rfl hge fun h131 K132 W133 F134 => ?_
        refine Go.aloadN 52 rfl d2_51 rfl rfl ?_
        refine Go.aload 54 rfl d2_52 rfl rfl ?_
        have F135 : Fld Z h131 a "java/lang/String" "value" "[B" (.null) := (Fld.oth hw (hV.keep K nin0) W133 30 28 (Or.inr rfl) (Or.inr rfl) (by decide) rfl rfl)
        have F136 : Exa Z h131 a "java/lang/String" := (F130.keep K132)
        refine Go.putF 57 rfl (v' := .ref t) (ty := (.array .byte)) 29 30 4 d2_54 rfl F135 F136 (Or.inr ⟨rfl, rfl, rfl⟩) rfl (by decide) rfl rfl hge fun h137 K138 W139 F140 => ?_
        have kc141 : Keep h0 h137 [a] := ((((Keep.refl h0 [a]).trans K all0).trans K132 (by simp)).trans K138 (by simp))
        have F142 : Fld Z h137 a "java/lang/String" "coder" "B" (.int (1 : Int32)) := (Fld.oth hw F134 W139 28 30 (Or.inr rfl) (Or.inr rfl) (by decide) rfl rfl)
        have ne143 : t ≠ a := (show @Ne Nat t a from by have := ltN hE.lt; have := g; omega)
        have F144 : Ary Z h137 t .byte (IL [lo x0, hi x0, lo x1, hi x1, lo x2, hi x2]) := ((A1.keep K132 (ninS ne143 nin0)).keep K138 (ninS ne143 nin0))
        exact Go.retV d2_57 rfl (by decide) (by decide) ⟨rfl, t, g, kc141, F140, Or.inr ⟨F142, hbig, F144⟩⟩
  · exact absurd b101 (show ¬ (3 : Int32) = 0 from (by decide))
theorem d1_0 : decode jdk_42_method_3_code 0 = .ok (.aload_n 0, 1) := by decide +kernel
theorem d1_1 : decode jdk_42_method_3_code 1 = .ok (.aload_n 1, 1) := by decide +kernel
theorem d1_2 : decode jdk_42_method_3_code 2 = .ok (.iconst 0, 1) := by decide +kernel
theorem d1_3 : decode jdk_42_method_3_code 3 = .ok (.aload_n 1, 1) := by decide +kernel
theorem d1_4 : decode jdk_42_method_3_code 4 = .ok (.arraylength, 1) := by decide +kernel
theorem d1_5 : decode jdk_42_method_3_code 5 = .ok (.aconst_null, 1) := by decide +kernel
theorem d1_6 : decode jdk_42_method_3_code 6 = .ok (.invokespecial 27, 3) := by decide +kernel
theorem d1_9 : decode jdk_42_method_3_code 9 = .ok (.return_, 1) := by decide +kernel
theorem pd1 : parseMethodDescriptor "([C)V" = some ⟨[(.array .char)], none⟩ := by decide +kernel
theorem pn1 : plainFor (⟨"java/lang/String", "<init>", "([C)V"⟩ : MethodName) = true := by first | (refine plainFor_of_name ?_; simp [plainName, overriddenIn]; done) | (refine plainFor_of_name ?_; decide +kernel) | decide +kernel
abbrev B1 : Bd := ((⟨"java/lang/String", "<init>", "([C)V"⟩ : MethodName), jdk_42_method_3_code, 2, none, ({ frames := 5, cells := 2, slots := 13, locals := 74 } : Room), tables_1)
theorem ef1n3 (mid : MethodId) (a : Addr) (s : Addr) : entryFrame mid (List.toArray [.ref a, .ref s]) 2 = mkF mid 0 #[.val (.ref a), .val (.ref s)] [] := by first | (simp [entryFrame, mkF, argsToLocals, Value.category]; done) | rfl
def Q1n3 (Z : State) (a : Addr) (x0 : Int32) (x1 : Int32) (x2 : Int32) (h0 : Heap) (v : Option Value) (h : Heap) : Prop := v = none ∧ ∃ t, h0.size ≤ t ∧ Keep h0 h [a] ∧ Fld Z h a "java/lang/String" "value" "[B" (.ref t) ∧ ((Fld Z h a "java/lang/String" "coder" "B" (.int 0) ∧ ¬ (255 : Int32) < x0 ∧ ¬ (255 : Int32) < x1 ∧ ¬ (255 : Int32) < x2 ∧ Ary Z h t .byte (IL [l1 x0, l1 x1, l1 x2])) ∨ (Fld Z h a "java/lang/String" "coder" "B" (.int 1) ∧ (∃ i : Nat, i < 3 ∧ (255 : Int32) < ([x0, x1, x2] : List Int32).getD i 0) ∧ Ary Z h t .byte (IL [lo x0, hi x0, lo x1, hi x1, lo x2, hi x2])))
set_option maxRecDepth 65536 in
set_option maxHeartbeats 40000000 in
theorem c1n3 (Z : State) (hw : Wd Z tables_1) (h0 : Heap) (a : Addr) (s : Addr) (x0 : Int32) (x1 : Int32) (x2 : Int32) (cs : Int32) (hS : Sta Z Z.heap "java/lang/String" "COMPACT_STRINGS" "Z" (.int cs)) (hcs : ¬ cs = 0) (hAs : Sta Z Z.heap "java/lang/StringUTF16" "$assertionsDisabled" "Z" (.int 1)) (hHi : Sta Z Z.heap "java/lang/StringUTF16" "HI_BYTE_SHIFT" "I" (.int 0)) (hLo : Sta Z Z.heap "java/lang/StringUTF16" "LO_BYTE_SHIFT" "I" (.int 8)) (hge : Z.heap.size ≤ a) (hE : Exa Z h0 a "java/lang/String") (hV : Fld Z h0 a "java/lang/String" "value" "[B" .null) (hC : Fld Z h0 a "java/lang/String" "coder" "B" (.int 0)) (hA : Ary Z h0 s .char [.int x0, .int x1, .int x2]) (hx0 : Ch x0) (hx1 : Ch x1) (hx2 : Ch x2) : Con Z B1 (List.toArray [.ref a, .ref s]) h0 (Q1n3 Z a x0 x1 x2 h0) := by
  refine Con.mk hw pn1 (fun mid => ef1n3 mid a s) (Go.old fun hle' => ?_)
  have hle := hle'.1
  refine Go.aloadN 1 rfl d1_0 rfl rfl ?_
  refine Go.aloadN 2 rfl d1_1 rfl rfl ?_
  refine Go.iconst 3 rfl (0 : Int32) d1_2 rfl ?_
  refine Go.aloadN 4 rfl d1_3 rfl rfl ?_
  refine Go.alen 5 rfl (3 : Int32) d1_4 hA rfl ?_
  refine Go.aconstNull 6 rfl d1_5 ?_
  refine Go.callI 9 rfl (C := B2) a [.ref s, .int (0 : Int32), .int (3 : Int32), .null] (rest := []) 9 10 5 12 (c2n3 Z hw h0 a s x0 x1 x2 cs hS hcs hAs hHi hLo hge hE hV hC hA hx0 hx1 hx2) d1_6 rfl rfl rfl rfl rfl rfl (by decide) pd2 rfl rfl rfl (W := 0) (Nat.le_of_ble_eq_true rfl) (by decide) (by decide) (by decide) (by decide) fun v101 h102 q103 => ?_
  obtain ⟨rfl, t, g, K, F, D⟩ := q103
  exact Go.retV d1_9 rfl (by decide) (by decide) ⟨rfl, t, g, K, F, D⟩
theorem ef17n2 (mid : MethodId) (s : Addr) : entryFrame mid (List.toArray [.ref s, .int (0 : Int32), .int (2 : Int32)]) 5 = mkF mid 0 #[.val (.ref s), .val (.int (0 : Int32)), .val (.int (2 : Int32)), .unset, .unset] [] := by first | (simp [entryFrame, mkF, argsToLocals, Value.category]; done) | rfl
def Q17n2 (Z : State) (x0 : Int32) (x1 : Int32) (h0 : Heap) (v : Option Value) (h : Heap) : Prop := ∃ t, v = some (.ref t) ∧ h0.size ≤ t ∧ Keep h0 h [] ∧ Ary Z h t .byte (IL [lo x0, hi x0, lo x1, hi x1])
set_option maxRecDepth 65536 in
set_option maxHeartbeats 40000000 in
theorem c17n2 (Z : State) (hw : Wd Z tables_1) (h0 : Heap) (s : Addr) (x0 : Int32) (x1 : Int32) (hAs : Sta Z Z.heap "java/lang/StringUTF16" "$assertionsDisabled" "Z" (.int 1)) (hHi : Sta Z Z.heap "java/lang/StringUTF16" "HI_BYTE_SHIFT" "I" (.int 0)) (hLo : Sta Z Z.heap "java/lang/StringUTF16" "LO_BYTE_SHIFT" "I" (.int 8)) (hA : Ary Z h0 s .char [.int x0, .int x1]) : Con Z B17 (List.toArray [.ref s, .int (0 : Int32), .int (2 : Int32)]) h0 (Q17n2 Z x0 x1 h0) := by
  refine Con.mk hw pn17 (fun mid => ef17n2 mid s) (Go.old fun hle' => ?_)
  have hle := hle'.1
  refine Go.iloadN 1 rfl d17_0 rfl ?_
  refine Go.callS 4 rfl (C := B18) [.int (2 : Int32)] (rest := []) 98 99 19 100 (c18n2 Z hw h0) d17_1 rfl rfl rfl rfl (by decide) pd18 rfl rfl rfl (W := 0) (Nat.le_of_ble_eq_true rfl) (by decide) (by decide) (by decide) (by decide) fun v101 h102 q103 => ?_
  obtain ⟨t, rfl, g, K, A⟩ := q103
  have z104 : Z.heap.size ≤ t := Nat.le_trans hle g
  refine Go.astoreN 5 rfl d17_4 rfl (Ls' := #[.val (.ref s), .val (.int (0 : Int32)), .val (.int (2 : Int32)), .val (.ref t), .unset]) rfl ?_
  refine Go.iconst 6 rfl (0 : Int32) d17_5 rfl ?_
  refine Go.istore 8 rfl d17_6 (Ls' := #[.val (.ref s), .val (.int (0 : Int32)), .val (.int (2 : Int32)), .val (.ref t), .val (.int (0 : Int32))]) rfl ?_
  refine Go.iload 10 rfl d17_8 rfl ?_
  refine Go.iloadN 11 rfl d17_10 rfl ?_
  refine Go.icmp_ge 32 14 d17_11 (by decide) rfl rfl (fun (b105 : ¬ (0 : Int32) < (2 : Int32)) => ?_) (fun (b105 : (0 : Int32) < (2 : Int32)) => ?_)
  · exact absurd (show (0 : Int32) < (2 : Int32) from (by decide)) b105
  · refine Go.aloadN 15 rfl d17_14 rfl rfl ?_
    refine Go.iload 17 rfl d17_15 rfl ?_
    refine Go.aloadN 18 rfl d17_17 rfl rfl ?_
    refine Go.iloadN 19 rfl d17_18 rfl ?_
    have F106 : Ary Z h102 s .char [.int x0, .int x1] := (hA.keep K nin0)
    refine Go.caload 20 rfl x0 d17_19 F106 0 rfl rfl ?_
    refine Go.callS 23 rfl (C := B20) [.ref t, .int (0 : Int32), .int x0] (rest := []) 105 106 19 107 (c20 Z hw h102 t (0 : Int32) x0 [0, 0, 0, 0] 0 rfl (by decide) hAs hHi hLo z104 (Nat.le_of_ble_eq_true rfl) A) d17_20 rfl rfl rfl rfl (by decide) pd20 rfl rfl rfl (W := 0) (Nat.le_of_ble_eq_true rfl) (by decide) (by decide) (by decide) (by decide) fun v107 h108 q109 => ?_
    obtain ⟨rfl, K110, A111⟩ := q109
    have A112 : Ary Z h108 t .byte (IL [lo x0, hi x0, 0, 0]) := A111
    refine Go.iinc 26 rfl (1 : Int32) d17_23 rfl rfl (Ls' := #[.val (.ref s), .val (.int ((0 : Int32) + (1 : Int32))), .val (.int (2 : Int32)), .val (.ref t), .val (.int (0 : Int32))]) rfl ?_
    refine Go.iinc 29 rfl (1 : Int32) d17_26 rfl rfl (Ls' := #[.val (.ref s), .val (.int ((0 : Int32) + (1 : Int32))), .val (.int (2 : Int32)), .val (.ref t), .val (.int ((0 : Int32) + (1 : Int32)))]) rfl ?_
    refine Go.goto 8 d17_29 (by decide) (by decide) ?_
    refine Go.iload 10 rfl d17_8 rfl ?_
    refine Go.iloadN 11 rfl d17_10 rfl ?_
    refine Go.icmp_ge 32 14 d17_11 (by decide) rfl rfl (fun (b113 : ¬ ((0 : Int32) + (1 : Int32)) < (2 : Int32)) => ?_) (fun (b113 : ((0 : Int32) + (1 : Int32)) < (2 : Int32)) => ?_)
    · exact absurd (show ((0 : Int32) + (1 : Int32)) < (2 : Int32) from (by decide)) b113
    · refine Go.aloadN 15 rfl d17_14 rfl rfl ?_
      refine Go.iload 17 rfl d17_15 rfl ?_
      refine Go.aloadN 18 rfl d17_17 rfl rfl ?_
      refine Go.iloadN 19 rfl d17_18 rfl ?_
      have ne114 : s ≠ t := (show @Ne Nat s t from by have := ltN hA.lt; have := g; omega)
      have F115 : Ary Z h108 s .char [.int x0, .int x1] := (F106.keep K110 (ninS ne114 nin0))
      refine Go.caload 20 rfl x1 d17_19 F115 1 rfl rfl ?_
      refine Go.callS 23 rfl (C := B20) [.ref t, .int ((0 : Int32) + (1 : Int32)), .int x1] (rest := []) 105 106 19 107 (c20 Z hw h108 t ((0 : Int32) + (1 : Int32)) x1 [lo x0, hi x0, 0, 0] 1 rfl (by decide) hAs hHi hLo z104 (Nat.le_of_ble_eq_true rfl) A112) d17_20 rfl rfl rfl rfl (by decide) pd20 rfl rfl rfl (W := 0) (Nat.le_of_ble_eq_true rfl) (by decide) (by decide) (by decide) (by decide) fun v116 h117 q118 => ?_
      obtain ⟨rfl, K119, A120⟩ := q118
      have A121 : Ary Z h117 t .byte (IL [lo x0, hi x0, lo x1, hi x1]) := A120
      refine Go.iinc 26 rfl (1 : Int32) d17_23 rfl rfl (Ls' := #[.val (.ref s), .val (.int (((0 : Int32) + (1 : Int32)) + (1 : Int32))), .val (.int (2 : Int32)), .val (.ref t), .val (.int ((0 : Int32) + (1 : Int32)))]) rfl ?_
      refine Go.iinc 29 rfl (1 : Int32) d17_26 rfl rfl (Ls' := #[.val (.ref s), .val (.int (((0 : Int32) + (1 : Int32)) + (1 : Int32))), .val (.int (2 : Int32)), .val (.ref t), .val (.int (((0 : Int32) + (1 : Int32)) + (1 : Int32)))]) rfl ?_
      refine Go.goto 8 d17_29 (by decide) (by decide) ?_
      refine Go.iload 10 rfl d17_8 rfl ?_
      refine Go.iloadN 11 rfl d17_10 rfl ?_
      refine Go.icmp_ge 32 14 d17_11 (by decide) rfl rfl (fun (b122 : ¬ (((0 : Int32) + (1 : Int32)) + (1 : Int32)) < (2 : Int32)) => ?_) (fun (b122 : (((0 : Int32) + (1 : Int32)) + (1 : Int32)) < (2 : Int32)) => ?_)
      · refine Go.aloadN 33 rfl d17_32 rfl rfl ?_
        have kc123 : Keep h0 h117 [] := ((((Keep.refl h0 []).trans K all0).trans K110 (allS (Or.inr g) all0)).trans K119 (allS (Or.inr g) all0))
        exact Go.retA d17_33 rfl rfl rfl (by decide) (by decide) ⟨t, rfl, g, kc123, A121⟩
      · exact absurd b122 (show ¬ (((0 : Int32) + (1 : Int32)) + (1 : Int32)) < (2 : Int32) from (by decide))
theorem ef5n2 (mid : MethodId) (s : Addr) (t : Addr) : entryFrame mid (List.toArray [.ref s, .int (0 : Int32), .ref t, .int (0 : Int32), .int (2 : Int32)]) 7 = mkF mid 0 #[.val (.ref s), .val (.int (0 : Int32)), .val (.ref t), .val (.int (0 : Int32)), .val (.int (2 : Int32)), .unset, .unset] [] := by first | (simp [entryFrame, mkF, argsToLocals, Value.category]; done) | rfl
def Q5n2 (Z : State) (t : Addr) (x0 : Int32) (x1 : Int32) (h0 : Heap) (v : Option Value) (h : Heap) : Prop := ∃ r, v = some (.int r) ∧ Keep h0 h [t] ∧ ((r = (2 : Int32) ∧ ¬ (255 : Int32) < x0 ∧ ¬ (255 : Int32) < x1 ∧ Ary Z h t .byte (IL [l1 x0, l1 x1])) ∨ ∃ i : Nat, i < 2 ∧ r = Int32.ofNat i ∧ (255 : Int32) < ([x0, x1] : List Int32).getD i 0)
set_option maxRecDepth 65536 in
set_option maxHeartbeats 40000000 in
theorem c5n2 (Z : State) (hw : Wd Z tables_1) (h0 : Heap) (s : Addr) (t : Addr) (x0 : Int32) (x1 : Int32) (hA : Ary Z h0 s .char [.int x0, .int x1]) (hB : Ary Z h0 t .byte [.int 0, .int 0]) (hgt : Z.heap.size ≤ t) (hne : s ≠ t) : Con Z B5 (List.toArray [.ref s, .int (0 : Int32), .ref t, .int (0 : Int32), .int (2 : Int32)]) h0 (Q5n2 Z t x0 x1 h0) := by
  refine Con.mk hw pn5 (fun mid => ef5n2 mid s t) (Go.old fun hle' => ?_)
  have hle := hle'.1
  refine Go.iconst 1 rfl (0 : Int32) d5_0 rfl ?_
  refine Go.istore 3 rfl d5_1 (Ls' := #[.val (.ref s), .val (.int (0 : Int32)), .val (.ref t), .val (.int (0 : Int32)), .val (.int (2 : Int32)), .val (.int (0 : Int32)), .unset]) rfl ?_
  refine Go.iload 5 rfl d5_3 rfl ?_
  refine Go.iload 7 rfl d5_5 rfl ?_
  refine Go.icmp_ge 44 10 d5_7 (by decide) rfl rfl (fun (b101 : ¬ (0 : Int32) < (2 : Int32)) => ?_) (fun (b101 : (0 : Int32) < (2 : Int32)) => ?_)
  · exact absurd (show (0 : Int32) < (2 : Int32) from (by decide)) b101
  · refine Go.aloadN 11 rfl d5_10 rfl rfl ?_
    refine Go.iloadN 12 rfl d5_11 rfl ?_
    refine Go.caload 13 rfl x0 d5_12 hA 0 rfl rfl ?_
    refine Go.istore 15 rfl d5_13 (Ls' := #[.val (.ref s), .val (.int (0 : Int32)), .val (.ref t), .val (.int (0 : Int32)), .val (.int (2 : Int32)), .val (.int (0 : Int32)), .val (.int x0)]) rfl ?_
    refine Go.iload 17 rfl d5_15 rfl ?_
    refine Go.sipush 20 rfl (255 : Int32) d5_17 rfl ?_
    refine Go.icmp_le 26 23 d5_20 (by decide) rfl rfl (fun (b102 : ¬ (255 : Int32) < x0) => ?_) (fun (b102 : (255 : Int32) < x0) => ?_)
    · refine Go.aloadN 27 rfl d5_26 rfl rfl ?_
      refine Go.iloadN 28 rfl d5_27 rfl ?_
      refine Go.iload 30 rfl d5_28 rfl ?_
      refine Go.i2b 31 rfl d5_30 ?_
      refine Go.stB 32 rfl d5_31 hB 0 rfl (Nat.le_of_ble_eq_true rfl) hgt fun h103 K104 A105 => ?_
      have A106 : Ary Z h103 t .byte [.int (nar .byte x0.toInt8.toInt32), .int 0] := A105
      refine Go.iinc 35 rfl (1 : Int32) d5_32 rfl rfl (Ls' := #[.val (.ref s), .val (.int ((0 : Int32) + (1 : Int32))), .val (.ref t), .val (.int (0 : Int32)), .val (.int (2 : Int32)), .val (.int (0 : Int32)), .val (.int x0)]) rfl ?_
      refine Go.iinc 38 rfl (1 : Int32) d5_35 rfl rfl (Ls' := #[.val (.ref s), .val (.int ((0 : Int32) + (1 : Int32))), .val (.ref t), .val (.int ((0 : Int32) + (1 : Int32))), .val (.int (2 : Int32)), .val (.int (0 : Int32)), .val (.int x0)]) rfl ?_
      refine Go.iinc 41 rfl (1 : Int32) d5_38 rfl rfl (Ls' := #[.val (.ref s), .val (.int ((0 : Int32) + (1 : Int32))), .val (.ref t), .val (.int ((0 : Int32) + (1 : Int32))), .val (.int (2 : Int32)), .val (.int ((0 : Int32) + (1 : Int32))), .val (.int x0)]) rfl ?_
      refine Go.goto 3 d5_41 (by decide) (by decide) ?_
      refine Go.iload 5 rfl d5_3 rfl ?_
      refine Go.iload 7 rfl d5_5 rfl ?_
      refine Go.icmp_ge 44 10 d5_7 (by decide) rfl rfl (fun (b107 : ¬ ((0 : Int32) + (1 : Int32)) < (2 : Int32)) => ?_) (fun (b107 : ((0 : Int32) + (1 : Int32)) < (2 : Int32)) => ?_)
      · exact absurd (show ((0 : Int32) + (1 : Int32)) < (2 : Int32) from (by decide)) b107
      · refine Go.aloadN 11 rfl d5_10 rfl rfl ?_
        refine Go.iloadN 12 rfl d5_11 rfl ?_
        have F108 : Ary Z h103 s .char [.int x0, .int x1] := (hA.keep K104 (ninS hne nin0))
        refine Go.caload 13 rfl x1 d5_12 F108 1 rfl rfl ?_
        refine Go.istore 15 rfl d5_13 (Ls' := #[.val (.ref s), .val (.int ((0 : Int32) + (1 : Int32))), .val (.ref t), .val (.int ((0 : Int32) + (1 : Int32))), .val (.int (2 : Int32)), .val (.int ((0 : Int32) + (1 : Int32))), .val (.int x1)]) rfl ?_
        refine Go.iload 17 rfl d5_15 rfl ?_
        refine Go.sipush 20 rfl (255 : Int32) d5_17 rfl ?_
        refine Go.icmp_le 26 23 d5_20 (by decide) rfl rfl (fun (b109 : ¬ (255 : Int32) < x1) => ?_) (fun (b109 : (255 : Int32) < x1) => ?_)
        · refine Go.aloadN 27 rfl d5_26 rfl rfl ?_
          refine Go.iloadN 28 rfl d5_27 rfl ?_
          refine Go.iload 30 rfl d5_28 rfl ?_
          refine Go.i2b 31 rfl d5_30 ?_
          refine Go.stB 32 rfl d5_31 A106 1 rfl (Nat.le_of_ble_eq_true rfl) hgt fun h110 K111 A112 => ?_
          have A113 : Ary Z h110 t .byte [.int (nar .byte x0.toInt8.toInt32), .int (nar .byte x1.toInt8.toInt32)] := A112
          refine Go.iinc 35 rfl (1 : Int32) d5_32 rfl rfl (Ls' := #[.val (.ref s), .val (.int (((0 : Int32) + (1 : Int32)) + (1 : Int32))), .val (.ref t), .val (.int ((0 : Int32) + (1 : Int32))), .val (.int (2 : Int32)), .val (.int ((0 : Int32) + (1 : Int32))), .val (.int x1)]) rfl ?_
          refine Go.iinc 38 rfl (1 : Int32) d5_35 rfl rfl (Ls' := #[.val (.ref s), .val (.int (((0 : Int32) + (1 : Int32)) + (1 : Int32))), .val (.ref t), .val (.int (((0 : Int32) + (1 : Int32)) + (1 : Int32))), .val (.int (2 : Int32)), .val (.int ((0 : Int32) + (1 : Int32))), .val (.int x1)]) rfl ?_
          refine Go.iinc 41 rfl (1 : Int32) d5_38 rfl rfl (Ls' := #[.val (.ref s), .val (.int (((0 : Int32) + (1 : Int32)) + (1 : Int32))), .val (.ref t), .val (.int (((0 : Int32) + (1 : Int32)) + (1 : Int32))), .val (.int (2 : Int32)), .val (.int (((0 : Int32) + (1 : Int32)) + (1 : Int32))), .val (.int x1)]) rfl ?_
          refine Go.goto 3 d5_41 (by decide) (by decide) ?_
          refine Go.iload 5 rfl d5_3 rfl ?_
          refine Go.iload 7 rfl d5_5 rfl ?_
          refine Go.icmp_ge 44 10 d5_7 (by decide) rfl rfl (fun (b114 : ¬ (((0 : Int32) + (1 : Int32)) + (1 : Int32)) < (2 : Int32)) => ?_) (fun (b114 : (((0 : Int32) + (1 : Int32)) + (1 : Int32)) < (2 : Int32)) => ?_)
          · refine Go.iload 46 rfl d5_44 rfl ?_
            exact Go.retI d5_46 rfl (by decide) (by decide) ⟨_, rfl, (((Keep.refl h0 [t]).trans K104 (by simp)).trans K111 (by simp)), Or.inl ⟨rfl, b102, b109, A113⟩⟩
          · exact absurd b114 (show ¬ (((0 : Int32) + (1 : Int32)) + (1 : Int32)) < (2 : Int32) from (by decide))
        · refine Go.iload 25 rfl d5_23 rfl ?_
          refine Go.eqI (w := 1) (by decide) ?_
          exact Go.retI d5_25 rfl (by decide) (by decide) ⟨_, rfl, ((Keep.refl h0 [t]).trans K104 (by simp)), Or.inr ⟨1, by decide, rfl, b109⟩⟩
    · refine Go.iload 25 rfl d5_23 rfl ?_
      refine Go.eqI (w := 0) (by decide) ?_
      exact Go.retI d5_25 rfl (by decide) (by decide) ⟨_, rfl, (Keep.refl h0 [t]), Or.inr ⟨0, by decide, rfl, b102⟩⟩
theorem ef4n2 (mid : MethodId) (s : Addr) : entryFrame mid (List.toArray [.ref s, .int (0 : Int32), .int (2 : Int32)]) 6 = mkF mid 0 #[.val (.ref s), .val (.int (0 : Int32)), .val (.int (2 : Int32)), .unset, .unset, .unset] [] := by first | (simp [entryFrame, mkF, argsToLocals, Value.category]; done) | rfl
def Q4n2 (Z : State) (x0 : Int32) (x1 : Int32) (h0 : Heap) (v : Option Value) (h : Heap) : Prop := ∃ t, v = some (.ref t) ∧ h0.size ≤ t ∧ Keep h0 h [] ∧ ((¬ (255 : Int32) < x0 ∧ ¬ (255 : Int32) < x1 ∧ Ary Z h t .byte (IL [l1 x0, l1 x1])) ∨ ((∃ i : Nat, i < 2 ∧ (255 : Int32) < ([x0, x1] : List Int32).getD i 0) ∧ Ary Z h t .byte (IL [lo x0, hi x0, lo x1, hi x1])))
set_option maxRecDepth 65536 in
set_option maxHeartbeats 40000000 in
theorem c4n2 (Z : State) (hw : Wd Z tables_1) (h0 : Heap) (s : Addr) (x0 : Int32) (x1 : Int32) (hAs : Sta Z Z.heap "java/lang/StringUTF16" "$assertionsDisabled" "Z" (.int 1)) (hHi : Sta Z Z.heap "java/lang/StringUTF16" "HI_BYTE_SHIFT" "I" (.int 0)) (hLo : Sta Z Z.heap "java/lang/StringUTF16" "LO_BYTE_SHIFT" "I" (.int 8)) (hA : Ary Z h0 s .char [.int x0, .int x1]) (hx0 : Ch x0) (hx1 : Ch x1) : Con Z B4 (List.toArray [.ref s, .int (0 : Int32), .int (2 : Int32)]) h0 (Q4n2 Z x0 x1 h0) := by
  refine Con.mk hw pn4 (fun mid => ef4n2 mid s) (Go.old fun hle' => ?_)
  have hle := hle'.1
  refine Go.iloadN 1 rfl d4_0 rfl ?_
  refine Go.newA 3 rfl 1 2 2 d4_1 rfl rfl (by decide) (by decide) (by decide) (by decide) fun h102 a101 g103 z104 K105 A106 E107 => ?_
  have A108 : Ary Z h102 a101 .byte [.int 0, .int 0] := A106
  refine Go.astoreN 4 rfl d4_3 rfl (Ls' := #[.val (.ref s), .val (.int (0 : Int32)), .val (.int (2 : Int32)), .val (.ref a101), .unset, .unset]) rfl ?_
  refine Go.aloadN 5 rfl d4_4 rfl rfl ?_
  refine Go.iloadN 6 rfl d4_5 rfl ?_
  refine Go.aloadN 7 rfl d4_6 rfl rfl ?_
  refine Go.iconst 8 rfl (0 : Int32) d4_7 rfl ?_
  refine Go.iloadN 9 rfl d4_8 rfl ?_
  have F109 : Ary Z h102 s .char [.int x0, .int x1] := (hA.keep K105 nin0)
  have ne110 : s ≠ a101 := (show @Ne Nat s a101 from by have := ltN hA.lt; have := g103; omega)
  refine Go.callS 12 rfl (C := B5) [.ref s, .int (0 : Int32), .ref a101, .int (0 : Int32), .int (2 : Int32)] (rest := []) 21 22 19 23 (c5n2 Z hw h102 s a101 x0 x1 F109 A108 z104 ne110) d4_9 rfl rfl rfl rfl (by decide) pd5 rfl rfl rfl (W := 0) (Nat.le_of_ble_eq_true rfl) (by decide) (by decide) (by decide) (by decide) fun v111 h112 q113 => ?_
  obtain ⟨r, rfl, KQ5, DQ5⟩ := q113
  refine Go.istore 14 rfl d4_12 (Ls' := #[.val (.ref s), .val (.int (0 : Int32)), .val (.int (2 : Int32)), .val (.ref a101), .val (.int r), .unset]) rfl ?_
  refine Go.iload 16 rfl d4_14 rfl ?_
  refine Go.iloadN 17 rfl d4_16 rfl ?_
  rcases DQ5 with ⟨rfl, lg0, lg1, AQ5⟩ | ⟨i, hin, rfl, hbig⟩
  · refine Go.icmp_eq 57 20 d4_17 (by decide) rfl rfl (fun (b114 : (2 : Int32) = (2 : Int32)) => ?_) (fun (b114 : ¬ (2 : Int32) = (2 : Int32)) => ?_)
    · refine Go.aloadN 58 rfl d4_57 rfl rfl ?_
      exact Go.retA d4_58 rfl rfl rfl (by decide) (by decide) ⟨a101, rfl, Nat.le_of_eq g103.symm, (((Keep.refl h0 []).trans K105 all0).trans KQ5 (allS (Or.inr (Nat.le_of_eq g103.symm)) all0)), Or.inl ⟨lg0, lg1, AQ5⟩⟩
    · exact absurd (show (2 : Int32) = (2 : Int32) from (by decide)) b114
  · refine Go.icmp_eq 57 20 d4_17 (by decide) rfl rfl (fun (b115 : (Int32.ofNat i) = (2 : Int32)) => ?_) (fun (b115 : ¬ (Int32.ofNat i) = (2 : Int32)) => ?_)
    · exact absurd b115 (own_ofne hin (by decide))
    · refine Go.aloadN 21 rfl d4_20 rfl rfl ?_
      refine Go.iloadN 22 rfl d4_21 rfl ?_
      refine Go.iloadN 23 rfl d4_22 rfl ?_
      have F116 : Ary Z h112 s .char [.int x0, .int x1] := (F109.keep KQ5 (ninS ne110 nin0))
      refine Go.callS 26 rfl (C := B17) [.ref s, .int (0 : Int32), .int (2 : Int32)] (rest := []) 95 96 19 97 (c17n2 Z hw h112 s x0 x1 hAs hHi hLo F116) d4_23 rfl rfl rfl rfl (by decide) pd17 rfl rfl rfl (W := 0) (Nat.le_of_ble_eq_true rfl) (by decide) (by decide) (by decide) (by decide) fun v117 h118 q119 => ?_
      obtain ⟨u, rfl, gu, Ku, Au⟩ := q119
      have sz121 := (Nat.le_trans K105.1 KQ5.1)
      have z120 : Z.heap.size ≤ u := Nat.le_trans (Nat.le_trans hle sz121) gu
      refine Go.astore 28 rfl d4_26 rfl (Ls' := #[.val (.ref s), .val (.int (0 : Int32)), .val (.int (2 : Int32)), .val (.ref a101), .val (.int (Int32.ofNat i)), .val (.ref u)]) rfl ?_
      refine Go.aload 30 rfl d4_28 rfl rfl ?_
      refine Go.iload 32 rfl d4_30 rfl ?_
      refine Go.callS 35 rfl (C := B21) [.ref u, .int (Int32.ofNat i)] (rest := []) 111 112 19 113 (c21 Z hw h118 u (Int32.ofNat i) [lo x0, hi x0, lo x1, hi x1] i (len_ofNat (by omega)) (by omega) hAs hHi hLo (by show 2 * i + 1 < 4; omega) Au) d4_32 rfl rfl rfl rfl (by decide) pd21 rfl rfl rfl (W := 0) (Nat.le_of_ble_eq_true rfl) (by decide) (by decide) (by decide) (by decide) fun v122 h123 q124 => ?_
      obtain ⟨rfl, rfl⟩ := q124
      refine Go.eqI (w := ([x0, x1] : List Int32).getD i 0) (own_gc2 hin hx0 hx1) ?_
      refine Go.sipush 38 rfl (255 : Int32) d4_35 rfl ?_
      refine Go.icmp_gt 54 41 d4_38 (by decide) rfl rfl (fun (b125 : (255 : Int32) < (([x0, x1] : List Int32).getD i 0)) => ?_) (fun (b125 : ¬ (255 : Int32) < (([x0, x1] : List Int32).getD i 0)) => ?_)
      · refine Go.aload 56 rfl d4_54 rfl rfl ?_
        have kc126 : Keep h0 h118 [] := ((((Keep.refl h0 []).trans K105 all0).trans KQ5 (allS (Or.inr (Nat.le_of_eq g103.symm)) all0)).trans Ku all0)
        exact Go.retA d4_56 rfl rfl rfl (by decide) (by decide) ⟨u, rfl, (by have := K105.1; have := KQ5.1; have := gu; omega), kc126, Or.inr ⟨⟨i, hin, hbig⟩, Au⟩⟩
      · exact absurd hbig b125
theorem ef6n2k0 (mid : MethodId) (t : Addr) : entryFrame mid (List.toArray [.ref t, .int (2 : Int32)]) 2 = mkF mid 0 #[.val (.ref t), .val (.int (2 : Int32))] [] := by first | (simp [entryFrame, mkF, argsToLocals, Value.category]; done) | rfl
def Q6n2k0 (h0 : Heap) (v : Option Value) (h : Heap) : Prop := v = some (.int 0) ∧ h0 = h
set_option maxRecDepth 65536 in
set_option maxHeartbeats 40000000 in
theorem c6n2k0 (Z : State) (hw : Wd Z tables_1) (h0 : Heap) (t : Addr)  (vs : List Value) (hB : Ary Z h0 t .byte vs) (hl : vs.length = 2) : Con Z B6 (List.toArray [.ref t, .int (2 : Int32)]) h0 (Q6n2k0 h0) := by
  refine Con.mk hw pn6 (fun mid => ef6n2k0 mid t) (Go.old fun hle' => ?_)
  have hle := hle'.1
  refine Go.iloadN 1 rfl d6_0 rfl ?_
  refine Go.aloadN 2 rfl d6_1 rfl rfl ?_
  refine Go.alen 3 rfl (2 : Int32) d6_2 hB (by rw [hl]; rfl) ?_
  refine Go.isub 4 rfl d6_3 ?_
  refine Go.bipush 6 rfl (31 : Int32) d6_4 rfl ?_
  refine Go.iushr 7 rfl d6_6 ?_
  refine Go.i2b 8 rfl d6_7 ?_
  exact Go.retN (t := .byte) (z' := 0) d6_8 rfl (by decide) (by decide) (by decide) (by decide) ⟨rfl, rfl⟩
theorem ef6n2k1 (mid : MethodId) (t : Addr) : entryFrame mid (List.toArray [.ref t, .int (2 : Int32)]) 2 = mkF mid 0 #[.val (.ref t), .val (.int (2 : Int32))] [] := by first | (simp [entryFrame, mkF, argsToLocals, Value.category]; done) | rfl
def Q6n2k1 (h0 : Heap) (v : Option Value) (h : Heap) : Prop := v = some (.int 1) ∧ h0 = h
set_option maxRecDepth 65536 in
set_option maxHeartbeats 40000000 in
theorem c6n2k1 (Z : State) (hw : Wd Z tables_1) (h0 : Heap) (t : Addr)  (vs : List Value) (hB : Ary Z h0 t .byte vs) (hl : vs.length = 4) : Con Z B6 (List.toArray [.ref t, .int (2 : Int32)]) h0 (Q6n2k1 h0) := by
  refine Con.mk hw pn6 (fun mid => ef6n2k1 mid t) (Go.old fun hle' => ?_)
  have hle := hle'.1
  refine Go.iloadN 1 rfl d6_0 rfl ?_
  refine Go.aloadN 2 rfl d6_1 rfl rfl ?_
  refine Go.alen 3 rfl (4 : Int32) d6_2 hB (by rw [hl]; rfl) ?_
  refine Go.isub 4 rfl d6_3 ?_
  refine Go.bipush 6 rfl (31 : Int32) d6_4 rfl ?_
  refine Go.iushr 7 rfl d6_6 ?_
  refine Go.i2b 8 rfl d6_7 ?_
  exact Go.retN (t := .byte) (z' := 1) d6_8 rfl (by decide) (by decide) (by decide) (by decide) ⟨rfl, rfl⟩
theorem ef2n2 (mid : MethodId) (a : Addr) (s : Addr) : entryFrame mid (List.toArray [.ref a, .ref s, .int (0 : Int32), .int (2 : Int32), .null]) 6 = mkF mid 0 #[.val (.ref a), .val (.ref s), .val (.int (0 : Int32)), .val (.int (2 : Int32)), .val (.null), .unset] [] := by first | (simp [entryFrame, mkF, argsToLocals, Value.category]; done) | rfl
def Q2n2 (Z : State) (a : Addr) (x0 : Int32) (x1 : Int32) (h0 : Heap) (v : Option Value) (h : Heap) : Prop := v = none ∧ ∃ t, h0.size ≤ t ∧ Keep h0 h [a] ∧ Fld Z h a "java/lang/String" "value" "[B" (.ref t) ∧ ((Fld Z h a "java/lang/String" "coder" "B" (.int 0) ∧ ¬ (255 : Int32) < x0 ∧ ¬ (255 : Int32) < x1 ∧ Ary Z h t .byte (IL [l1 x0, l1 x1])) ∨ (Fld Z h a "java/lang/String" "coder" "B" (.int 1) ∧ (∃ i : Nat, i < 2 ∧ (255 : Int32) < ([x0, x1] : List Int32).getD i 0) ∧ Ary Z h t .byte (IL [lo x0, hi x0, lo x1, hi x1])))
set_option maxRecDepth 65536 in
set_option maxHeartbeats 40000000 in
theorem c2n2 (Z : State) (hw : Wd Z tables_1) (h0 : Heap) (a : Addr) (s : Addr) (x0 : Int32) (x1 : Int32) (cs : Int32) (hS : Sta Z Z.heap "java/lang/String" "COMPACT_STRINGS" "Z" (.int cs)) (hcs : ¬ cs = 0) (hAs : Sta Z Z.heap "java/lang/StringUTF16" "$assertionsDisabled" "Z" (.int 1)) (hHi : Sta Z Z.heap "java/lang/StringUTF16" "HI_BYTE_SHIFT" "I" (.int 0)) (hLo : Sta Z Z.heap "java/lang/StringUTF16" "LO_BYTE_SHIFT" "I" (.int 8)) (hge : Z.heap.size ≤ a) (hE : Exa Z h0 a "java/lang/String") (hV : Fld Z h0 a "java/lang/String" "value" "[B" .null) (hC : Fld Z h0 a "java/lang/String" "coder" "B" (.int 0)) (hA : Ary Z h0 s .char [.int x0, .int x1]) (hx0 : Ch x0) (hx1 : Ch x1) : Con Z B2 (List.toArray [.ref a, .ref s, .int (0 : Int32), .int (2 : Int32), .null]) h0 (Q2n2 Z a x0 x1 h0) := by
  refine Con.mk hw pn2 (fun mid => ef2n2 mid a s) (Go.old fun hle' => ?_)
  have hle := hle'.1
  refine Go.aloadN 1 rfl d2_0 rfl rfl ?_
  refine Go.initO 4 rfl 13 14 15 d2_1 rfl rfl rfl rfl (by decide) (W := 0) (Nat.le_of_ble_eq_true rfl) (by decide) ?_
  refine Go.iloadN 5 rfl d2_4 rfl ?_
  refine Go.if_ne 27 8 d2_5 (by decide) rfl rfl (fun (b101 : ¬ (2 : Int32) = 0) => ?_) (fun (b101 : (2 : Int32) = 0) => ?_)
  · refine Go.getS 30 rfl (v := .int cs) 16 d2_27 rfl hS ?_
    refine Go.if_eq 58 33 d2_30 (by decide) rfl rfl (fun (b102 : cs = 0) => ?_) (fun (b102 : ¬ cs = 0) => ?_)
    · exact absurd b102 (show ¬ cs = 0 from hcs)
    · refine Go.aloadN 34 rfl d2_33 rfl rfl ?_
      refine Go.iloadN 35 rfl d2_34 rfl ?_
      refine Go.iloadN 36 rfl d2_35 rfl ?_
      refine Go.callS 39 rfl (C := B4) [.ref s, .int (0 : Int32), .int (2 : Int32)] (rest := []) 17 18 19 20 (c4n2 Z hw h0 s x0 x1 hAs hHi hLo hA hx0 hx1) d2_36 rfl rfl rfl rfl (by decide) pd4 rfl rfl rfl (W := 0) (Nat.le_of_ble_eq_true rfl) (by decide) (by decide) (by decide) (by decide) fun v103 h104 q105 => ?_
      obtain ⟨t, rfl, g, K, D⟩ := q105
      have z106 : Z.heap.size ≤ t := Nat.le_trans hle g
      rcases D with ⟨lg0, lg1, A1⟩ | ⟨hbig, A1⟩
      · refine Go.astore 41 rfl d2_39 rfl (Ls' := #[.val (.ref a), .val (.ref s), .val (.int (0 : Int32)), .val (.int (2 : Int32)), .val (.null), .val (.ref t)]) rfl ?_
        refine Go.aloadN 42 rfl d2_41 rfl rfl ?_
        refine Go.aload 44 rfl d2_42 rfl rfl ?_
        refine Go.iloadN 45 rfl d2_44 rfl ?_
        refine Go.callS 48 rfl (C := B6) [.ref t, .int (2 : Int32)] (rest := [.ref a]) 24 25 19 26 (c6n2k0 Z hw h104 t (IL [l1 x0, l1 x1]) A1 rfl) d2_45 rfl rfl rfl rfl (by decide) pd6 rfl rfl rfl (W := 1) (Nat.le_of_ble_eq_true rfl) (by decide) (by decide) (by decide) (by decide) fun v107 h108 q109 => ?_
        obtain ⟨rfl, rfl⟩ := q109
        have F110 : Fld Z h104 a "java/lang/String" "coder" "B" (.int (0 : Int32)) := (hC.keep K nin0)
        have F111 : Exa Z h104 a "java/lang/String" := (hE.keep K)
        refine Go.putF 51 rfl (v' := .int (0 : Int32)) (ty := .byte) 27 28 4 d2_48 rfl F110 F111 (Or.inr ⟨rfl, rfl, rfl⟩) rfl (by decide) rfl rfl hge fun h112 K113 W114 F115 => ?_
        refine Go.aloadN 52 rfl d2_51 rfl rfl ?_
        refine Go.aload 54 rfl d2_52 rfl rfl ?_
        have F116 : Fld Z h112 a "java/lang/String" "value" "[B" (.null) := (Fld.oth hw (hV.keep K nin0) W114 30 28 (Or.inr rfl) (Or.inr rfl) (by decide) rfl rfl)
        have F117 : Exa Z h112 a "java/lang/String" := (F111.keep K113)
        refine Go.putF 57 rfl (v' := .ref t) (ty := (.array .byte)) 29 30 4 d2_54 rfl F116 F117 (Or.inr ⟨rfl, rfl, rfl⟩) rfl (by decide) rfl rfl hge fun h118 K119 W120 F121 => ?_
        have kc122 : Keep h0 h118 [a] := ((((Keep.refl h0 [a]).trans K all0).trans K113 (by simp)).trans K119 (by simp))
        have F123 : Fld Z h118 a "java/lang/String" "coder" "B" (.int (0 : Int32)) := (Fld.oth hw F115 W120 28 30 (Or.inr rfl) (Or.inr rfl) (by decide) rfl rfl)
        have ne124 : t ≠ a := (show @Ne Nat t a from by have := ltN hE.lt; have := g; omega)
        have F125 : Ary Z h118 t .byte (IL [l1 x0, l1 x1]) := ((A1.keep K113 (ninS ne124 nin0)).keep K119 (ninS ne124 nin0))
        exact Go.retV d2_57 rfl (by decide) (by decide) ⟨rfl, t, g, kc122, F121, Or.inl ⟨F123, lg0, lg1, F125⟩⟩
      · refine Go.astore 41 rfl d2_39 rfl (Ls' := #[.val (.ref a), .val (.ref s), .val (.int (0 : Int32)), .val (.int (2 : Int32)), .val (.null), .val (.ref t)]) rfl ?_
        refine Go.aloadN 42 rfl d2_41 rfl rfl ?_
        refine Go.aload 44 rfl d2_42 rfl rfl ?_
        refine Go.iloadN 45 rfl d2_44 rfl ?_
        refine Go.callS 48 rfl (C := B6) [.ref t, .int (2 : Int32)] (rest := [.ref a]) 24 25 19 26 (c6n2k1 Z hw h104 t (IL [lo x0, hi x0, lo x1, hi x1]) A1 rfl) d2_45 rfl rfl rfl rfl (by decide) pd6 rfl rfl rfl (W := 1) (Nat.le_of_ble_eq_true rfl) (by decide) (by decide) (by decide) (by decide) fun v126 h127 q128 => ?_
        obtain ⟨rfl, rfl⟩ := q128
        have F129 : Fld Z h104 a "java/lang/String" "coder" "B" (.int (0 : Int32)) := (hC.keep K nin0)
        have F130 : Exa Z h104 a "java/lang/String" := (hE.keep K)
        refine Go.putF 51 rfl (v' := .int (1 : Int32)) (ty := .byte) 27 28 4 d2_48 rfl F129 F130 (Or.inr ⟨rfl, rfl, rfl⟩) rfl (by decide) rfl rfl hge fun h131 K132 W133 F134 => ?_
        refine Go.aloadN 52 rfl d2_51 rfl rfl ?_
        refine Go.aload 54 rfl d2_52 rfl rfl ?_
        have F135 : Fld Z h131 a "java/lang/String" "value" "[B" (.null) := (Fld.oth hw (hV.keep K nin0) W133 30 28 (Or.inr rfl) (Or.inr rfl) (by decide) rfl rfl)
        have F136 : Exa Z h131 a "java/lang/String" := (F130.keep K132)
        refine Go.putF 57 rfl (v' := .ref t) (ty := (.array .byte)) 29 30 4 d2_54 rfl F135 F136 (Or.inr ⟨rfl, rfl, rfl⟩) rfl (by decide) rfl rfl hge fun h137 K138 W139 F140 => ?_
        have kc141 : Keep h0 h137 [a] := ((((Keep.refl h0 [a]).trans K all0).trans K132 (by simp)).trans K138 (by simp))
        have F142 : Fld Z h137 a "java/lang/String" "coder" "B" (.int (1 : Int32)) := (Fld.oth hw F134 W139 28 30 (Or.inr rfl) (Or.inr rfl) (by decide) rfl rfl)
        have ne143 : t ≠ a := (show @Ne Nat t a from by have := ltN hE.lt; have := g; omega)
        have F144 : Ary Z h137 t .byte (IL [lo x0, hi x0, lo x1, hi x1]) := ((A1.keep K132 (ninS ne143 nin0)).keep K138 (ninS ne143 nin0))
        exact Go.retV d2_57 rfl (by decide) (by decide) ⟨rfl, t, g, kc141, F140, Or.inr ⟨F142, hbig, F144⟩⟩
  · exact absurd b101 (show ¬ (2 : Int32) = 0 from (by decide))
theorem ef1n2 (mid : MethodId) (a : Addr) (s : Addr) : entryFrame mid (List.toArray [.ref a, .ref s]) 2 = mkF mid 0 #[.val (.ref a), .val (.ref s)] [] := by first | (simp [entryFrame, mkF, argsToLocals, Value.category]; done) | rfl
def Q1n2 (Z : State) (a : Addr) (x0 : Int32) (x1 : Int32) (h0 : Heap) (v : Option Value) (h : Heap) : Prop := v = none ∧ ∃ t, h0.size ≤ t ∧ Keep h0 h [a] ∧ Fld Z h a "java/lang/String" "value" "[B" (.ref t) ∧ ((Fld Z h a "java/lang/String" "coder" "B" (.int 0) ∧ ¬ (255 : Int32) < x0 ∧ ¬ (255 : Int32) < x1 ∧ Ary Z h t .byte (IL [l1 x0, l1 x1])) ∨ (Fld Z h a "java/lang/String" "coder" "B" (.int 1) ∧ (∃ i : Nat, i < 2 ∧ (255 : Int32) < ([x0, x1] : List Int32).getD i 0) ∧ Ary Z h t .byte (IL [lo x0, hi x0, lo x1, hi x1])))
set_option maxRecDepth 65536 in
set_option maxHeartbeats 40000000 in
theorem c1n2 (Z : State) (hw : Wd Z tables_1) (h0 : Heap) (a : Addr) (s : Addr) (x0 : Int32) (x1 : Int32) (cs : Int32) (hS : Sta Z Z.heap "java/lang/String" "COMPACT_STRINGS" "Z" (.int cs)) (hcs : ¬ cs = 0) (hAs : Sta Z Z.heap "java/lang/StringUTF16" "$assertionsDisabled" "Z" (.int 1)) (hHi : Sta Z Z.heap "java/lang/StringUTF16" "HI_BYTE_SHIFT" "I" (.int 0)) (hLo : Sta Z Z.heap "java/lang/StringUTF16" "LO_BYTE_SHIFT" "I" (.int 8)) (hge : Z.heap.size ≤ a) (hE : Exa Z h0 a "java/lang/String") (hV : Fld Z h0 a "java/lang/String" "value" "[B" .null) (hC : Fld Z h0 a "java/lang/String" "coder" "B" (.int 0)) (hA : Ary Z h0 s .char [.int x0, .int x1]) (hx0 : Ch x0) (hx1 : Ch x1) : Con Z B1 (List.toArray [.ref a, .ref s]) h0 (Q1n2 Z a x0 x1 h0) := by
  refine Con.mk hw pn1 (fun mid => ef1n2 mid a s) (Go.old fun hle' => ?_)
  have hle := hle'.1
  refine Go.aloadN 1 rfl d1_0 rfl rfl ?_
  refine Go.aloadN 2 rfl d1_1 rfl rfl ?_
  refine Go.iconst 3 rfl (0 : Int32) d1_2 rfl ?_
  refine Go.aloadN 4 rfl d1_3 rfl rfl ?_
  refine Go.alen 5 rfl (2 : Int32) d1_4 hA rfl ?_
  refine Go.aconstNull 6 rfl d1_5 ?_
  refine Go.callI 9 rfl (C := B2) a [.ref s, .int (0 : Int32), .int (2 : Int32), .null] (rest := []) 9 10 5 12 (c2n2 Z hw h0 a s x0 x1 cs hS hcs hAs hHi hLo hge hE hV hC hA hx0 hx1) d1_6 rfl rfl rfl rfl rfl rfl (by decide) pd2 rfl rfl rfl (W := 0) (Nat.le_of_ble_eq_true rfl) (by decide) (by decide) (by decide) (by decide) fun v101 h102 q103 => ?_
  obtain ⟨rfl, t, g, K, F, D⟩ := q103
  exact Go.retV d1_9 rfl (by decide) (by decide) ⟨rfl, t, g, K, F, D⟩
theorem d14_0 : decode jdk_42_method_35_code 0 = .ok (.iload_n 0, 1) := by decide +kernel
theorem d14_1 : decode jdk_42_method_35_code 1 = .ok (.bipush 6, 2) := by decide +kernel
theorem d14_3 : decode jdk_42_method_35_code 3 = .ok (.ishl, 1) := by decide +kernel
theorem d14_4 : decode jdk_42_method_35_code 4 = .ok (.iload_n 1, 1) := by decide +kernel
theorem d14_5 : decode jdk_42_method_35_code 5 = .ok (.ixor, 1) := by decide +kernel
theorem d14_6 : decode jdk_42_method_35_code 6 = .ok (.sipush 3968, 3) := by decide +kernel
theorem d14_9 : decode jdk_42_method_35_code 9 = .ok (.ixor, 1) := by decide +kernel
theorem d14_10 : decode jdk_42_method_35_code 10 = .ok (.i2c, 1) := by decide +kernel
theorem d14_11 : decode jdk_42_method_35_code 11 = .ok (.ireturn, 1) := by decide +kernel
theorem pd14 : parseMethodDescriptor "(II)C" = some ⟨[.int, .int], some .char⟩ := by decide +kernel
theorem pn14 : plainFor (⟨"java/lang/String", "decode2", "(II)C"⟩ : MethodName) = true := by first | (refine plainFor_of_name ?_; simp [plainName, overriddenIn]; done) | (refine plainFor_of_name ?_; decide +kernel) | decide +kernel
abbrev B14 : Bd := ((⟨"java/lang/String", "decode2", "(II)C"⟩ : MethodName), jdk_42_method_35_code, 2, (some .char), ({ frames := 0, cells := 0, slots := 0, locals := 0 } : Room), tables_1)
theorem ef14 (mid : MethodId) (p : Int32) (q : Int32) : entryFrame mid (List.toArray [.int p, .int q]) 2 = mkF mid 0 #[.val (.int p), .val (.int q)] [] := by first | (simp [entryFrame, mkF, argsToLocals, Value.category]; done) | rfl
def Q14 (x : Int32) (h0 : Heap) (v : Option Value) (h : Heap) : Prop := v = some (.int x) ∧ h0 = h
set_option maxRecDepth 65536 in
set_option maxHeartbeats 40000000 in
theorem c14 (Z : State) (hw : Wd Z tables_1) (h0 : Heap) (p : Int32) (q : Int32) (x : Int32) (hx : ((p <<< ((6 : Int32) &&& 31)) ^^^ q ^^^ (3968 : Int32)).toUInt32.toUInt16.toUInt32.toInt32 = x) : Con Z B14 (List.toArray [.int p, .int q]) h0 (Q14 x h0) := by
  refine Con.mk hw pn14 (fun mid => ef14 mid p q) (Go.old fun hle' => ?_)
  have hle := hle'.1
  refine Go.iloadN 1 rfl d14_0 rfl ?_
  refine Go.bipush 3 rfl (6 : Int32) d14_1 rfl ?_
  refine Go.ishl 4 rfl d14_3 ?_
  refine Go.iloadN 5 rfl d14_4 rfl ?_
  refine Go.ixor 6 rfl d14_5 ?_
  refine Go.sipush 9 rfl (3968 : Int32) d14_6 rfl ?_
  refine Go.ixor 10 rfl d14_9 ?_
  refine Go.i2c 11 rfl d14_10 ?_
  refine Go.eqI (w := x) hx ?_
  exact Go.retN (t := .char) (z' := x) d14_11 rfl (by decide) (own_nc (own_ch hx)) (by decide) (by decide) ⟨rfl, rfl⟩
theorem d36_0 : decode jdk_42_method_36_code 0 = .ok (.iload_n 0, 1) := by decide +kernel
theorem d36_1 : decode jdk_42_method_36_code 1 = .ok (.bipush 12, 2) := by decide +kernel
theorem d36_3 : decode jdk_42_method_36_code 3 = .ok (.ishl, 1) := by decide +kernel
theorem d36_4 : decode jdk_42_method_36_code 4 = .ok (.iload_n 1, 1) := by decide +kernel
theorem d36_5 : decode jdk_42_method_36_code 5 = .ok (.bipush 6, 2) := by decide +kernel
theorem d36_7 : decode jdk_42_method_36_code 7 = .ok (.ishl, 1) := by decide +kernel
theorem d36_8 : decode jdk_42_method_36_code 8 = .ok (.ixor, 1) := by decide +kernel
theorem d36_9 : decode jdk_42_method_36_code 9 = .ok (.iload_n 2, 1) := by decide +kernel
theorem d36_10 : decode jdk_42_method_36_code 10 = .ok (.ldc_w 383, 3) := by decide +kernel
theorem d36_13 : decode jdk_42_method_36_code 13 = .ok (.ixor, 1) := by decide +kernel
theorem d36_14 : decode jdk_42_method_36_code 14 = .ok (.ixor, 1) := by decide +kernel
theorem d36_15 : decode jdk_42_method_36_code 15 = .ok (.i2c, 1) := by decide +kernel
theorem d36_16 : decode jdk_42_method_36_code 16 = .ok (.ireturn, 1) := by decide +kernel
theorem pd36 : parseMethodDescriptor "(III)C" = some ⟨[.int, .int, .int], some .char⟩ := by decide +kernel
theorem pn36 : plainFor (⟨"java/lang/String", "decode3", "(III)C"⟩ : MethodName) = true := by first | (refine plainFor_of_name ?_; simp [plainName, overriddenIn]; done) | (refine plainFor_of_name ?_; decide +kernel) | decide +kernel
abbrev B36 : Bd := ((⟨"java/lang/String", "decode3", "(III)C"⟩ : MethodName), jdk_42_method_36_code, 3, (some .char), ({ frames := 0, cells := 0, slots := 0, locals := 0 } : Room), tables_1)
theorem ef36 (mid : MethodId) (p : Int32) (q : Int32) (r : Int32) : entryFrame mid (List.toArray [.int p, .int q, .int r]) 3 = mkF mid 0 #[.val (.int p), .val (.int q), .val (.int r)] [] := by first | (simp [entryFrame, mkF, argsToLocals, Value.category]; done) | rfl
def Q36 (x : Int32) (h0 : Heap) (v : Option Value) (h : Heap) : Prop := v = some (.int x) ∧ h0 = h
set_option maxRecDepth 65536 in
set_option maxHeartbeats 40000000 in
theorem c36 (Z : State) (hw : Wd Z tables_1) (h0 : Heap) (p : Int32) (q : Int32) (r : Int32) (x : Int32) (hx : (((p <<< ((12 : Int32) &&& 31)) ^^^ (q <<< ((6 : Int32) &&& 31))) ^^^ (r ^^^ (-123008 : Int32))).toUInt32.toUInt16.toUInt32.toInt32 = x) : Con Z B36 (List.toArray [.int p, .int q, .int r]) h0 (Q36 x h0) := by
  refine Con.mk hw pn36 (fun mid => ef36 mid p q r) (Go.old fun hle' => ?_)
  have hle := hle'.1
  refine Go.iloadN 1 rfl d36_0 rfl ?_
  refine Go.bipush 3 rfl (12 : Int32) d36_1 rfl ?_
  refine Go.ishl 4 rfl d36_3 ?_
  refine Go.iloadN 5 rfl d36_4 rfl ?_
  refine Go.bipush 7 rfl (6 : Int32) d36_5 rfl ?_
  refine Go.ishl 8 rfl d36_7 ?_
  refine Go.ixor 9 rfl d36_8 ?_
  refine Go.iloadN 10 rfl d36_9 rfl ?_
  refine Go.ldcWI 13 rfl (v := (-123008 : Int32)) 176 d36_10 rfl ?_
  refine Go.ixor 14 rfl d36_13 ?_
  refine Go.ixor 15 rfl d36_14 ?_
  refine Go.i2c 16 rfl d36_15 ?_
  refine Go.eqI (w := x) hx ?_
  exact Go.retN (t := .char) (z' := x) d36_16 rfl (by decide) (own_nc (own_ch hx)) (by decide) (by decide) ⟨rfl, rfl⟩
theorem d29_0 : decode jdk_42_method_37_code 0 = .ok (.iload_n 0, 1) := by decide +kernel
theorem d29_1 : decode jdk_42_method_37_code 1 = .ok (.bipush 18, 2) := by decide +kernel
theorem d29_3 : decode jdk_42_method_37_code 3 = .ok (.ishl, 1) := by decide +kernel
theorem d29_4 : decode jdk_42_method_37_code 4 = .ok (.iload_n 1, 1) := by decide +kernel
theorem d29_5 : decode jdk_42_method_37_code 5 = .ok (.bipush 12, 2) := by decide +kernel
theorem d29_7 : decode jdk_42_method_37_code 7 = .ok (.ishl, 1) := by decide +kernel
theorem d29_8 : decode jdk_42_method_37_code 8 = .ok (.ixor, 1) := by decide +kernel
theorem d29_9 : decode jdk_42_method_37_code 9 = .ok (.iload_n 2, 1) := by decide +kernel
theorem d29_10 : decode jdk_42_method_37_code 10 = .ok (.bipush 6, 2) := by decide +kernel
theorem d29_12 : decode jdk_42_method_37_code 12 = .ok (.ishl, 1) := by decide +kernel
theorem d29_13 : decode jdk_42_method_37_code 13 = .ok (.ixor, 1) := by decide +kernel
theorem d29_14 : decode jdk_42_method_37_code 14 = .ok (.iload_n 3, 1) := by decide +kernel
theorem d29_15 : decode jdk_42_method_37_code 15 = .ok (.ldc_w 384, 3) := by decide +kernel
theorem d29_18 : decode jdk_42_method_37_code 18 = .ok (.ixor, 1) := by decide +kernel
theorem d29_19 : decode jdk_42_method_37_code 19 = .ok (.ixor, 1) := by decide +kernel
theorem d29_20 : decode jdk_42_method_37_code 20 = .ok (.ireturn, 1) := by decide +kernel
theorem pd29 : parseMethodDescriptor "(IIII)I" = some ⟨[.int, .int, .int, .int], some .int⟩ := by decide +kernel
theorem pn29 : plainFor (⟨"java/lang/String", "decode4", "(IIII)I"⟩ : MethodName) = true := by first | (refine plainFor_of_name ?_; simp [plainName, overriddenIn]; done) | (refine plainFor_of_name ?_; decide +kernel) | decide +kernel
abbrev B29 : Bd := ((⟨"java/lang/String", "decode4", "(IIII)I"⟩ : MethodName), jdk_42_method_37_code, 4, (some .int), ({ frames := 0, cells := 0, slots := 0, locals := 0 } : Room), tables_1)
theorem ef29 (mid : MethodId) (p : Int32) (q : Int32) (r : Int32) (s : Int32) : entryFrame mid (List.toArray [.int p, .int q, .int r, .int s]) 4 = mkF mid 0 #[.val (.int p), .val (.int q), .val (.int r), .val (.int s)] [] := by first | (simp [entryFrame, mkF, argsToLocals, Value.category]; done) | rfl
def Q29 (x : Int32) (h0 : Heap) (v : Option Value) (h : Heap) : Prop := v = some (.int x) ∧ h0 = h
set_option maxRecDepth 65536 in
set_option maxHeartbeats 40000000 in
theorem c29 (Z : State) (hw : Wd Z tables_1) (h0 : Heap) (p : Int32) (q : Int32) (r : Int32) (s : Int32) (x : Int32) (hx : (((p <<< ((18 : Int32) &&& 31)) ^^^ (q <<< ((12 : Int32) &&& 31))) ^^^ (r <<< ((6 : Int32) &&& 31))) ^^^ (s ^^^ (3678080 : Int32)) = x) : Con Z B29 (List.toArray [.int p, .int q, .int r, .int s]) h0 (Q29 x h0) := by
  refine Con.mk hw pn29 (fun mid => ef29 mid p q r s) (Go.old fun hle' => ?_)
  have hle := hle'.1
  refine Go.iloadN 1 rfl d29_0 rfl ?_
  refine Go.bipush 3 rfl (18 : Int32) d29_1 rfl ?_
  refine Go.ishl 4 rfl d29_3 ?_
  refine Go.iloadN 5 rfl d29_4 rfl ?_
  refine Go.bipush 7 rfl (12 : Int32) d29_5 rfl ?_
  refine Go.ishl 8 rfl d29_7 ?_
  refine Go.ixor 9 rfl d29_8 ?_
  refine Go.iloadN 10 rfl d29_9 rfl ?_
  refine Go.bipush 12 rfl (6 : Int32) d29_10 rfl ?_
  refine Go.ishl 13 rfl d29_12 ?_
  refine Go.ixor 14 rfl d29_13 ?_
  refine Go.iloadN 15 rfl d29_14 rfl ?_
  refine Go.ldcWI 18 rfl (v := (3678080 : Int32)) 147 d29_15 rfl ?_
  refine Go.ixor 19 rfl d29_18 ?_
  refine Go.ixor 20 rfl d29_19 ?_
  refine Go.eqI (w := x) hx ?_
  exact Go.retI d29_20 rfl (by decide) (by decide) ⟨rfl, rfl⟩
theorem d32_0 : decode jdk_89_method_28_code 0 = .ok (.iload_n 0, 1) := by decide +kernel
theorem d32_1 : decode jdk_89_method_28_code 1 = .ok (.bipush 10, 2) := by decide +kernel
theorem d32_3 : decode jdk_89_method_28_code 3 = .ok (.iushr, 1) := by decide +kernel
theorem d32_4 : decode jdk_89_method_28_code 4 = .ok (.ldc 110, 2) := by decide +kernel
theorem d32_6 : decode jdk_89_method_28_code 6 = .ok (.iadd, 1) := by decide +kernel
theorem d32_7 : decode jdk_89_method_28_code 7 = .ok (.i2c, 1) := by decide +kernel
theorem d32_8 : decode jdk_89_method_28_code 8 = .ok (.ireturn, 1) := by decide +kernel
theorem pd32 : parseMethodDescriptor "(I)C" = some ⟨[.int], some .char⟩ := by decide +kernel
theorem pn32 : plainFor (⟨"java/lang/Character", "highSurrogate", "(I)C"⟩ : MethodName) = true := by first | (refine plainFor_of_name ?_; simp [plainName, overriddenIn]; done) | (refine plainFor_of_name ?_; decide +kernel) | decide +kernel
abbrev B32 : Bd := ((⟨"java/lang/Character", "highSurrogate", "(I)C"⟩ : MethodName), jdk_89_method_28_code, 1, (some .char), ({ frames := 0, cells := 0, slots := 0, locals := 0 } : Room), tables_1)
theorem ef32 (mid : MethodId) (p : Int32) : entryFrame mid (List.toArray [.int p]) 1 = mkF mid 0 #[.val (.int p)] [] := by first | (simp [entryFrame, mkF, argsToLocals, Value.category]; done) | rfl
def Q32 (x : Int32) (h0 : Heap) (v : Option Value) (h : Heap) : Prop := v = some (.int x) ∧ h0 = h
set_option maxRecDepth 65536 in
set_option maxHeartbeats 40000000 in
theorem c32 (Z : State) (hw : Wd Z tables_1) (h0 : Heap) (p : Int32) (x : Int32) (hx : (XT.ushr p (10 : Int32) + (55232 : Int32)).toUInt32.toUInt16.toUInt32.toInt32 = x) : Con Z B32 (List.toArray [.int p]) h0 (Q32 x h0) := by
  refine Con.mk hw pn32 (fun mid => ef32 mid p) (Go.old fun hle' => ?_)
  have hle := hle'.1
  refine Go.iloadN 1 rfl d32_0 rfl ?_
  refine Go.bipush 3 rfl (10 : Int32) d32_1 rfl ?_
  refine Go.iushr 4 rfl d32_3 ?_
  refine Go.ldcI 6 rfl (v := (55232 : Int32)) 160 d32_4 rfl ?_
  refine Go.iadd 7 rfl d32_6 ?_
  refine Go.i2c 8 rfl d32_7 ?_
  refine Go.eqI (w := x) hx ?_
  exact Go.retN (t := .char) (z' := x) d32_8 rfl (by decide) (own_nc (own_ch hx)) (by decide) (by decide) ⟨rfl, rfl⟩
theorem d33_0 : decode jdk_89_method_29_code 0 = .ok (.iload_n 0, 1) := by decide +kernel
theorem d33_1 : decode jdk_89_method_29_code 1 = .ok (.sipush 1023, 3) := by decide +kernel
theorem d33_4 : decode jdk_89_method_29_code 4 = .ok (.iand, 1) := by decide +kernel
theorem d33_5 : decode jdk_89_method_29_code 5 = .ok (.ldc 76, 2) := by decide +kernel
theorem d33_7 : decode jdk_89_method_29_code 7 = .ok (.iadd, 1) := by decide +kernel
theorem d33_8 : decode jdk_89_method_29_code 8 = .ok (.i2c, 1) := by decide +kernel
theorem d33_9 : decode jdk_89_method_29_code 9 = .ok (.ireturn, 1) := by decide +kernel
theorem pd33 : parseMethodDescriptor "(I)C" = some ⟨[.int], some .char⟩ := by decide +kernel
theorem pn33 : plainFor (⟨"java/lang/Character", "lowSurrogate", "(I)C"⟩ : MethodName) = true := by first | (refine plainFor_of_name ?_; simp [plainName, overriddenIn]; done) | (refine plainFor_of_name ?_; decide +kernel) | decide +kernel
abbrev B33 : Bd := ((⟨"java/lang/Character", "lowSurrogate", "(I)C"⟩ : MethodName), jdk_89_method_29_code, 1, (some .char), ({ frames := 0, cells := 0, slots := 0, locals := 0 } : Room), tables_1)
theorem ef33 (mid : MethodId) (p : Int32) : entryFrame mid (List.toArray [.int p]) 1 = mkF mid 0 #[.val (.int p)] [] := by first | (simp [entryFrame, mkF, argsToLocals, Value.category]; done) | rfl
def Q33 (x : Int32) (h0 : Heap) (v : Option Value) (h : Heap) : Prop := v = some (.int x) ∧ h0 = h
set_option maxRecDepth 65536 in
set_option maxHeartbeats 40000000 in
theorem c33 (Z : State) (hw : Wd Z tables_1) (h0 : Heap) (p : Int32) (x : Int32) (hx : ((p &&& (1023 : Int32)) + (56320 : Int32)).toUInt32.toUInt16.toUInt32.toInt32 = x) : Con Z B33 (List.toArray [.int p]) h0 (Q33 x h0) := by
  refine Con.mk hw pn33 (fun mid => ef33 mid p) (Go.old fun hle' => ?_)
  have hle := hle'.1
  refine Go.iloadN 1 rfl d33_0 rfl ?_
  refine Go.sipush 4 rfl (1023 : Int32) d33_1 rfl ?_
  refine Go.iand 5 rfl d33_4 ?_
  refine Go.ldcI 7 rfl (v := (56320 : Int32)) 164 d33_5 rfl ?_
  refine Go.iadd 8 rfl d33_7 ?_
  refine Go.i2c 9 rfl d33_8 ?_
  refine Go.eqI (w := x) hx ?_
  exact Go.retN (t := .char) (z' := x) d33_9 rfl (by decide) (own_nc (own_ch hx)) (by decide) (by decide) ⟨rfl, rfl⟩
theorem d34_0 : decode jdk_42_method_29_code 0 = .ok (.iload_n 0, 1) := by decide +kernel
theorem d34_1 : decode jdk_42_method_29_code 1 = .ok (.sipush 192, 3) := by decide +kernel
theorem d34_4 : decode jdk_42_method_29_code 4 = .ok (.iand, 1) := by decide +kernel
theorem d34_5 : decode jdk_42_method_29_code 5 = .ok (.sipush 128, 3) := by decide +kernel
theorem d34_8 : decode jdk_42_method_29_code 8 = .ok (.if_icmp .eq 7, 3) := by decide +kernel
theorem d34_15 : decode jdk_42_method_29_code 15 = .ok (.iconst 0, 1) := by decide +kernel
theorem d34_16 : decode jdk_42_method_29_code 16 = .ok (.ireturn, 1) := by decide +kernel
theorem pd34 : parseMethodDescriptor "(I)Z" = some ⟨[.int], some .boolean⟩ := by decide +kernel
theorem pn34 : plainFor (⟨"java/lang/String", "isNotContinuation", "(I)Z"⟩ : MethodName) = true := by first | (refine plainFor_of_name ?_; simp [plainName, overriddenIn]; done) | (refine plainFor_of_name ?_; decide +kernel) | decide +kernel
abbrev B34 : Bd := ((⟨"java/lang/String", "isNotContinuation", "(I)Z"⟩ : MethodName), jdk_42_method_29_code, 1, (some .boolean), ({ frames := 0, cells := 0, slots := 0, locals := 0 } : Room), tables_1)
theorem ef34 (mid : MethodId) (p : Int32) : entryFrame mid (List.toArray [.int p]) 1 = mkF mid 0 #[.val (.int p)] [] := by first | (simp [entryFrame, mkF, argsToLocals, Value.category]; done) | rfl
def Q34 (h0 : Heap) (v : Option Value) (h : Heap) : Prop := v = some (.int 0) ∧ h0 = h
set_option maxRecDepth 65536 in
set_option maxHeartbeats 40000000 in
theorem c34 (Z : State) (hw : Wd Z tables_1) (h0 : Heap) (p : Int32)  (h1 : (p &&& (192 : Int32)) = (128 : Int32)) : Con Z B34 (List.toArray [.int p]) h0 (Q34 h0) := by
  refine Con.mk hw pn34 (fun mid => ef34 mid p) (Go.old fun hle' => ?_)
  have hle := hle'.1
  refine Go.iloadN 1 rfl d34_0 rfl ?_
  refine Go.sipush 4 rfl (192 : Int32) d34_1 rfl ?_
  refine Go.iand 5 rfl d34_4 ?_
  refine Go.sipush 8 rfl (128 : Int32) d34_5 rfl ?_
  refine Go.icmp_eq 15 11 d34_8 (by decide) rfl rfl (fun (b101 : (p &&& (192 : Int32)) = (128 : Int32)) => ?_) (fun (b101 : ¬ (p &&& (192 : Int32)) = (128 : Int32)) => ?_)
  · refine Go.iconst 16 rfl (0 : Int32) d34_15 rfl ?_
    exact Go.retN (t := .boolean) (z' := 0) d34_16 rfl (by decide) (by decide) (by decide) (by decide) ⟨rfl, rfl⟩
  · exact absurd (show (p &&& (192 : Int32)) = (128 : Int32) from h1) b101
theorem d30_0 : decode jdk_42_method_32_code 0 = .ok (.iload_n 0, 1) := by decide +kernel
theorem d30_1 : decode jdk_42_method_32_code 1 = .ok (.sipush 192, 3) := by decide +kernel
theorem d30_4 : decode jdk_42_method_32_code 4 = .ok (.iand, 1) := by decide +kernel
theorem d30_5 : decode jdk_42_method_32_code 5 = .ok (.sipush 128, 3) := by decide +kernel
theorem d30_8 : decode jdk_42_method_32_code 8 = .ok (.if_icmp .ne 25, 3) := by decide +kernel
theorem d30_11 : decode jdk_42_method_32_code 11 = .ok (.iload_n 1, 1) := by decide +kernel
theorem d30_12 : decode jdk_42_method_32_code 12 = .ok (.sipush 192, 3) := by decide +kernel
theorem d30_15 : decode jdk_42_method_32_code 15 = .ok (.iand, 1) := by decide +kernel
theorem d30_16 : decode jdk_42_method_32_code 16 = .ok (.sipush 128, 3) := by decide +kernel
theorem d30_19 : decode jdk_42_method_32_code 19 = .ok (.if_icmp .ne 14, 3) := by decide +kernel
theorem d30_22 : decode jdk_42_method_32_code 22 = .ok (.iload_n 2, 1) := by decide +kernel
theorem d30_23 : decode jdk_42_method_32_code 23 = .ok (.sipush 192, 3) := by decide +kernel
theorem d30_26 : decode jdk_42_method_32_code 26 = .ok (.iand, 1) := by decide +kernel
theorem d30_27 : decode jdk_42_method_32_code 27 = .ok (.sipush 128, 3) := by decide +kernel
theorem d30_30 : decode jdk_42_method_32_code 30 = .ok (.if_icmp .eq 7, 3) := by decide +kernel
theorem d30_37 : decode jdk_42_method_32_code 37 = .ok (.iconst 0, 1) := by decide +kernel
theorem d30_38 : decode jdk_42_method_32_code 38 = .ok (.ireturn, 1) := by decide +kernel
theorem pd30 : parseMethodDescriptor "(III)Z" = some ⟨[.int, .int, .int], some .boolean⟩ := by decide +kernel
theorem pn30 : plainFor (⟨"java/lang/String", "isMalformed4", "(III)Z"⟩ : MethodName) = true := by first | (refine plainFor_of_name ?_; simp [plainName, overriddenIn]; done) | (refine plainFor_of_name ?_; decide +kernel) | decide +kernel
abbrev B30 : Bd := ((⟨"java/lang/String", "isMalformed4", "(III)Z"⟩ : MethodName), jdk_42_method_32_code, 3, (some .boolean), ({ frames := 0, cells := 0, slots := 0, locals := 0 } : Room), tables_1)
theorem ef30 (mid : MethodId) (p : Int32) (q : Int32) (r : Int32) : entryFrame mid (List.toArray [.int p, .int q, .int r]) 3 = mkF mid 0 #[.val (.int p), .val (.int q), .val (.int r)] [] := by first | (simp [entryFrame, mkF, argsToLocals, Value.category]; done) | rfl
def Q30 (h0 : Heap) (v : Option Value) (h : Heap) : Prop := v = some (.int 0) ∧ h0 = h
set_option maxRecDepth 65536 in
set_option maxHeartbeats 40000000 in
theorem c30 (Z : State) (hw : Wd Z tables_1) (h0 : Heap) (p : Int32) (q : Int32) (r : Int32)  (h1 : (p &&& (192 : Int32)) = (128 : Int32)) (h2 : (q &&& (192 : Int32)) = (128 : Int32)) (h3 : (r &&& (192 : Int32)) = (128 : Int32)) : Con Z B30 (List.toArray [.int p, .int q, .int r]) h0 (Q30 h0) := by
  refine Con.mk hw pn30 (fun mid => ef30 mid p q r) (Go.old fun hle' => ?_)
  have hle := hle'.1
  refine Go.iloadN 1 rfl d30_0 rfl ?_
  refine Go.sipush 4 rfl (192 : Int32) d30_1 rfl ?_
  refine Go.iand 5 rfl d30_4 ?_
  refine Go.sipush 8 rfl (128 : Int32) d30_5 rfl ?_
  refine Go.icmp_ne 33 11 d30_8 (by decide) rfl rfl (fun (b101 : ¬ (p &&& (192 : Int32)) = (128 : Int32)) => ?_) (fun (b101 : (p &&& (192 : Int32)) = (128 : Int32)) => ?_)
  · exact absurd (show (p &&& (192 : Int32)) = (128 : Int32) from h1) b101
  · refine Go.iloadN 12 rfl d30_11 rfl ?_
    refine Go.sipush 15 rfl (192 : Int32) d30_12 rfl ?_
    refine Go.iand 16 rfl d30_15 ?_
    refine Go.sipush 19 rfl (128 : Int32) d30_16 rfl ?_
    refine Go.icmp_ne 33 22 d30_19 (by decide) rfl rfl (fun (b102 : ¬ (q &&& (192 : Int32)) = (128 : Int32)) => ?_) (fun (b102 : (q &&& (192 : Int32)) = (128 : Int32)) => ?_)
    · exact absurd (show (q &&& (192 : Int32)) = (128 : Int32) from h2) b102
    · refine Go.iloadN 23 rfl d30_22 rfl ?_
      refine Go.sipush 26 rfl (192 : Int32) d30_23 rfl ?_
      refine Go.iand 27 rfl d30_26 ?_
      refine Go.sipush 30 rfl (128 : Int32) d30_27 rfl ?_
      refine Go.icmp_eq 37 33 d30_30 (by decide) rfl rfl (fun (b103 : (r &&& (192 : Int32)) = (128 : Int32)) => ?_) (fun (b103 : ¬ (r &&& (192 : Int32)) = (128 : Int32)) => ?_)
      · refine Go.iconst 38 rfl (0 : Int32) d30_37 rfl ?_
        exact Go.retN (t := .boolean) (z' := 0) d30_38 rfl (by decide) (by decide) (by decide) (by decide) ⟨rfl, rfl⟩
      · exact absurd (show (r &&& (192 : Int32)) = (128 : Int32) from h3) b103
theorem d35_0 : decode jdk_42_method_30_code 0 = .ok (.iload_n 0, 1) := by decide +kernel
theorem d35_1 : decode jdk_42_method_30_code 1 = .ok (.bipush (-32), 2) := by decide +kernel
theorem d35_3 : decode jdk_42_method_30_code 3 = .ok (.if_icmp .ne 14, 3) := by decide +kernel
theorem d35_6 : decode jdk_42_method_30_code 6 = .ok (.iload_n 1, 1) := by decide +kernel
theorem d35_7 : decode jdk_42_method_30_code 7 = .ok (.sipush 224, 3) := by decide +kernel
theorem d35_10 : decode jdk_42_method_30_code 10 = .ok (.iand, 1) := by decide +kernel
theorem d35_11 : decode jdk_42_method_30_code 11 = .ok (.sipush 128, 3) := by decide +kernel
theorem d35_14 : decode jdk_42_method_30_code 14 = .ok (.if_icmp .eq 25, 3) := by decide +kernel
theorem d35_17 : decode jdk_42_method_30_code 17 = .ok (.iload_n 1, 1) := by decide +kernel
theorem d35_18 : decode jdk_42_method_30_code 18 = .ok (.sipush 192, 3) := by decide +kernel
theorem d35_21 : decode jdk_42_method_30_code 21 = .ok (.iand, 1) := by decide +kernel
theorem d35_22 : decode jdk_42_method_30_code 22 = .ok (.sipush 128, 3) := by decide +kernel
theorem d35_25 : decode jdk_42_method_30_code 25 = .ok (.if_icmp .ne 14, 3) := by decide +kernel
theorem d35_28 : decode jdk_42_method_30_code 28 = .ok (.iload_n 2, 1) := by decide +kernel
theorem d35_29 : decode jdk_42_method_30_code 29 = .ok (.sipush 192, 3) := by decide +kernel
theorem d35_32 : decode jdk_42_method_30_code 32 = .ok (.iand, 1) := by decide +kernel
theorem d35_33 : decode jdk_42_method_30_code 33 = .ok (.sipush 128, 3) := by decide +kernel
theorem d35_36 : decode jdk_42_method_30_code 36 = .ok (.if_icmp .eq 7, 3) := by decide +kernel
theorem d35_43 : decode jdk_42_method_30_code 43 = .ok (.iconst 0, 1) := by decide +kernel
theorem d35_44 : decode jdk_42_method_30_code 44 = .ok (.ireturn, 1) := by decide +kernel
theorem pd35 : parseMethodDescriptor "(III)Z" = some ⟨[.int, .int, .int], some .boolean⟩ := by decide +kernel
theorem pn35 : plainFor (⟨"java/lang/String", "isMalformed3", "(III)Z"⟩ : MethodName) = true := by first | (refine plainFor_of_name ?_; simp [plainName, overriddenIn]; done) | (refine plainFor_of_name ?_; decide +kernel) | decide +kernel
abbrev B35 : Bd := ((⟨"java/lang/String", "isMalformed3", "(III)Z"⟩ : MethodName), jdk_42_method_30_code, 3, (some .boolean), ({ frames := 0, cells := 0, slots := 0, locals := 0 } : Room), tables_1)
theorem ef35 (mid : MethodId) (p : Int32) (q : Int32) (r : Int32) : entryFrame mid (List.toArray [.int p, .int q, .int r]) 3 = mkF mid 0 #[.val (.int p), .val (.int q), .val (.int r)] [] := by first | (simp [entryFrame, mkF, argsToLocals, Value.category]; done) | rfl
def Q35 (h0 : Heap) (v : Option Value) (h : Heap) : Prop := v = some (.int 0) ∧ h0 = h
set_option maxRecDepth 65536 in
set_option maxHeartbeats 40000000 in
theorem c35 (Z : State) (hw : Wd Z tables_1) (h0 : Heap) (p : Int32) (q : Int32) (r : Int32)  (h0' : p = (-32 : Int32) → ¬ (q &&& (224 : Int32)) = (128 : Int32)) (h1 : (q &&& (192 : Int32)) = (128 : Int32)) (h2 : (r &&& (192 : Int32)) = (128 : Int32)) : Con Z B35 (List.toArray [.int p, .int q, .int r]) h0 (Q35 h0) := by
  refine Con.mk hw pn35 (fun mid => ef35 mid p q r) (Go.old fun hle' => ?_)
  have hle := hle'.1
  refine Go.iloadN 1 rfl d35_0 rfl ?_
  refine Go.bipush 3 rfl (-32 : Int32) d35_1 rfl ?_
  refine Go.icmp_ne 17 6 d35_3 (by decide) rfl rfl (fun (b101 : ¬ p = (-32 : Int32)) => ?_) (fun (b101 : p = (-32 : Int32)) => ?_)
  · refine Go.iloadN 18 rfl d35_17 rfl ?_
    refine Go.sipush 21 rfl (192 : Int32) d35_18 rfl ?_
    refine Go.iand 22 rfl d35_21 ?_
    refine Go.sipush 25 rfl (128 : Int32) d35_22 rfl ?_
    refine Go.icmp_ne 39 28 d35_25 (by decide) rfl rfl (fun (b103 : ¬ (q &&& (192 : Int32)) = (128 : Int32)) => ?_) (fun (b103 : (q &&& (192 : Int32)) = (128 : Int32)) => ?_)
    · exact absurd (show (q &&& (192 : Int32)) = (128 : Int32) from h1) b103
    · refine Go.iloadN 29 rfl d35_28 rfl ?_
      refine Go.sipush 32 rfl (192 : Int32) d35_29 rfl ?_
      refine Go.iand 33 rfl d35_32 ?_
      refine Go.sipush 36 rfl (128 : Int32) d35_33 rfl ?_
      refine Go.icmp_eq 43 39 d35_36 (by decide) rfl rfl (fun (b104 : (r &&& (192 : Int32)) = (128 : Int32)) => ?_) (fun (b104 : ¬ (r &&& (192 : Int32)) = (128 : Int32)) => ?_)
      · refine Go.iconst 44 rfl (0 : Int32) d35_43 rfl ?_
        exact Go.retN (t := .boolean) (z' := 0) d35_44 rfl (by decide) (by decide) (by decide) (by decide) ⟨rfl, rfl⟩
      · exact absurd (show (r &&& (192 : Int32)) = (128 : Int32) from h2) b104
  · refine Go.iloadN 7 rfl d35_6 rfl ?_
    refine Go.sipush 10 rfl (224 : Int32) d35_7 rfl ?_
    refine Go.iand 11 rfl d35_10 ?_
    refine Go.sipush 14 rfl (128 : Int32) d35_11 rfl ?_
    refine Go.icmp_eq 39 17 d35_14 (by decide) rfl rfl (fun (b102 : (q &&& (224 : Int32)) = (128 : Int32)) => ?_) (fun (b102 : ¬ (q &&& (224 : Int32)) = (128 : Int32)) => ?_)
    · exact absurd b102 (show ¬ (q &&& (224 : Int32)) = (128 : Int32) from (h0' b101))
    · refine Go.iloadN 18 rfl d35_17 rfl ?_
      refine Go.sipush 21 rfl (192 : Int32) d35_18 rfl ?_
      refine Go.iand 22 rfl d35_21 ?_
      refine Go.sipush 25 rfl (128 : Int32) d35_22 rfl ?_
      refine Go.icmp_ne 39 28 d35_25 (by decide) rfl rfl (fun (b105 : ¬ (q &&& (192 : Int32)) = (128 : Int32)) => ?_) (fun (b105 : (q &&& (192 : Int32)) = (128 : Int32)) => ?_)
      · exact absurd (show (q &&& (192 : Int32)) = (128 : Int32) from h1) b105
      · refine Go.iloadN 29 rfl d35_28 rfl ?_
        refine Go.sipush 32 rfl (192 : Int32) d35_29 rfl ?_
        refine Go.iand 33 rfl d35_32 ?_
        refine Go.sipush 36 rfl (128 : Int32) d35_33 rfl ?_
        refine Go.icmp_eq 43 39 d35_36 (by decide) rfl rfl (fun (b106 : (r &&& (192 : Int32)) = (128 : Int32)) => ?_) (fun (b106 : ¬ (r &&& (192 : Int32)) = (128 : Int32)) => ?_)
        · refine Go.iconst 44 rfl (0 : Int32) d35_43 rfl ?_
          exact Go.retN (t := .boolean) (z' := 0) d35_44 rfl (by decide) (by decide) (by decide) (by decide) ⟨rfl, rfl⟩
        · exact absurd (show (r &&& (192 : Int32)) = (128 : Int32) from h2) b106
theorem d37_0 : decode jdk_89_method_16_code 0 = .ok (.iload_n 0, 1) := by decide +kernel
theorem d37_1 : decode jdk_89_method_16_code 1 = .ok (.ldc 75, 2) := by decide +kernel
theorem d37_3 : decode jdk_89_method_16_code 3 = .ok (.if_icmp .lt 13, 3) := by decide +kernel
theorem d37_6 : decode jdk_89_method_16_code 6 = .ok (.iload_n 0, 1) := by decide +kernel
theorem d37_7 : decode jdk_89_method_16_code 7 = .ok (.ldc 77, 2) := by decide +kernel
theorem d37_9 : decode jdk_89_method_16_code 9 = .ok (.if_icmp .ge 7, 3) := by decide +kernel
theorem d37_16 : decode jdk_89_method_16_code 16 = .ok (.iconst 0, 1) := by decide +kernel
theorem d37_17 : decode jdk_89_method_16_code 17 = .ok (.ireturn, 1) := by decide +kernel
theorem pd37 : parseMethodDescriptor "(C)Z" = some ⟨[.char], some .boolean⟩ := by decide +kernel
theorem pn37 : plainFor (⟨"java/lang/Character", "isSurrogate", "(C)Z"⟩ : MethodName) = true := by first | (refine plainFor_of_name ?_; simp [plainName, overriddenIn]; done) | (refine plainFor_of_name ?_; decide +kernel) | decide +kernel
abbrev B37 : Bd := ((⟨"java/lang/Character", "isSurrogate", "(C)Z"⟩ : MethodName), jdk_89_method_16_code, 1, (some .boolean), ({ frames := 0, cells := 0, slots := 0, locals := 0 } : Room), tables_1)
theorem ef37 (mid : MethodId) (p : Int32) : entryFrame mid (List.toArray [.int p]) 1 = mkF mid 0 #[.val (.int p)] [] := by first | (simp [entryFrame, mkF, argsToLocals, Value.category]; done) | rfl
def Q37 (h0 : Heap) (v : Option Value) (h : Heap) : Prop := v = some (.int 0) ∧ h0 = h
set_option maxRecDepth 65536 in
set_option maxHeartbeats 40000000 in
theorem c37 (Z : State) (hw : Wd Z tables_1) (h0 : Heap) (p : Int32)  (h1 : p < (55296 : Int32) ∨ ¬ p < (57344 : Int32)) : Con Z B37 (List.toArray [.int p]) h0 (Q37 h0) := by
  refine Con.mk hw pn37 (fun mid => ef37 mid p) (Go.old fun hle' => ?_)
  have hle := hle'.1
  refine Go.iloadN 1 rfl d37_0 rfl ?_
  refine Go.ldcI 3 rfl (v := (55296 : Int32)) 180 d37_1 rfl ?_
  refine Go.icmp_lt 16 6 d37_3 (by decide) rfl rfl (fun (b101 : p < (55296 : Int32)) => ?_) (fun (b101 : ¬ p < (55296 : Int32)) => ?_)
  · refine Go.iconst 17 rfl (0 : Int32) d37_16 rfl ?_
    exact Go.retN (t := .boolean) (z' := 0) d37_17 rfl (by decide) (by decide) (by decide) (by decide) ⟨rfl, rfl⟩
  · refine Go.iloadN 7 rfl d37_6 rfl ?_
    refine Go.ldcI 9 rfl (v := (57344 : Int32)) 182 d37_7 rfl ?_
    refine Go.icmp_ge 16 12 d37_9 (by decide) rfl rfl (fun (b102 : ¬ p < (57344 : Int32)) => ?_) (fun (b102 : p < (57344 : Int32)) => ?_)
    · refine Go.iconst 17 rfl (0 : Int32) d37_16 rfl ?_
      exact Go.retN (t := .boolean) (z' := 0) d37_17 rfl (by decide) (by decide) (by decide) (by decide) ⟨rfl, rfl⟩
    · exact absurd b102 (show ¬ p < (57344 : Int32) from (h1.resolve_left b101))
theorem d31_0 : decode jdk_89_method_13_code 0 = .ok (.iload_n 0, 1) := by decide +kernel
theorem d31_1 : decode jdk_89_method_13_code 1 = .ok (.ldc 73, 2) := by decide +kernel
theorem d31_3 : decode jdk_89_method_13_code 3 = .ok (.if_icmp .lt 13, 3) := by decide +kernel
theorem d31_6 : decode jdk_89_method_13_code 6 = .ok (.iload_n 0, 1) := by decide +kernel
theorem d31_7 : decode jdk_89_method_13_code 7 = .ok (.ldc 74, 2) := by decide +kernel
theorem d31_9 : decode jdk_89_method_13_code 9 = .ok (.if_icmp .ge 7, 3) := by decide +kernel
theorem d31_12 : decode jdk_89_method_13_code 12 = .ok (.iconst 1, 1) := by decide +kernel
theorem d31_13 : decode jdk_89_method_13_code 13 = .ok (.goto 4, 3) := by decide +kernel
theorem d31_17 : decode jdk_89_method_13_code 17 = .ok (.ireturn, 1) := by decide +kernel
theorem pd31 : parseMethodDescriptor "(I)Z" = some ⟨[.int], some .boolean⟩ := by decide +kernel
theorem pn31 : plainFor (⟨"java/lang/Character", "isSupplementaryCodePoint", "(I)Z"⟩ : MethodName) = true := by first | (refine plainFor_of_name ?_; simp [plainName, overriddenIn]; done) | (refine plainFor_of_name ?_; decide +kernel) | decide +kernel
abbrev B31 : Bd := ((⟨"java/lang/Character", "isSupplementaryCodePoint", "(I)Z"⟩ : MethodName), jdk_89_method_13_code, 1, (some .boolean), ({ frames := 0, cells := 0, slots := 0, locals := 0 } : Room), tables_1)
theorem ef31 (mid : MethodId) (p : Int32) : entryFrame mid (List.toArray [.int p]) 1 = mkF mid 0 #[.val (.int p)] [] := by first | (simp [entryFrame, mkF, argsToLocals, Value.category]; done) | rfl
def Q31 (h0 : Heap) (v : Option Value) (h : Heap) : Prop := v = some (.int 1) ∧ h0 = h
set_option maxRecDepth 65536 in
set_option maxHeartbeats 40000000 in
theorem c31 (Z : State) (hw : Wd Z tables_1) (h0 : Heap) (p : Int32)  (h1 : ¬ p < (65536 : Int32)) (h2 : p < (1114112 : Int32)) : Con Z B31 (List.toArray [.int p]) h0 (Q31 h0) := by
  refine Con.mk hw pn31 (fun mid => ef31 mid p) (Go.old fun hle' => ?_)
  have hle := hle'.1
  refine Go.iloadN 1 rfl d31_0 rfl ?_
  refine Go.ldcI 3 rfl (v := (65536 : Int32)) 155 d31_1 rfl ?_
  refine Go.icmp_lt 16 6 d31_3 (by decide) rfl rfl (fun (b101 : p < (65536 : Int32)) => ?_) (fun (b101 : ¬ p < (65536 : Int32)) => ?_)
  · exact absurd b101 (show ¬ p < (65536 : Int32) from h1)
  · refine Go.iloadN 7 rfl d31_6 rfl ?_
    refine Go.ldcI 9 rfl (v := (1114112 : Int32)) 156 d31_7 rfl ?_
    refine Go.icmp_ge 16 12 d31_9 (by decide) rfl rfl (fun (b102 : ¬ p < (1114112 : Int32)) => ?_) (fun (b102 : p < (1114112 : Int32)) => ?_)
    · exact absurd (show p < (1114112 : Int32) from h2) b102
    · refine Go.iconst 13 rfl (1 : Int32) d31_12 rfl ?_
      refine Go.goto 17 d31_13 (by decide) (by decide) ?_
      exact Go.retN (t := .boolean) (z' := 1) d31_17 rfl (by decide) (by decide) (by decide) (by decide) ⟨rfl, rfl⟩
theorem d16_0 : decode jdk_29_method_69_code 0 = .ok (.iload_n 0, 1) := by decide +kernel
theorem d16_1 : decode jdk_29_method_69_code 1 = .ok (.iload_n 1, 1) := by decide +kernel
theorem d16_2 : decode jdk_29_method_69_code 2 = .ok (.if_icmp .gt 7, 3) := by decide +kernel
theorem d16_9 : decode jdk_29_method_69_code 9 = .ok (.iload_n 1, 1) := by decide +kernel
theorem d16_10 : decode jdk_29_method_69_code 10 = .ok (.ireturn, 1) := by decide +kernel
theorem pd16 : parseMethodDescriptor "(II)I" = some ⟨[.int, .int], some .int⟩ := by decide +kernel
theorem pn16 : plainFor (⟨"java/lang/Math", "min", "(II)I"⟩ : MethodName) = true := by first | (refine plainFor_of_name ?_; simp [plainName, overriddenIn]; done) | (refine plainFor_of_name ?_; decide +kernel) | decide +kernel
abbrev B16 : Bd := ((⟨"java/lang/Math", "min", "(II)I"⟩ : MethodName), jdk_29_method_69_code, 2, (some .int), ({ frames := 0, cells := 0, slots := 0, locals := 0 } : Room), tables_1)
theorem ef16 (mid : MethodId) (p : Int32) (x : Int32) : entryFrame mid (List.toArray [.int p, .int x]) 2 = mkF mid 0 #[.val (.int p), .val (.int x)] [] := by first | (simp [entryFrame, mkF, argsToLocals, Value.category]; done) | rfl
def Q16 (x : Int32) (h0 : Heap) (v : Option Value) (h : Heap) : Prop := v = some (.int x) ∧ h0 = h
set_option maxRecDepth 65536 in
set_option maxHeartbeats 40000000 in
theorem c16 (Z : State) (hw : Wd Z tables_1) (h0 : Heap) (p : Int32) (x : Int32)  (h1 : x < p) : Con Z B16 (List.toArray [.int p, .int x]) h0 (Q16 x h0) := by
  refine Con.mk hw pn16 (fun mid => ef16 mid p x) (Go.old fun hle' => ?_)
  have hle := hle'.1
  refine Go.iloadN 1 rfl d16_0 rfl ?_
  refine Go.iloadN 2 rfl d16_1 rfl ?_
  refine Go.icmp_gt 9 5 d16_2 (by decide) rfl rfl (fun (b101 : x < p) => ?_) (fun (b101 : ¬ x < p) => ?_)
  · refine Go.iloadN 10 rfl d16_9 rfl ?_
    exact Go.retI d16_10 rfl (by decide) (by decide) ⟨rfl, rfl⟩
  · exact absurd (show x < p from h1) b101
theorem d27_0 : decode jdk_41_method_13_code 0 = .ok (.iload_n 2, 1) := by decide +kernel
theorem d27_1 : decode jdk_41_method_13_code 1 = .ok (.iload_n 0, 1) := by decide +kernel
theorem d27_2 : decode jdk_41_method_13_code 2 = .ok (.ior, 1) := by decide +kernel
theorem d27_3 : decode jdk_41_method_13_code 3 = .ok (.iload_n 1, 1) := by decide +kernel
theorem d27_4 : decode jdk_41_method_13_code 4 = .ok (.ior, 1) := by decide +kernel
theorem d27_5 : decode jdk_41_method_13_code 5 = .ok (.ifCond .lt 10, 3) := by decide +kernel
theorem d27_8 : decode jdk_41_method_13_code 8 = .ok (.iload_n 1, 1) := by decide +kernel
theorem d27_9 : decode jdk_41_method_13_code 9 = .ok (.iload_n 2, 1) := by decide +kernel
theorem d27_10 : decode jdk_41_method_13_code 10 = .ok (.iload_n 0, 1) := by decide +kernel
theorem d27_11 : decode jdk_41_method_13_code 11 = .ok (.isub, 1) := by decide +kernel
theorem d27_12 : decode jdk_41_method_13_code 12 = .ok (.if_icmp .le 11, 3) := by decide +kernel
theorem d27_23 : decode jdk_41_method_13_code 23 = .ok (.iload_n 0, 1) := by decide +kernel
theorem d27_24 : decode jdk_41_method_13_code 24 = .ok (.ireturn, 1) := by decide +kernel
theorem pd27 : parseMethodDescriptor "(IIILjava/util/function/BiFunction;)I" = some ⟨[.int, .int, .int, (.object "java/util/function/BiFunction")], some .int⟩ := by decide +kernel
theorem pn27 : plainFor (⟨"jdk/internal/util/Preconditions", "checkFromIndexSize", "(IIILjava/util/function/BiFunction;)I"⟩ : MethodName) = true := by first | (refine plainFor_of_name ?_; simp [plainName, overriddenIn]; done) | (refine plainFor_of_name ?_; decide +kernel) | decide +kernel
abbrev B27 : Bd := ((⟨"jdk/internal/util/Preconditions", "checkFromIndexSize", "(IIILjava/util/function/BiFunction;)I"⟩ : MethodName), jdk_41_method_13_code, 4, (some .int), ({ frames := 0, cells := 0, slots := 0, locals := 0 } : Room), tables_1)
theorem ef27m (mid : MethodId) (l : Int32) (m : Addr) : entryFrame mid (List.toArray [.int (0 : Int32), .int (0 : Int32), .int l, .ref m]) 4 = mkF mid 0 #[.val (.int (0 : Int32)), .val (.int (0 : Int32)), .val (.int l), .val (.ref m)] [] := by first | (simp [entryFrame, mkF, argsToLocals, Value.category]; done) | rfl
def Q27m (h0 : Heap) (v : Option Value) (h : Heap) : Prop := v = some (.int 0) ∧ h0 = h
set_option maxRecDepth 65536 in
set_option maxHeartbeats 40000000 in
theorem c27m (Z : State) (hw : Wd Z tables_1) (h0 : Heap) (l : Int32) (m : Addr)  (h1 : ¬ ((l ||| (0 : Int32)) ||| (0 : Int32)) < 0) (h2 : ¬ (l - (0 : Int32)) < (0 : Int32)) : Con Z B27 (List.toArray [.int (0 : Int32), .int (0 : Int32), .int l, .ref m]) h0 (Q27m h0) := by
  refine Con.mk hw pn27 (fun mid => ef27m mid l m) (Go.old fun hle' => ?_)
  have hle := hle'.1
  refine Go.iloadN 1 rfl d27_0 rfl ?_
  refine Go.iloadN 2 rfl d27_1 rfl ?_
  refine Go.ior 3 rfl d27_2 ?_
  refine Go.iloadN 4 rfl d27_3 rfl ?_
  refine Go.ior 5 rfl d27_4 ?_
  refine Go.if_lt 15 8 d27_5 (by decide) rfl rfl (fun (b101 : ((l ||| (0 : Int32)) ||| (0 : Int32)) < 0) => ?_) (fun (b101 : ¬ ((l ||| (0 : Int32)) ||| (0 : Int32)) < 0) => ?_)
  · exact absurd b101 (show ¬ ((l ||| (0 : Int32)) ||| (0 : Int32)) < 0 from h1)
  · refine Go.iloadN 9 rfl d27_8 rfl ?_
    refine Go.iloadN 10 rfl d27_9 rfl ?_
    refine Go.iloadN 11 rfl d27_10 rfl ?_
    refine Go.isub 12 rfl d27_11 ?_
    refine Go.icmp_le 23 15 d27_12 (by decide) rfl rfl (fun (b102 : ¬ (l - (0 : Int32)) < (0 : Int32)) => ?_) (fun (b102 : (l - (0 : Int32)) < (0 : Int32)) => ?_)
    · refine Go.iloadN 24 rfl d27_23 rfl ?_
      exact Go.retI d27_24 rfl (by decide) (by decide) ⟨rfl, rfl⟩
    · exact absurd b102 (show ¬ (l - (0 : Int32)) < (0 : Int32) from h2)
theorem ef27u (mid : MethodId) (l : Int32) : entryFrame mid (List.toArray [.int (0 : Int32), .int (0 : Int32), .int l, .null]) 4 = mkF mid 0 #[.val (.int (0 : Int32)), .val (.int (0 : Int32)), .val (.int l), .val (.null)] [] := by first | (simp [entryFrame, mkF, argsToLocals, Value.category]; done) | rfl
def Q27u (h0 : Heap) (v : Option Value) (h : Heap) : Prop := v = some (.int 0) ∧ h0 = h
set_option maxRecDepth 65536 in
set_option maxHeartbeats 40000000 in
theorem c27u (Z : State) (hw : Wd Z tables_1) (h0 : Heap) (l : Int32)  (h1 : ¬ ((l ||| (0 : Int32)) ||| (0 : Int32)) < 0) (h2 : ¬ (l - (0 : Int32)) < (0 : Int32)) : Con Z B27 (List.toArray [.int (0 : Int32), .int (0 : Int32), .int l, .null]) h0 (Q27u h0) := by
  refine Con.mk hw pn27 (fun mid => ef27u mid l) (Go.old fun hle' => ?_)
  have hle := hle'.1
  refine Go.iloadN 1 rfl d27_0 rfl ?_
  refine Go.iloadN 2 rfl d27_1 rfl ?_
  refine Go.ior 3 rfl d27_2 ?_
  refine Go.iloadN 4 rfl d27_3 rfl ?_
  refine Go.ior 5 rfl d27_4 ?_
  refine Go.if_lt 15 8 d27_5 (by decide) rfl rfl (fun (b101 : ((l ||| (0 : Int32)) ||| (0 : Int32)) < 0) => ?_) (fun (b101 : ¬ ((l ||| (0 : Int32)) ||| (0 : Int32)) < 0) => ?_)
  · exact absurd b101 (show ¬ ((l ||| (0 : Int32)) ||| (0 : Int32)) < 0 from h1)
  · refine Go.iloadN 9 rfl d27_8 rfl ?_
    refine Go.iloadN 10 rfl d27_9 rfl ?_
    refine Go.iloadN 11 rfl d27_10 rfl ?_
    refine Go.isub 12 rfl d27_11 ?_
    refine Go.icmp_le 23 15 d27_12 (by decide) rfl rfl (fun (b102 : ¬ (l - (0 : Int32)) < (0 : Int32)) => ?_) (fun (b102 : (l - (0 : Int32)) < (0 : Int32)) => ?_)
    · refine Go.iloadN 24 rfl d27_23 rfl ?_
      exact Go.retI d27_24 rfl (by decide) (by decide) ⟨rfl, rfl⟩
    · exact absurd b102 (show ¬ (l - (0 : Int32)) < (0 : Int32) from h2)
theorem d26_0 : decode jdk_42_method_157_code 0 = .ok (.iload_n 0, 1) := by decide +kernel
theorem d26_1 : decode jdk_42_method_157_code 1 = .ok (.iload_n 1, 1) := by decide +kernel
theorem d26_2 : decode jdk_42_method_157_code 2 = .ok (.iload_n 2, 1) := by decide +kernel
theorem d26_3 : decode jdk_42_method_157_code 3 = .ok (.getstatic 1053, 3) := by decide +kernel
theorem d26_6 : decode jdk_42_method_157_code 6 = .ok (.invokestatic 1065, 3) := by decide +kernel
theorem d26_9 : decode jdk_42_method_157_code 9 = .ok (.ireturn, 1) := by decide +kernel
theorem pd26 : parseMethodDescriptor "(III)I" = some ⟨[.int, .int, .int], some .int⟩ := by decide +kernel
theorem pn26 : plainFor (⟨"java/lang/String", "checkBoundsOffCount", "(III)I"⟩ : MethodName) = true := by first | (refine plainFor_of_name ?_; simp [plainName, overriddenIn]; done) | (refine plainFor_of_name ?_; decide +kernel) | decide +kernel
abbrev B26 : Bd := ((⟨"java/lang/String", "checkBoundsOffCount", "(III)I"⟩ : MethodName), jdk_42_method_157_code, 3, (some .int), ({ frames := 1, cells := 0, slots := 0, locals := 15 } : Room), tables_1)
theorem ef26 (mid : MethodId) (l : Int32) : entryFrame mid (List.toArray [.int (0 : Int32), .int (0 : Int32), .int l]) 3 = mkF mid 0 #[.val (.int (0 : Int32)), .val (.int (0 : Int32)), .val (.int l)] [] := by first | (simp [entryFrame, mkF, argsToLocals, Value.category]; done) | rfl
def Q26 (h0 : Heap) (v : Option Value) (h : Heap) : Prop := v = some (.int 0) ∧ h0 = h
set_option maxRecDepth 65536 in
set_option maxHeartbeats 40000000 in
theorem c26 (Z : State) (hw : Wd Z tables_1) (h0 : Heap) (l : Int32)  (hfm : (Sta Z Z.heap "jdk/internal/util/Preconditions" "SIOOBE_FORMATTER" "Ljava/util/function/BiFunction;" .null) ∨ ∃ m, Sta Z Z.heap "jdk/internal/util/Preconditions" "SIOOBE_FORMATTER" "Ljava/util/function/BiFunction;" (.ref m)) (h1 : ¬ ((l ||| (0 : Int32)) ||| (0 : Int32)) < 0) (h2 : ¬ (l - (0 : Int32)) < (0 : Int32)) : Con Z B26 (List.toArray [.int (0 : Int32), .int (0 : Int32), .int l]) h0 (Q26 h0) := by
  refine Con.mk hw pn26 (fun mid => ef26 mid l) (Go.old fun hle' => ?_)
  have hle := hle'.1
  rcases hfm with hfm | ⟨m, hfm⟩
  · refine Go.iloadN 1 rfl d26_0 rfl ?_
    refine Go.iloadN 2 rfl d26_1 rfl ?_
    refine Go.iloadN 3 rfl d26_2 rfl ?_
    refine Go.getS 6 rfl (v := .null) 130 d26_3 rfl hfm ?_
    refine Go.callS 9 rfl (C := B27) [.int (0 : Int32), .int (0 : Int32), .int l, .null] (rest := []) 132 133 131 134 (c27u Z hw h0 l h1 h2) d26_6 rfl rfl rfl rfl (by decide) pd27 rfl rfl rfl (W := 0) (Nat.le_of_ble_eq_true rfl) (by decide) (by decide) (by decide) (by decide) fun v101 h102 q103 => ?_
    obtain ⟨rfl, rfl⟩ := q103
    exact Go.retI d26_9 rfl (by decide) (by decide) ⟨rfl, rfl⟩
  · refine Go.iloadN 1 rfl d26_0 rfl ?_
    refine Go.iloadN 2 rfl d26_1 rfl ?_
    refine Go.iloadN 3 rfl d26_2 rfl ?_
    refine Go.getS 6 rfl (v := .ref m) 130 d26_3 rfl hfm ?_
    refine Go.callS 9 rfl (C := B27) [.int (0 : Int32), .int (0 : Int32), .int l, .ref m] (rest := []) 132 133 131 134 (c27m Z hw h0 l m h1 h2) d26_6 rfl rfl rfl rfl (by decide) pd27 rfl rfl rfl (W := 0) (Nat.le_of_ble_eq_true rfl) (by decide) (by decide) (by decide) (by decide) fun v104 h105 q106 => ?_
    obtain ⟨rfl, rfl⟩ := q106
    exact Go.retI d26_9 rfl (by decide) (by decide) ⟨rfl, rfl⟩
theorem d25_0 : decode jdk_52_method_6_code 0 = .ok (.aload_n 0, 1) := by decide +kernel
theorem d25_1 : decode jdk_52_method_6_code 1 = .ok (.arraylength, 1) := by decide +kernel
theorem d25_2 : decode jdk_52_method_6_code 2 = .ok (.iconst 1, 1) := by decide +kernel
theorem d25_3 : decode jdk_52_method_6_code 3 = .ok (.ishr, 1) := by decide +kernel
theorem d25_4 : decode jdk_52_method_6_code 4 = .ok (.ireturn, 1) := by decide +kernel
theorem pd25 : parseMethodDescriptor "([B)I" = some ⟨[(.array .byte)], some .int⟩ := by decide +kernel
theorem pn25 : plainFor (⟨"java/lang/StringUTF16", "length", "([B)I"⟩ : MethodName) = true := by first | (refine plainFor_of_name ?_; simp [plainName, overriddenIn]; done) | (refine plainFor_of_name ?_; decide +kernel) | decide +kernel
abbrev B25 : Bd := ((⟨"java/lang/StringUTF16", "length", "([B)I"⟩ : MethodName), jdk_52_method_6_code, 1, (some .int), ({ frames := 0, cells := 0, slots := 0, locals := 0 } : Room), tables_1)
theorem ef25 (mid : MethodId) (t : Addr) : entryFrame mid (List.toArray [.ref t]) 1 = mkF mid 0 #[.val (.ref t)] [] := by first | (simp [entryFrame, mkF, argsToLocals, Value.category]; done) | rfl
def Q25 (R : Int32) (h0 : Heap) (v : Option Value) (h : Heap) : Prop := v = some (.int R) ∧ h0 = h
set_option maxRecDepth 65536 in
set_option maxHeartbeats 40000000 in
theorem c25 (Z : State) (hw : Wd Z tables_1) (h0 : Heap) (t : Addr) (R : Int32) (vs : List Value) (L : Int32) (hL : L.toInt = vs.length) (hR : L >>> ((1 : Int32) &&& 31) = R) (hA : Ary Z h0 t .byte vs) : Con Z B25 (List.toArray [.ref t]) h0 (Q25 R h0) := by
  refine Con.mk hw pn25 (fun mid => ef25 mid t) (Go.old fun hle' => ?_)
  have hle := hle'.1
  refine Go.aloadN 1 rfl d25_0 rfl rfl ?_
  refine Go.alen 2 rfl L d25_1 hA hL ?_
  refine Go.iconst 3 rfl (1 : Int32) d25_2 rfl ?_
  refine Go.ishr 4 rfl d25_3 ?_
  refine Go.eqI (w := R) hR ?_
  exact Go.retI d25_4 rfl (by decide) (by decide) ⟨rfl, rfl⟩
theorem d24_0 : decode jdk_52_method_94_code 0 = .ok (.iload_n 0, 1) := by decide +kernel
theorem d24_1 : decode jdk_52_method_94_code 1 = .ok (.iload_n 1, 1) := by decide +kernel
theorem d24_2 : decode jdk_52_method_94_code 2 = .ok (.aload_n 2, 1) := by decide +kernel
theorem d24_3 : decode jdk_52_method_94_code 3 = .ok (.invokestatic 48, 3) := by decide +kernel
theorem d24_6 : decode jdk_52_method_94_code 6 = .ok (.invokestatic 419, 3) := by decide +kernel
theorem d24_9 : decode jdk_52_method_94_code 9 = .ok (.pop, 1) := by decide +kernel
theorem d24_10 : decode jdk_52_method_94_code 10 = .ok (.return_, 1) := by decide +kernel
theorem pd24 : parseMethodDescriptor "(II[B)V" = some ⟨[.int, .int, (.array .byte)], none⟩ := by decide +kernel
theorem pn24 : plainFor (⟨"java/lang/StringUTF16", "checkBoundsOffCount", "(II[B)V"⟩ : MethodName) = true := by first | (refine plainFor_of_name ?_; simp [plainName, overriddenIn]; done) | (refine plainFor_of_name ?_; decide +kernel) | decide +kernel
abbrev B24 : Bd := ((⟨"java/lang/StringUTF16", "checkBoundsOffCount", "(II[B)V"⟩ : MethodName), jdk_52_method_94_code, 3, none, ({ frames := 2, cells := 0, slots := 0, locals := 29 } : Room), tables_1)
theorem ef24 (mid : MethodId) (t : Addr) : entryFrame mid (List.toArray [.int (0 : Int32), .int (0 : Int32), .ref t]) 3 = mkF mid 0 #[.val (.int (0 : Int32)), .val (.int (0 : Int32)), .val (.ref t)] [] := by first | (simp [entryFrame, mkF, argsToLocals, Value.category]; done) | rfl
def Q24 (h0 : Heap) (v : Option Value) (h : Heap) : Prop := v = none ∧ h0 = h
set_option maxRecDepth 65536 in
set_option maxHeartbeats 40000000 in
theorem c24 (Z : State) (hw : Wd Z tables_1) (h0 : Heap) (t : Addr)  (vs : List Value) (L : Int32) (l : Int32) (hL : L.toInt = vs.length) (hR : L >>> ((1 : Int32) &&& 31) = l) (hA : Ary Z h0 t .byte vs) (hfm : (Sta Z Z.heap "jdk/internal/util/Preconditions" "SIOOBE_FORMATTER" "Ljava/util/function/BiFunction;" .null) ∨ ∃ m, Sta Z Z.heap "jdk/internal/util/Preconditions" "SIOOBE_FORMATTER" "Ljava/util/function/BiFunction;" (.ref m)) (h1 : ¬ ((l ||| (0 : Int32)) ||| (0 : Int32)) < 0) (h2 : ¬ (l - (0 : Int32)) < (0 : Int32)) : Con Z B24 (List.toArray [.int (0 : Int32), .int (0 : Int32), .ref t]) h0 (Q24 h0) := by
  refine Con.mk hw pn24 (fun mid => ef24 mid t) (Go.old fun hle' => ?_)
  have hle := hle'.1
  refine Go.iloadN 1 rfl d24_0 rfl ?_
  refine Go.iloadN 2 rfl d24_1 rfl ?_
  refine Go.aloadN 3 rfl d24_2 rfl rfl ?_
  refine Go.callS 6 rfl (C := B25) [.ref t] (rest := [.int (0 : Int32), .int (0 : Int32)]) 124 125 19 126 (c25 Z hw h0 t l vs L hL hR hA) d24_3 rfl rfl rfl rfl (by decide) pd25 rfl rfl rfl (W := 2) (Nat.le_of_ble_eq_true rfl) (by decide) (by decide) (by decide) (by decide) fun v101 h102 q103 => ?_
  obtain ⟨rfl, rfl⟩ := q103
  refine Go.callS 9 rfl (C := B26) [.int (0 : Int32), .int (0 : Int32), .int l] (rest := []) 127 128 5 129 (c26 Z hw h0 l hfm h1 h2) d24_6 rfl rfl rfl rfl (by decide) pd26 rfl rfl rfl (W := 0) (Nat.le_of_ble_eq_true rfl) (by decide) (by decide) (by decide) (by decide) fun v104 h105 q106 => ?_
  obtain ⟨rfl, rfl⟩ := q106
  refine Go.pop 10 rfl d24_9 rfl ?_
  exact Go.retV d24_10 rfl (by decide) (by decide) ⟨rfl, rfl⟩
theorem d23_0 : decode jdk_52_method_86_code 0 = .ok (.iload_n 3, 1) := by decide +kernel
theorem d23_1 : decode jdk_52_method_86_code 1 = .ok (.iload 4, 2) := by decide +kernel
theorem d23_3 : decode jdk_52_method_86_code 3 = .ok (.aload_n 2, 1) := by decide +kernel
theorem d23_4 : decode jdk_52_method_86_code 4 = .ok (.invokestatic 173, 3) := by decide +kernel
theorem d23_7 : decode jdk_52_method_86_code 7 = .ok (.iconst 0, 1) := by decide +kernel
theorem d23_8 : decode jdk_52_method_86_code 8 = .ok (.istore 5, 2) := by decide +kernel
theorem d23_10 : decode jdk_52_method_86_code 10 = .ok (.iload 5, 2) := by decide +kernel
theorem d23_12 : decode jdk_52_method_86_code 12 = .ok (.iload 4, 2) := by decide +kernel
theorem d23_14 : decode jdk_52_method_86_code 14 = .ok (.if_icmp .ge 27, 3) := by decide +kernel
theorem d23_41 : decode jdk_52_method_86_code 41 = .ok (.return_, 1) := by decide +kernel
theorem pd23 : parseMethodDescriptor "([BI[BII)V" = some ⟨[(.array .byte), .int, (.array .byte), .int, .int], none⟩ := by decide +kernel
theorem pn23 : plainFor (⟨"java/lang/StringUTF16", "inflate", "([BI[BII)V"⟩ : MethodName) = true := by first | (refine plainFor_of_name ?_; simp [plainName, overriddenIn]; done) | (refine plainFor_of_name ?_; decide +kernel) | decide +kernel
abbrev B23 : Bd := ((⟨"java/lang/StringUTF16", "inflate", "([BI[BII)V"⟩ : MethodName), jdk_52_method_86_code, 6, none, ({ frames := 3, cells := 0, slots := 0, locals := 43 } : Room), tables_1)
theorem ef23 (mid : MethodId) (u : Addr) (t : Addr) : entryFrame mid (List.toArray [.ref u, .int (0 : Int32), .ref t, .int (0 : Int32), .int (0 : Int32)]) 6 = mkF mid 0 #[.val (.ref u), .val (.int (0 : Int32)), .val (.ref t), .val (.int (0 : Int32)), .val (.int (0 : Int32)), .unset] [] := by first | (simp [entryFrame, mkF, argsToLocals, Value.category]; done) | rfl
def Q23 (h0 : Heap) (v : Option Value) (h : Heap) : Prop := v = none ∧ h0 = h
set_option maxRecDepth 65536 in
set_option maxHeartbeats 40000000 in
theorem c23 (Z : State) (hw : Wd Z tables_1) (h0 : Heap) (u : Addr) (t : Addr)  (vs : List Value) (L : Int32) (l : Int32) (hL : L.toInt = vs.length) (hR : L >>> ((1 : Int32) &&& 31) = l) (hA : Ary Z h0 t .byte vs) (hfm : (Sta Z Z.heap "jdk/internal/util/Preconditions" "SIOOBE_FORMATTER" "Ljava/util/function/BiFunction;" .null) ∨ ∃ m, Sta Z Z.heap "jdk/internal/util/Preconditions" "SIOOBE_FORMATTER" "Ljava/util/function/BiFunction;" (.ref m)) (h1 : ¬ ((l ||| (0 : Int32)) ||| (0 : Int32)) < 0) (h2 : ¬ (l - (0 : Int32)) < (0 : Int32)) : Con Z B23 (List.toArray [.ref u, .int (0 : Int32), .ref t, .int (0 : Int32), .int (0 : Int32)]) h0 (Q23 h0) := by
  refine Con.mk hw pn23 (fun mid => ef23 mid u t) (Go.old fun hle' => ?_)
  have hle := hle'.1
  refine Go.iloadN 1 rfl d23_0 rfl ?_
  refine Go.iload 3 rfl d23_1 rfl ?_
  refine Go.aloadN 4 rfl d23_3 rfl rfl ?_
  refine Go.callS 7 rfl (C := B24) [.int (0 : Int32), .int (0 : Int32), .ref t] (rest := []) 121 122 19 123 (c24 Z hw h0 t vs L l hL hR hA hfm h1 h2) d23_4 rfl rfl rfl rfl (by decide) pd24 rfl rfl rfl (W := 0) (Nat.le_of_ble_eq_true rfl) (by decide) (by decide) (by decide) (by decide) fun v101 h102 q103 => ?_
  obtain ⟨rfl, rfl⟩ := q103
  refine Go.iconst 8 rfl (0 : Int32) d23_7 rfl ?_
  refine Go.istore 10 rfl d23_8 (Ls' := #[.val (.ref u), .val (.int (0 : Int32)), .val (.ref t), .val (.int (0 : Int32)), .val (.int (0 : Int32)), .val (.int (0 : Int32))]) rfl ?_
  refine Go.iload 12 rfl d23_10 rfl ?_
  refine Go.iload 14 rfl d23_12 rfl ?_
  refine Go.icmp_ge 41 17 d23_14 (by decide) rfl rfl (fun (b104 : ¬ (0 : Int32) < (0 : Int32)) => ?_) (fun (b104 : (0 : Int32) < (0 : Int32)) => ?_)
  · exact Go.retV d23_41 rfl (by decide) (by decide) ⟨rfl, rfl⟩
  · exact absurd b104 (show ¬ (0 : Int32) < (0 : Int32) from (by decide))
theorem d22_0 : decode jdk_43_method_50_code 0 = .ok (.aload_n 0, 1) := by decide +kernel
theorem d22_1 : decode jdk_43_method_50_code 1 = .ok (.iload_n 1, 1) := by decide +kernel
theorem d22_2 : decode jdk_43_method_50_code 2 = .ok (.aload_n 2, 1) := by decide +kernel
theorem d22_3 : decode jdk_43_method_50_code 3 = .ok (.iload_n 3, 1) := by decide +kernel
theorem d22_4 : decode jdk_43_method_50_code 4 = .ok (.iload 4, 2) := by decide +kernel
theorem d22_6 : decode jdk_43_method_50_code 6 = .ok (.invokestatic 240, 3) := by decide +kernel
theorem d22_9 : decode jdk_43_method_50_code 9 = .ok (.return_, 1) := by decide +kernel
theorem pd22 : parseMethodDescriptor "([BI[BII)V" = some ⟨[(.array .byte), .int, (.array .byte), .int, .int], none⟩ := by decide +kernel
theorem pn22 : plainFor (⟨"java/lang/StringLatin1", "inflate", "([BI[BII)V"⟩ : MethodName) = true := by first | (refine plainFor_of_name ?_; simp [plainName, overriddenIn]; done) | (refine plainFor_of_name ?_; decide +kernel) | decide +kernel
abbrev B22 : Bd := ((⟨"java/lang/StringLatin1", "inflate", "([BI[BII)V"⟩ : MethodName), jdk_43_method_50_code, 5, none, ({ frames := 4, cells := 0, slots := 0, locals := 60 } : Room), tables_1)
theorem ef22 (mid : MethodId) (u : Addr) (t : Addr) : entryFrame mid (List.toArray [.ref u, .int (0 : Int32), .ref t, .int (0 : Int32), .int (0 : Int32)]) 5 = mkF mid 0 #[.val (.ref u), .val (.int (0 : Int32)), .val (.ref t), .val (.int (0 : Int32)), .val (.int (0 : Int32))] [] := by first | (simp [entryFrame, mkF, argsToLocals, Value.category]; done) | rfl
def Q22 (h0 : Heap) (v : Option Value) (h : Heap) : Prop := v = none ∧ h0 = h
set_option maxRecDepth 65536 in
set_option maxHeartbeats 40000000 in
theorem c22 (Z : State) (hw : Wd Z tables_1) (h0 : Heap) (u : Addr) (t : Addr)  (vs : List Value) (L : Int32) (l : Int32) (hL : L.toInt = vs.length) (hR : L >>> ((1 : Int32) &&& 31) = l) (hA : Ary Z h0 t .byte vs) (hfm : (Sta Z Z.heap "jdk/internal/util/Preconditions" "SIOOBE_FORMATTER" "Ljava/util/function/BiFunction;" .null) ∨ ∃ m, Sta Z Z.heap "jdk/internal/util/Preconditions" "SIOOBE_FORMATTER" "Ljava/util/function/BiFunction;" (.ref m)) (h1 : ¬ ((l ||| (0 : Int32)) ||| (0 : Int32)) < 0) (h2 : ¬ (l - (0 : Int32)) < (0 : Int32)) : Con Z B22 (List.toArray [.ref u, .int (0 : Int32), .ref t, .int (0 : Int32), .int (0 : Int32)]) h0 (Q22 h0) := by
  refine Con.mk hw pn22 (fun mid => ef22 mid u t) (Go.old fun hle' => ?_)
  have hle := hle'.1
  refine Go.aloadN 1 rfl d22_0 rfl rfl ?_
  refine Go.iloadN 2 rfl d22_1 rfl ?_
  refine Go.aloadN 3 rfl d22_2 rfl rfl ?_
  refine Go.iloadN 4 rfl d22_3 rfl ?_
  refine Go.iload 6 rfl d22_4 rfl ?_
  refine Go.callS 9 rfl (C := B23) [.ref u, .int (0 : Int32), .ref t, .int (0 : Int32), .int (0 : Int32)] (rest := []) 118 119 19 120 (c23 Z hw h0 u t vs L l hL hR hA hfm h1 h2) d22_6 rfl rfl rfl rfl (by decide) pd23 rfl rfl rfl (W := 0) (Nat.le_of_ble_eq_true rfl) (by decide) (by decide) (by decide) (by decide) fun v101 h102 q103 => ?_
  obtain ⟨rfl, rfl⟩ := q103
  exact Go.retV d22_9 rfl (by decide) (by decide) ⟨rfl, rfl⟩
theorem d10_0 : decode jdk_123_method_3_code 0 = .ok (.iload_n 1, 1) := by decide +kernel
theorem d10_1 : decode jdk_123_method_3_code 1 = .ok (.iload_n 2, 1) := by decide +kernel
theorem d10_2 : decode jdk_123_method_3_code 2 = .ok (.iadd, 1) := by decide +kernel
theorem d10_3 : decode jdk_123_method_3_code 3 = .ok (.istore_n 3, 1) := by decide +kernel
theorem d10_4 : decode jdk_123_method_3_code 4 = .ok (.iload_n 1, 1) := by decide +kernel
theorem d10_5 : decode jdk_123_method_3_code 5 = .ok (.istore 4, 2) := by decide +kernel
theorem d10_7 : decode jdk_123_method_3_code 7 = .ok (.iload 4, 2) := by decide +kernel
theorem d10_9 : decode jdk_123_method_3_code 9 = .ok (.iload_n 3, 1) := by decide +kernel
theorem d10_10 : decode jdk_123_method_3_code 10 = .ok (.if_icmp .ge 21, 3) := by decide +kernel
theorem d10_13 : decode jdk_123_method_3_code 13 = .ok (.aload_n 0, 1) := by decide +kernel
theorem d10_14 : decode jdk_123_method_3_code 14 = .ok (.iload 4, 2) := by decide +kernel
theorem d10_16 : decode jdk_123_method_3_code 16 = .ok (.baload, 1) := by decide +kernel
theorem d10_17 : decode jdk_123_method_3_code 17 = .ok (.ifCond .ge 8, 3) := by decide +kernel
theorem d10_20 : decode jdk_123_method_3_code 20 = .ok (.iload 4, 2) := by decide +kernel
theorem d10_22 : decode jdk_123_method_3_code 22 = .ok (.iload_n 1, 1) := by decide +kernel
theorem d10_23 : decode jdk_123_method_3_code 23 = .ok (.isub, 1) := by decide +kernel
theorem d10_24 : decode jdk_123_method_3_code 24 = .ok (.ireturn, 1) := by decide +kernel
theorem d10_25 : decode jdk_123_method_3_code 25 = .ok (.iinc 4 1, 3) := by decide +kernel
theorem d10_28 : decode jdk_123_method_3_code 28 = .ok (.goto (-21), 3) := by decide +kernel
theorem d10_31 : decode jdk_123_method_3_code 31 = .ok (.iload_n 2, 1) := by decide +kernel
theorem d10_32 : decode jdk_123_method_3_code 32 = .ok (.ireturn, 1) := by decide +kernel
theorem pd10 : parseMethodDescriptor "([BII)I" = some ⟨[(.array .byte), .int, .int], some .int⟩ := by decide +kernel
theorem pn10 : plainFor (⟨"java/lang/StringCoding", "countPositives", "([BII)I"⟩ : MethodName) = true := by first | (refine plainFor_of_name ?_; simp [plainName, overriddenIn]; done) | (refine plainFor_of_name ?_; decide +kernel) | decide +kernel
abbrev B10 : Bd := ((⟨"java/lang/StringCoding", "countPositives", "([BII)I"⟩ : MethodName), jdk_123_method_3_code, 5, (some .int), ({ frames := 0, cells := 0, slots := 0, locals := 0 } : Room), tables_1)
theorem ef10n2a (mid : MethodId) (s : Addr) : entryFrame mid (List.toArray [.ref s, .int (0 : Int32), .int (2 : Int32)]) 5 = mkF mid 0 #[.val (.ref s), .val (.int (0 : Int32)), .val (.int (2 : Int32)), .unset, .unset] [] := by first | (simp [entryFrame, mkF, argsToLocals, Value.category]; done) | rfl
def Q10n2a (h0 : Heap) (v : Option Value) (h : Heap) : Prop := v = some (.int 2) ∧ h0 = h
set_option maxRecDepth 65536 in
set_option maxHeartbeats 40000000 in
theorem c10n2a (Z : State) (hw : Wd Z tables_1) (h0 : Heap) (s : Addr)  (b0 : Int32) (tb : Int32) (hp : ¬ b0 < 0) (ht : ¬ tb < 0) (hA : Ary Z h0 s .byte [.int b0, .int tb]) : Con Z B10 (List.toArray [.ref s, .int (0 : Int32), .int (2 : Int32)]) h0 (Q10n2a h0) := by
  refine Con.mk hw pn10 (fun mid => ef10n2a mid s) (Go.old fun hle' => ?_)
  have hle := hle'.1
  refine Go.iloadN 1 rfl d10_0 rfl ?_
  refine Go.iloadN 2 rfl d10_1 rfl ?_
  refine Go.iadd 3 rfl d10_2 ?_
  refine Go.eqI (w := 2) (by decide) ?_
  refine Go.istoreN 4 rfl d10_3 (Ls' := #[.val (.ref s), .val (.int (0 : Int32)), .val (.int (2 : Int32)), .val (.int (2 : Int32)), .unset]) rfl ?_
  refine Go.iloadN 5 rfl d10_4 rfl ?_
  refine Go.istore 7 rfl d10_5 (Ls' := #[.val (.ref s), .val (.int (0 : Int32)), .val (.int (2 : Int32)), .val (.int (2 : Int32)), .val (.int (0 : Int32))]) rfl ?_
  refine Go.iload 9 rfl d10_7 rfl ?_
  refine Go.iloadN 10 rfl d10_9 rfl ?_
  refine Go.icmp_ge 31 13 d10_10 (by decide) rfl rfl (fun (b101 : ¬ (0 : Int32) < (2 : Int32)) => ?_) (fun (b101 : (0 : Int32) < (2 : Int32)) => ?_)
  · exact absurd (show (0 : Int32) < (2 : Int32) from (by decide)) b101
  · refine Go.aloadN 14 rfl d10_13 rfl rfl ?_
    refine Go.iload 16 rfl d10_14 rfl ?_
    refine Go.baload 17 rfl b0 d10_16 hA 0 rfl rfl ?_
    refine Go.if_ge 25 20 d10_17 (by decide) rfl rfl (fun (b102 : ¬ b0 < 0) => ?_) (fun (b102 : b0 < 0) => ?_)
    · refine Go.iinc 28 rfl (1 : Int32) d10_25 rfl rfl (Ls' := #[.val (.ref s), .val (.int (0 : Int32)), .val (.int (2 : Int32)), .val (.int (2 : Int32)), .val (.int ((0 : Int32) + (1 : Int32)))]) rfl ?_
      refine Go.goto 7 d10_28 (by decide) (by decide) ?_
      refine Go.iload 9 rfl d10_7 rfl ?_
      refine Go.iloadN 10 rfl d10_9 rfl ?_
      refine Go.icmp_ge 31 13 d10_10 (by decide) rfl rfl (fun (b103 : ¬ ((0 : Int32) + (1 : Int32)) < (2 : Int32)) => ?_) (fun (b103 : ((0 : Int32) + (1 : Int32)) < (2 : Int32)) => ?_)
      · exact absurd (show ((0 : Int32) + (1 : Int32)) < (2 : Int32) from (by decide)) b103
      · refine Go.aloadN 14 rfl d10_13 rfl rfl ?_
        refine Go.iload 16 rfl d10_14 rfl ?_
        refine Go.baload 17 rfl tb d10_16 hA 1 rfl rfl ?_
        refine Go.if_ge 25 20 d10_17 (by decide) rfl rfl (fun (b104 : ¬ tb < 0) => ?_) (fun (b104 : tb < 0) => ?_)
        · refine Go.iinc 28 rfl (1 : Int32) d10_25 rfl rfl (Ls' := #[.val (.ref s), .val (.int (0 : Int32)), .val (.int (2 : Int32)), .val (.int (2 : Int32)), .val (.int (((0 : Int32) + (1 : Int32)) + (1 : Int32)))]) rfl ?_
          refine Go.goto 7 d10_28 (by decide) (by decide) ?_
          refine Go.iload 9 rfl d10_7 rfl ?_
          refine Go.iloadN 10 rfl d10_9 rfl ?_
          refine Go.icmp_ge 31 13 d10_10 (by decide) rfl rfl (fun (b105 : ¬ (((0 : Int32) + (1 : Int32)) + (1 : Int32)) < (2 : Int32)) => ?_) (fun (b105 : (((0 : Int32) + (1 : Int32)) + (1 : Int32)) < (2 : Int32)) => ?_)
          · refine Go.iloadN 32 rfl d10_31 rfl ?_
            exact Go.retI d10_32 rfl (by decide) (by decide) ⟨rfl, rfl⟩
          · exact absurd b105 (show ¬ (((0 : Int32) + (1 : Int32)) + (1 : Int32)) < (2 : Int32) from (by decide))
        · exact absurd b104 (show ¬ tb < 0 from ht)
    · exact absurd b102 (show ¬ b0 < 0 from hp)
theorem ef10n2 (mid : MethodId) (s : Addr) : entryFrame mid (List.toArray [.ref s, .int (0 : Int32), .int (2 : Int32)]) 5 = mkF mid 0 #[.val (.ref s), .val (.int (0 : Int32)), .val (.int (2 : Int32)), .unset, .unset] [] := by first | (simp [entryFrame, mkF, argsToLocals, Value.category]; done) | rfl
def Q10n2 (h0 : Heap) (v : Option Value) (h : Heap) : Prop := v = some (.int 0) ∧ h0 = h
set_option maxRecDepth 65536 in
set_option maxHeartbeats 40000000 in
theorem c10n2 (Z : State) (hw : Wd Z tables_1) (h0 : Heap) (s : Addr)  (b0 : Int32) (tb : Int32) (hp : b0 < 0) (ht : ¬ tb < 0) (hA : Ary Z h0 s .byte [.int b0, .int tb]) : Con Z B10 (List.toArray [.ref s, .int (0 : Int32), .int (2 : Int32)]) h0 (Q10n2 h0) := by
  refine Con.mk hw pn10 (fun mid => ef10n2 mid s) (Go.old fun hle' => ?_)
  have hle := hle'.1
  refine Go.iloadN 1 rfl d10_0 rfl ?_
  refine Go.iloadN 2 rfl d10_1 rfl ?_
  refine Go.iadd 3 rfl d10_2 ?_
  refine Go.eqI (w := 2) (by decide) ?_
  refine Go.istoreN 4 rfl d10_3 (Ls' := #[.val (.ref s), .val (.int (0 : Int32)), .val (.int (2 : Int32)), .val (.int (2 : Int32)), .unset]) rfl ?_
  refine Go.iloadN 5 rfl d10_4 rfl ?_
  refine Go.istore 7 rfl d10_5 (Ls' := #[.val (.ref s), .val (.int (0 : Int32)), .val (.int (2 : Int32)), .val (.int (2 : Int32)), .val (.int (0 : Int32))]) rfl ?_
  refine Go.iload 9 rfl d10_7 rfl ?_
  refine Go.iloadN 10 rfl d10_9 rfl ?_
  refine Go.icmp_ge 31 13 d10_10 (by decide) rfl rfl (fun (b101 : ¬ (0 : Int32) < (2 : Int32)) => ?_) (fun (b101 : (0 : Int32) < (2 : Int32)) => ?_)
  · exact absurd (show (0 : Int32) < (2 : Int32) from (by decide)) b101
  · refine Go.aloadN 14 rfl d10_13 rfl rfl ?_
    refine Go.iload 16 rfl d10_14 rfl ?_
    refine Go.baload 17 rfl b0 d10_16 hA 0 rfl rfl ?_
    refine Go.if_ge 25 20 d10_17 (by decide) rfl rfl (fun (b102 : ¬ b0 < 0) => ?_) (fun (b102 : b0 < 0) => ?_)
    · exact absurd (show b0 < 0 from hp) b102
    · refine Go.iload 22 rfl d10_20 rfl ?_
      refine Go.iloadN 23 rfl d10_22 rfl ?_
      refine Go.isub 24 rfl d10_23 ?_
      refine Go.eqI (w := 0) (by decide) ?_
      exact Go.retI d10_24 rfl (by decide) (by decide) ⟨rfl, rfl⟩
theorem ef10n3 (mid : MethodId) (s : Addr) : entryFrame mid (List.toArray [.ref s, .int (0 : Int32), .int (3 : Int32)]) 5 = mkF mid 0 #[.val (.ref s), .val (.int (0 : Int32)), .val (.int (3 : Int32)), .unset, .unset] [] := by first | (simp [entryFrame, mkF, argsToLocals, Value.category]; done) | rfl
def Q10n3 (h0 : Heap) (v : Option Value) (h : Heap) : Prop := v = some (.int 0) ∧ h0 = h
set_option maxRecDepth 65536 in
set_option maxHeartbeats 40000000 in
theorem c10n3 (Z : State) (hw : Wd Z tables_1) (h0 : Heap) (s : Addr)  (b0 : Int32) (b1 : Int32) (tb : Int32) (hp : b0 < 0) (ht : ¬ tb < 0) (hA : Ary Z h0 s .byte [.int b0, .int b1, .int tb]) : Con Z B10 (List.toArray [.ref s, .int (0 : Int32), .int (3 : Int32)]) h0 (Q10n3 h0) := by
  refine Con.mk hw pn10 (fun mid => ef10n3 mid s) (Go.old fun hle' => ?_)
  have hle := hle'.1
  refine Go.iloadN 1 rfl d10_0 rfl ?_
  refine Go.iloadN 2 rfl d10_1 rfl ?_
  refine Go.iadd 3 rfl d10_2 ?_
  refine Go.eqI (w := 3) (by decide) ?_
  refine Go.istoreN 4 rfl d10_3 (Ls' := #[.val (.ref s), .val (.int (0 : Int32)), .val (.int (3 : Int32)), .val (.int (3 : Int32)), .unset]) rfl ?_
  refine Go.iloadN 5 rfl d10_4 rfl ?_
  refine Go.istore 7 rfl d10_5 (Ls' := #[.val (.ref s), .val (.int (0 : Int32)), .val (.int (3 : Int32)), .val (.int (3 : Int32)), .val (.int (0 : Int32))]) rfl ?_
  refine Go.iload 9 rfl d10_7 rfl ?_
  refine Go.iloadN 10 rfl d10_9 rfl ?_
  refine Go.icmp_ge 31 13 d10_10 (by decide) rfl rfl (fun (b101 : ¬ (0 : Int32) < (3 : Int32)) => ?_) (fun (b101 : (0 : Int32) < (3 : Int32)) => ?_)
  · exact absurd (show (0 : Int32) < (3 : Int32) from (by decide)) b101
  · refine Go.aloadN 14 rfl d10_13 rfl rfl ?_
    refine Go.iload 16 rfl d10_14 rfl ?_
    refine Go.baload 17 rfl b0 d10_16 hA 0 rfl rfl ?_
    refine Go.if_ge 25 20 d10_17 (by decide) rfl rfl (fun (b102 : ¬ b0 < 0) => ?_) (fun (b102 : b0 < 0) => ?_)
    · exact absurd (show b0 < 0 from hp) b102
    · refine Go.iload 22 rfl d10_20 rfl ?_
      refine Go.iloadN 23 rfl d10_22 rfl ?_
      refine Go.isub 24 rfl d10_23 ?_
      refine Go.eqI (w := 0) (by decide) ?_
      exact Go.retI d10_24 rfl (by decide) (by decide) ⟨rfl, rfl⟩
theorem ef10n4 (mid : MethodId) (s : Addr) : entryFrame mid (List.toArray [.ref s, .int (0 : Int32), .int (4 : Int32)]) 5 = mkF mid 0 #[.val (.ref s), .val (.int (0 : Int32)), .val (.int (4 : Int32)), .unset, .unset] [] := by first | (simp [entryFrame, mkF, argsToLocals, Value.category]; done) | rfl
def Q10n4 (h0 : Heap) (v : Option Value) (h : Heap) : Prop := v = some (.int 0) ∧ h0 = h
set_option maxRecDepth 65536 in
set_option maxHeartbeats 40000000 in
theorem c10n4 (Z : State) (hw : Wd Z tables_1) (h0 : Heap) (s : Addr)  (b0 : Int32) (b1 : Int32) (b2 : Int32) (tb : Int32) (hp : b0 < 0) (ht : ¬ tb < 0) (hA : Ary Z h0 s .byte [.int b0, .int b1, .int b2, .int tb]) : Con Z B10 (List.toArray [.ref s, .int (0 : Int32), .int (4 : Int32)]) h0 (Q10n4 h0) := by
  refine Con.mk hw pn10 (fun mid => ef10n4 mid s) (Go.old fun hle' => ?_)
  have hle := hle'.1
  refine Go.iloadN 1 rfl d10_0 rfl ?_
  refine Go.iloadN 2 rfl d10_1 rfl ?_
  refine Go.iadd 3 rfl d10_2 ?_
  refine Go.eqI (w := 4) (by decide) ?_
  refine Go.istoreN 4 rfl d10_3 (Ls' := #[.val (.ref s), .val (.int (0 : Int32)), .val (.int (4 : Int32)), .val (.int (4 : Int32)), .unset]) rfl ?_
  refine Go.iloadN 5 rfl d10_4 rfl ?_
  refine Go.istore 7 rfl d10_5 (Ls' := #[.val (.ref s), .val (.int (0 : Int32)), .val (.int (4 : Int32)), .val (.int (4 : Int32)), .val (.int (0 : Int32))]) rfl ?_
  refine Go.iload 9 rfl d10_7 rfl ?_
  refine Go.iloadN 10 rfl d10_9 rfl ?_
  refine Go.icmp_ge 31 13 d10_10 (by decide) rfl rfl (fun (b101 : ¬ (0 : Int32) < (4 : Int32)) => ?_) (fun (b101 : (0 : Int32) < (4 : Int32)) => ?_)
  · exact absurd (show (0 : Int32) < (4 : Int32) from (by decide)) b101
  · refine Go.aloadN 14 rfl d10_13 rfl rfl ?_
    refine Go.iload 16 rfl d10_14 rfl ?_
    refine Go.baload 17 rfl b0 d10_16 hA 0 rfl rfl ?_
    refine Go.if_ge 25 20 d10_17 (by decide) rfl rfl (fun (b102 : ¬ b0 < 0) => ?_) (fun (b102 : b0 < 0) => ?_)
    · exact absurd (show b0 < 0 from hp) b102
    · refine Go.iload 22 rfl d10_20 rfl ?_
      refine Go.iloadN 23 rfl d10_22 rfl ?_
      refine Go.isub 24 rfl d10_23 ?_
      refine Go.eqI (w := 0) (by decide) ?_
      exact Go.retI d10_24 rfl (by decide) (by decide) ⟨rfl, rfl⟩
theorem ef10n5 (mid : MethodId) (s : Addr) : entryFrame mid (List.toArray [.ref s, .int (0 : Int32), .int (5 : Int32)]) 5 = mkF mid 0 #[.val (.ref s), .val (.int (0 : Int32)), .val (.int (5 : Int32)), .unset, .unset] [] := by first | (simp [entryFrame, mkF, argsToLocals, Value.category]; done) | rfl
def Q10n5 (h0 : Heap) (v : Option Value) (h : Heap) : Prop := v = some (.int 0) ∧ h0 = h
set_option maxRecDepth 65536 in
set_option maxHeartbeats 40000000 in
theorem c10n5 (Z : State) (hw : Wd Z tables_1) (h0 : Heap) (s : Addr)  (b0 : Int32) (b1 : Int32) (b2 : Int32) (b3 : Int32) (tb : Int32) (hp : b0 < 0) (ht : ¬ tb < 0) (hA : Ary Z h0 s .byte [.int b0, .int b1, .int b2, .int b3, .int tb]) : Con Z B10 (List.toArray [.ref s, .int (0 : Int32), .int (5 : Int32)]) h0 (Q10n5 h0) := by
  refine Con.mk hw pn10 (fun mid => ef10n5 mid s) (Go.old fun hle' => ?_)
  have hle := hle'.1
  refine Go.iloadN 1 rfl d10_0 rfl ?_
  refine Go.iloadN 2 rfl d10_1 rfl ?_
  refine Go.iadd 3 rfl d10_2 ?_
  refine Go.eqI (w := 5) (by decide) ?_
  refine Go.istoreN 4 rfl d10_3 (Ls' := #[.val (.ref s), .val (.int (0 : Int32)), .val (.int (5 : Int32)), .val (.int (5 : Int32)), .unset]) rfl ?_
  refine Go.iloadN 5 rfl d10_4 rfl ?_
  refine Go.istore 7 rfl d10_5 (Ls' := #[.val (.ref s), .val (.int (0 : Int32)), .val (.int (5 : Int32)), .val (.int (5 : Int32)), .val (.int (0 : Int32))]) rfl ?_
  refine Go.iload 9 rfl d10_7 rfl ?_
  refine Go.iloadN 10 rfl d10_9 rfl ?_
  refine Go.icmp_ge 31 13 d10_10 (by decide) rfl rfl (fun (b101 : ¬ (0 : Int32) < (5 : Int32)) => ?_) (fun (b101 : (0 : Int32) < (5 : Int32)) => ?_)
  · exact absurd (show (0 : Int32) < (5 : Int32) from (by decide)) b101
  · refine Go.aloadN 14 rfl d10_13 rfl rfl ?_
    refine Go.iload 16 rfl d10_14 rfl ?_
    refine Go.baload 17 rfl b0 d10_16 hA 0 rfl rfl ?_
    refine Go.if_ge 25 20 d10_17 (by decide) rfl rfl (fun (b102 : ¬ b0 < 0) => ?_) (fun (b102 : b0 < 0) => ?_)
    · exact absurd (show b0 < 0 from hp) b102
    · refine Go.iload 22 rfl d10_20 rfl ?_
      refine Go.iloadN 23 rfl d10_22 rfl ?_
      refine Go.isub 24 rfl d10_23 ?_
      refine Go.eqI (w := 0) (by decide) ?_
      exact Go.retI d10_24 rfl (by decide) (by decide) ⟨rfl, rfl⟩
theorem d11_0 : decode jdk_65_method_132_code 0 = .ok (.iload_n 1, 1) := by decide +kernel
theorem d11_1 : decode jdk_65_method_132_code 1 = .ok (.ifCond .ne 9, 3) := by decide +kernel
theorem d11_4 : decode jdk_65_method_132_code 4 = .ok (.iload_n 2, 1) := by decide +kernel
theorem d11_5 : decode jdk_65_method_132_code 5 = .ok (.aload_n 0, 1) := by decide +kernel
theorem d11_6 : decode jdk_65_method_132_code 6 = .ok (.arraylength, 1) := by decide +kernel
theorem d11_7 : decode jdk_65_method_132_code 7 = .ok (.if_icmp .eq 10, 3) := by decide +kernel
theorem d11_17 : decode jdk_65_method_132_code 17 = .ok (.aload_n 0, 1) := by decide +kernel
theorem d11_18 : decode jdk_65_method_132_code 18 = .ok (.invokevirtual 310, 3) := by decide +kernel
theorem d11_21 : decode jdk_65_method_132_code 21 = .ok (.checkcast 311, 3) := by decide +kernel
theorem d11_24 : decode jdk_65_method_132_code 24 = .ok (.areturn, 1) := by decide +kernel
theorem pd11 : parseMethodDescriptor "([BII)[B" = some ⟨[(.array .byte), .int, .int], some (.array .byte)⟩ := by decide +kernel
theorem pn11 : plainFor (⟨"java/util/Arrays", "copyOfRange", "([BII)[B"⟩ : MethodName) = true := by first | (refine plainFor_of_name ?_; simp [plainName, overriddenIn]; done) | (refine plainFor_of_name ?_; decide +kernel) | decide +kernel
abbrev B11 : Bd := ((⟨"java/util/Arrays", "copyOfRange", "([BII)[B"⟩ : MethodName), jdk_65_method_132_code, 3, (some (.array .byte)), ({ frames := 1, cells := 1, slots := 5, locals := 14 } : Room), tables_1)
theorem ef11 (mid : MethodId) (s : Addr) (l : Int32) : entryFrame mid (List.toArray [.ref s, .int (0 : Int32), .int l]) 3 = mkF mid 0 #[.val (.ref s), .val (.int (0 : Int32)), .val (.int l)] [] := by first | (simp [entryFrame, mkF, argsToLocals, Value.category]; done) | rfl
def Q11 (Z : State) (vs : List Value) (h0 : Heap) (v : Option Value) (h : Heap) : Prop := ∃ t, v = some (.ref t) ∧ h0.size ≤ t ∧ Keep h0 h [] ∧ Ary Z h t .byte vs
set_option maxRecDepth 65536 in
set_option maxHeartbeats 40000000 in
theorem c11 (Z : State) (hw : Wd Z tables_1) (h0 : Heap) (s : Addr) (l : Int32) (vs : List Value) (hl : l.toInt = vs.length) (hv : vs.length ≤ 5) (hA : Ary Z h0 s .byte vs) (hE : Exa Z h0 s "[B") : Con Z B11 (List.toArray [.ref s, .int (0 : Int32), .int l]) h0 (Q11 Z vs h0) := by
  refine Con.mk hw pn11 (fun mid => ef11 mid s l) (Go.old fun hle' => ?_)
  have hle := hle'.1
  refine Go.iloadN 1 rfl d11_0 rfl ?_
  refine Go.if_ne 10 4 d11_1 (by decide) rfl rfl (fun (b101 : ¬ (0 : Int32) = 0) => ?_) (fun (b101 : (0 : Int32) = 0) => ?_)
  · exact absurd (show (0 : Int32) = 0 from (by decide)) b101
  · refine Go.iloadN 5 rfl d11_4 rfl ?_
    refine Go.aloadN 6 rfl d11_5 rfl rfl ?_
    refine Go.alen 7 rfl l d11_6 hA hl ?_
    refine Go.icmp_eq 17 10 d11_7 (by decide) rfl rfl (fun (b102 : l = l) => ?_) (fun (b102 : ¬ l = l) => ?_)
    · refine Go.aloadN 18 rfl d11_17 rfl rfl ?_
      refine Go.clone 21 rfl 5 62 63 67 65 66 68 d11_18 rfl rfl rfl rfl rfl rfl hA hE rfl (by decide) (W := 0) (Nat.le_of_ble_eq_true rfl) (by decide) hv (by decide) (by decide) fun h104 a103 g105 z106 K107 A108 E109 => ?_
      refine Go.castY 24 rfl 69 d11_21 rfl (Ins.self E109) ?_
      exact Go.retA d11_24 rfl rfl rfl (by decide) (by decide) ⟨a103, rfl, Nat.le_of_eq g105.symm, ((Keep.refl h0 []).trans K107 all0), A108⟩
    · exact absurd (show l = l from rfl) b102
theorem d15_0 : decode jdk_65_method_121_code 0 = .ok (.iload_n 1, 1) := by decide +kernel
theorem d15_1 : decode jdk_65_method_121_code 1 = .ok (.aload_n 0, 1) := by decide +kernel
theorem d15_2 : decode jdk_65_method_121_code 2 = .ok (.arraylength, 1) := by decide +kernel
theorem d15_3 : decode jdk_65_method_121_code 3 = .ok (.if_icmp .ne 11, 3) := by decide +kernel
theorem d15_14 : decode jdk_65_method_121_code 14 = .ok (.iload_n 1, 1) := by decide +kernel
theorem d15_15 : decode jdk_65_method_121_code 15 = .ok (.newarray .byte, 2) := by decide +kernel
theorem d15_17 : decode jdk_65_method_121_code 17 = .ok (.astore_n 2, 1) := by decide +kernel
theorem d15_18 : decode jdk_65_method_121_code 18 = .ok (.aload_n 0, 1) := by decide +kernel
theorem d15_19 : decode jdk_65_method_121_code 19 = .ok (.iconst 0, 1) := by decide +kernel
theorem d15_20 : decode jdk_65_method_121_code 20 = .ok (.aload_n 2, 1) := by decide +kernel
theorem d15_21 : decode jdk_65_method_121_code 21 = .ok (.iconst 0, 1) := by decide +kernel
theorem d15_22 : decode jdk_65_method_121_code 22 = .ok (.aload_n 0, 1) := by decide +kernel
theorem d15_23 : decode jdk_65_method_121_code 23 = .ok (.arraylength, 1) := by decide +kernel
theorem d15_24 : decode jdk_65_method_121_code 24 = .ok (.iload_n 1, 1) := by decide +kernel
theorem d15_25 : decode jdk_65_method_121_code 25 = .ok (.invokestatic 304, 3) := by decide +kernel
theorem d15_28 : decode jdk_65_method_121_code 28 = .ok (.invokestatic 150, 3) := by decide +kernel
theorem d15_31 : decode jdk_65_method_121_code 31 = .ok (.aload_n 2, 1) := by decide +kernel
theorem d15_32 : decode jdk_65_method_121_code 32 = .ok (.areturn, 1) := by decide +kernel
theorem pd15 : parseMethodDescriptor "([BI)[B" = some ⟨[(.array .byte), .int], some (.array .byte)⟩ := by decide +kernel
theorem pn15 : plainFor (⟨"java/util/Arrays", "copyOf", "([BI)[B"⟩ : MethodName) = true := by first | (refine plainFor_of_name ?_; simp [plainName, overriddenIn]; done) | (refine plainFor_of_name ?_; decide +kernel) | decide +kernel
abbrev B15 : Bd := ((⟨"java/util/Arrays", "copyOf", "([BI)[B"⟩ : MethodName), jdk_65_method_121_code, 3, (some (.array .byte)), ({ frames := 1, cells := 1, slots := 6, locals := 18 } : Room), tables_1)
theorem ef15n6 (mid : MethodId) (s : Addr) : entryFrame mid (List.toArray [.ref s, .int (6 : Int32)]) 3 = mkF mid 0 #[.val (.ref s), .val (.int (6 : Int32)), .unset] [] := by first | (simp [entryFrame, mkF, argsToLocals, Value.category]; done) | rfl
def Q15n6 (Z : State) (us : List Int32) (h0 : Heap) (v : Option Value) (h : Heap) : Prop := ∃ t, v = some (.ref t) ∧ h0.size ≤ t ∧ Keep h0 h [] ∧ Ary Z h t .byte (IL (us.take 6))
set_option maxRecDepth 65536 in
set_option maxHeartbeats 40000000 in
theorem c15n6 (Z : State) (hw : Wd Z tables_1) (h0 : Heap) (s : Addr) (us : List Int32) (L : Int32) (hL : L.toInt = (IL us).length) (hne : ¬ (6 : Int32) = L) (hmin : (6 : Int32) < L) (hlen : 0 + 6 ≤ (IL us).length) (hA : Ary Z h0 s .byte (IL us)) : Con Z B15 (List.toArray [.ref s, .int (6 : Int32)]) h0 (Q15n6 Z us h0) := by
  refine Con.mk hw pn15 (fun mid => ef15n6 mid s) (Go.old fun hle' => ?_)
  have hle := hle'.1
  refine Go.iloadN 1 rfl d15_0 rfl ?_
  refine Go.aloadN 2 rfl d15_1 rfl rfl ?_
  refine Go.alen 3 rfl L d15_2 hA hL ?_
  refine Go.icmp_ne 14 6 d15_3 (by decide) rfl rfl (fun (b101 : ¬ (6 : Int32) = L) => ?_) (fun (b101 : (6 : Int32) = L) => ?_)
  · refine Go.iloadN 15 rfl d15_14 rfl ?_
    refine Go.newA 17 rfl 1 6 6 d15_15 rfl rfl (by decide) (by decide) (by decide) (by decide) fun h103 a102 g104 z105 K106 A107 E108 => ?_
    have A109 : Ary Z h103 a102 .byte [.int 0, .int 0, .int 0, .int 0, .int 0, .int 0] := A107
    refine Go.astoreN 18 rfl d15_17 rfl (Ls' := #[.val (.ref s), .val (.int (6 : Int32)), .val (.ref a102)]) rfl ?_
    refine Go.aloadN 19 rfl d15_18 rfl rfl ?_
    refine Go.iconst 20 rfl (0 : Int32) d15_19 rfl ?_
    refine Go.aloadN 21 rfl d15_20 rfl rfl ?_
    refine Go.iconst 22 rfl (0 : Int32) d15_21 rfl ?_
    refine Go.aloadN 23 rfl d15_22 rfl rfl ?_
    have F110 : Ary Z h103 s .byte (IL us) := (hA.keep K106 nin0)
    refine Go.alen 24 rfl L d15_23 F110 hL ?_
    refine Go.iloadN 25 rfl d15_24 rfl ?_
    refine Go.callS 28 rfl (C := B16) [.int L, .int (6 : Int32)] (rest := [.int (0 : Int32), .ref a102, .int (0 : Int32), .ref s]) 86 87 88 89 (c16 Z hw h103 L (6 : Int32) hmin) d15_25 rfl rfl rfl rfl (by decide) pd16 rfl rfl rfl (W := 4) (Nat.le_of_ble_eq_true rfl) (by decide) (by decide) (by decide) (by decide) fun v111 h112 q113 => ?_
    obtain ⟨rfl, rfl⟩ := q113
    refine Go.acopy 31 rfl (IL (us.take 6)) 90 93 91 92 d15_28 rfl rfl rfl rfl rfl F110 A109 0 0 6 rfl rfl rfl hlen (Nat.le_of_ble_eq_true rfl) (own_tk us) z105 rfl (by decide) (W := 0) (Nat.le_of_ble_eq_true rfl) (by decide) fun h114 K115 A116 => ?_
    refine Go.aloadN 32 rfl d15_31 rfl rfl ?_
    exact Go.retA d15_32 rfl rfl rfl (by decide) (by decide) ⟨a102, rfl, Nat.le_of_eq g104.symm, (((Keep.refl h0 []).trans K106 all0).trans K115 (allS (Or.inr (Nat.le_of_eq g104.symm)) all0)), A116⟩
  · exact absurd b101 (show ¬ (6 : Int32) = L from hne)
theorem ef15n4 (mid : MethodId) (s : Addr) : entryFrame mid (List.toArray [.ref s, .int (4 : Int32)]) 3 = mkF mid 0 #[.val (.ref s), .val (.int (4 : Int32)), .unset] [] := by first | (simp [entryFrame, mkF, argsToLocals, Value.category]; done) | rfl
def Q15n4 (Z : State) (us : List Int32) (h0 : Heap) (v : Option Value) (h : Heap) : Prop := ∃ t, v = some (.ref t) ∧ h0.size ≤ t ∧ Keep h0 h [] ∧ Ary Z h t .byte (IL (us.take 4))
set_option maxRecDepth 65536 in
set_option maxHeartbeats 40000000 in
theorem c15n4 (Z : State) (hw : Wd Z tables_1) (h0 : Heap) (s : Addr) (us : List Int32) (L : Int32) (hL : L.toInt = (IL us).length) (hne : ¬ (4 : Int32) = L) (hmin : (4 : Int32) < L) (hlen : 0 + 4 ≤ (IL us).length) (hA : Ary Z h0 s .byte (IL us)) : Con Z B15 (List.toArray [.ref s, .int (4 : Int32)]) h0 (Q15n4 Z us h0) := by
  refine Con.mk hw pn15 (fun mid => ef15n4 mid s) (Go.old fun hle' => ?_)
  have hle := hle'.1
  refine Go.iloadN 1 rfl d15_0 rfl ?_
  refine Go.aloadN 2 rfl d15_1 rfl rfl ?_
  refine Go.alen 3 rfl L d15_2 hA hL ?_
  refine Go.icmp_ne 14 6 d15_3 (by decide) rfl rfl (fun (b101 : ¬ (4 : Int32) = L) => ?_) (fun (b101 : (4 : Int32) = L) => ?_)
  · refine Go.iloadN 15 rfl d15_14 rfl ?_
    refine Go.newA 17 rfl 1 4 4 d15_15 rfl rfl (by decide) (by decide) (by decide) (by decide) fun h103 a102 g104 z105 K106 A107 E108 => ?_
    have A109 : Ary Z h103 a102 .byte [.int 0, .int 0, .int 0, .int 0] := A107
    refine Go.astoreN 18 rfl d15_17 rfl (Ls' := #[.val (.ref s), .val (.int (4 : Int32)), .val (.ref a102)]) rfl ?_
    refine Go.aloadN 19 rfl d15_18 rfl rfl ?_
    refine Go.iconst 20 rfl (0 : Int32) d15_19 rfl ?_
    refine Go.aloadN 21 rfl d15_20 rfl rfl ?_
    refine Go.iconst 22 rfl (0 : Int32) d15_21 rfl ?_
    refine Go.aloadN 23 rfl d15_22 rfl rfl ?_
    have F110 : Ary Z h103 s .byte (IL us) := (hA.keep K106 nin0)
    refine Go.alen 24 rfl L d15_23 F110 hL ?_
    refine Go.iloadN 25 rfl d15_24 rfl ?_
    refine Go.callS 28 rfl (C := B16) [.int L, .int (4 : Int32)] (rest := [.int (0 : Int32), .ref a102, .int (0 : Int32), .ref s]) 86 87 88 89 (c16 Z hw h103 L (4 : Int32) hmin) d15_25 rfl rfl rfl rfl (by decide) pd16 rfl rfl rfl (W := 4) (Nat.le_of_ble_eq_true rfl) (by decide) (by decide) (by decide) (by decide) fun v111 h112 q113 => ?_
    obtain ⟨rfl, rfl⟩ := q113
    refine Go.acopy 31 rfl (IL (us.take 4)) 90 93 91 92 d15_28 rfl rfl rfl rfl rfl F110 A109 0 0 4 rfl rfl rfl hlen (Nat.le_of_ble_eq_true rfl) (own_tk us) z105 rfl (by decide) (W := 0) (Nat.le_of_ble_eq_true rfl) (by decide) fun h114 K115 A116 => ?_
    refine Go.aloadN 32 rfl d15_31 rfl rfl ?_
    exact Go.retA d15_32 rfl rfl rfl (by decide) (by decide) ⟨a102, rfl, Nat.le_of_eq g104.symm, (((Keep.refl h0 []).trans K106 all0).trans K115 (allS (Or.inr (Nat.le_of_eq g104.symm)) all0)), A116⟩
  · exact absurd b101 (show ¬ (4 : Int32) = L from hne)
theorem ef15n2 (mid : MethodId) (s : Addr) : entryFrame mid (List.toArray [.ref s, .int (2 : Int32)]) 3 = mkF mid 0 #[.val (.ref s), .val (.int (2 : Int32)), .unset] [] := by first | (simp [entryFrame, mkF, argsToLocals, Value.category]; done) | rfl
def Q15n2 (Z : State) (us : List Int32) (h0 : Heap) (v : Option Value) (h : Heap) : Prop := ∃ t, v = some (.ref t) ∧ h0.size ≤ t ∧ Keep h0 h [] ∧ Ary Z h t .byte (IL (us.take 2))
set_option maxRecDepth 65536 in
set_option maxHeartbeats 40000000 in
theorem c15n2 (Z : State) (hw : Wd Z tables_1) (h0 : Heap) (s : Addr) (us : List Int32) (L : Int32) (hL : L.toInt = (IL us).length) (hne : ¬ (2 : Int32) = L) (hmin : (2 : Int32) < L) (hlen : 0 + 2 ≤ (IL us).length) (hA : Ary Z h0 s .byte (IL us)) : Con Z B15 (List.toArray [.ref s, .int (2 : Int32)]) h0 (Q15n2 Z us h0) := by
  refine Con.mk hw pn15 (fun mid => ef15n2 mid s) (Go.old fun hle' => ?_)
  have hle := hle'.1
  refine Go.iloadN 1 rfl d15_0 rfl ?_
  refine Go.aloadN 2 rfl d15_1 rfl rfl ?_
  refine Go.alen 3 rfl L d15_2 hA hL ?_
  refine Go.icmp_ne 14 6 d15_3 (by decide) rfl rfl (fun (b101 : ¬ (2 : Int32) = L) => ?_) (fun (b101 : (2 : Int32) = L) => ?_)
  · refine Go.iloadN 15 rfl d15_14 rfl ?_
    refine Go.newA 17 rfl 1 2 2 d15_15 rfl rfl (by decide) (by decide) (by decide) (by decide) fun h103 a102 g104 z105 K106 A107 E108 => ?_
    have A109 : Ary Z h103 a102 .byte [.int 0, .int 0] := A107
    refine Go.astoreN 18 rfl d15_17 rfl (Ls' := #[.val (.ref s), .val (.int (2 : Int32)), .val (.ref a102)]) rfl ?_
    refine Go.aloadN 19 rfl d15_18 rfl rfl ?_
    refine Go.iconst 20 rfl (0 : Int32) d15_19 rfl ?_
    refine Go.aloadN 21 rfl d15_20 rfl rfl ?_
    refine Go.iconst 22 rfl (0 : Int32) d15_21 rfl ?_
    refine Go.aloadN 23 rfl d15_22 rfl rfl ?_
    have F110 : Ary Z h103 s .byte (IL us) := (hA.keep K106 nin0)
    refine Go.alen 24 rfl L d15_23 F110 hL ?_
    refine Go.iloadN 25 rfl d15_24 rfl ?_
    refine Go.callS 28 rfl (C := B16) [.int L, .int (2 : Int32)] (rest := [.int (0 : Int32), .ref a102, .int (0 : Int32), .ref s]) 86 87 88 89 (c16 Z hw h103 L (2 : Int32) hmin) d15_25 rfl rfl rfl rfl (by decide) pd16 rfl rfl rfl (W := 4) (Nat.le_of_ble_eq_true rfl) (by decide) (by decide) (by decide) (by decide) fun v111 h112 q113 => ?_
    obtain ⟨rfl, rfl⟩ := q113
    refine Go.acopy 31 rfl (IL (us.take 2)) 90 93 91 92 d15_28 rfl rfl rfl rfl rfl F110 A109 0 0 2 rfl rfl rfl hlen (Nat.le_of_ble_eq_true rfl) (own_tk us) z105 rfl (by decide) (W := 0) (Nat.le_of_ble_eq_true rfl) (by decide) fun h114 K115 A116 => ?_
    refine Go.aloadN 32 rfl d15_31 rfl rfl ?_
    exact Go.retA d15_32 rfl rfl rfl (by decide) (by decide) ⟨a102, rfl, Nat.le_of_eq g104.symm, (((Keep.refl h0 []).trans K106 all0).trans K115 (allS (Or.inr (Nat.le_of_eq g104.symm)) all0)), A116⟩
  · exact absurd b101 (show ¬ (2 : Int32) = L from hne)
theorem d28_0 : decode jdk_42_method_38_code 0 = .ok (.iload_n 1, 1) := by decide +kernel
theorem d28_1 : decode jdk_42_method_38_code 1 = .ok (.iload_n 2, 1) := by decide +kernel
theorem d28_2 : decode jdk_42_method_38_code 2 = .ok (.if_icmp .ge 619, 3) := by decide +kernel
theorem d28_5 : decode jdk_42_method_38_code 5 = .ok (.aload_n 0, 1) := by decide +kernel
theorem d28_6 : decode jdk_42_method_38_code 6 = .ok (.iload_n 1, 1) := by decide +kernel
theorem d28_7 : decode jdk_42_method_38_code 7 = .ok (.iinc 1 1, 3) := by decide +kernel
theorem d28_10 : decode jdk_42_method_38_code 10 = .ok (.baload, 1) := by decide +kernel
theorem d28_11 : decode jdk_42_method_38_code 11 = .ok (.istore 6, 2) := by decide +kernel
theorem d28_13 : decode jdk_42_method_38_code 13 = .ok (.iload 6, 2) := by decide +kernel
theorem d28_15 : decode jdk_42_method_38_code 15 = .ok (.ifCond .lt 18, 3) := by decide +kernel
theorem d28_18 : decode jdk_42_method_38_code 18 = .ok (.aload_n 3, 1) := by decide +kernel
theorem d28_19 : decode jdk_42_method_38_code 19 = .ok (.iload 4, 2) := by decide +kernel
theorem d28_21 : decode jdk_42_method_38_code 21 = .ok (.iinc 4 1, 3) := by decide +kernel
theorem d28_24 : decode jdk_42_method_38_code 24 = .ok (.iload 6, 2) := by decide +kernel
theorem d28_26 : decode jdk_42_method_38_code 26 = .ok (.i2c, 1) := by decide +kernel
theorem d28_27 : decode jdk_42_method_38_code 27 = .ok (.invokestatic 64, 3) := by decide +kernel
theorem d28_30 : decode jdk_42_method_38_code 30 = .ok (.goto 588, 3) := by decide +kernel
theorem d28_33 : decode jdk_42_method_38_code 33 = .ok (.iload 6, 2) := by decide +kernel
theorem d28_35 : decode jdk_42_method_38_code 35 = .ok (.iconst 5, 1) := by decide +kernel
theorem d28_36 : decode jdk_42_method_38_code 36 = .ok (.ishr, 1) := by decide +kernel
theorem d28_37 : decode jdk_42_method_38_code 37 = .ok (.bipush (-2), 2) := by decide +kernel
theorem d28_39 : decode jdk_42_method_38_code 39 = .ok (.if_icmp .ne 104, 3) := by decide +kernel
theorem d28_42 : decode jdk_42_method_38_code 42 = .ok (.iload 6, 2) := by decide +kernel
theorem d28_44 : decode jdk_42_method_38_code 44 = .ok (.bipush 30, 2) := by decide +kernel
theorem d28_46 : decode jdk_42_method_38_code 46 = .ok (.iand, 1) := by decide +kernel
theorem d28_47 : decode jdk_42_method_38_code 47 = .ok (.ifCond .eq 96, 3) := by decide +kernel
theorem d28_50 : decode jdk_42_method_38_code 50 = .ok (.iload_n 1, 1) := by decide +kernel
theorem d28_51 : decode jdk_42_method_38_code 51 = .ok (.iload_n 2, 1) := by decide +kernel
theorem d28_52 : decode jdk_42_method_38_code 52 = .ok (.if_icmp .ge 67, 3) := by decide +kernel
theorem d28_55 : decode jdk_42_method_38_code 55 = .ok (.aload_n 0, 1) := by decide +kernel
theorem d28_56 : decode jdk_42_method_38_code 56 = .ok (.iload_n 1, 1) := by decide +kernel
theorem d28_57 : decode jdk_42_method_38_code 57 = .ok (.iinc 1 1, 3) := by decide +kernel
theorem d28_60 : decode jdk_42_method_38_code 60 = .ok (.baload, 1) := by decide +kernel
theorem d28_61 : decode jdk_42_method_38_code 61 = .ok (.istore 7, 2) := by decide +kernel
theorem d28_63 : decode jdk_42_method_38_code 63 = .ok (.iload 7, 2) := by decide +kernel
theorem d28_65 : decode jdk_42_method_38_code 65 = .ok (.invokestatic 385, 3) := by decide +kernel
theorem d28_68 : decode jdk_42_method_38_code 68 = .ok (.ifCond .eq 32, 3) := by decide +kernel
theorem d28_100 : decode jdk_42_method_38_code 100 = .ok (.aload_n 3, 1) := by decide +kernel
theorem d28_101 : decode jdk_42_method_38_code 101 = .ok (.iload 4, 2) := by decide +kernel
theorem d28_103 : decode jdk_42_method_38_code 103 = .ok (.iinc 4 1, 3) := by decide +kernel
theorem d28_106 : decode jdk_42_method_38_code 106 = .ok (.iload 6, 2) := by decide +kernel
theorem d28_108 : decode jdk_42_method_38_code 108 = .ok (.iload 7, 2) := by decide +kernel
theorem d28_110 : decode jdk_42_method_38_code 110 = .ok (.invokestatic 98, 3) := by decide +kernel
theorem d28_113 : decode jdk_42_method_38_code 113 = .ok (.invokestatic 64, 3) := by decide +kernel
theorem d28_116 : decode jdk_42_method_38_code 116 = .ok (.goto (-116), 3) := by decide +kernel
theorem d28_143 : decode jdk_42_method_38_code 143 = .ok (.iload 6, 2) := by decide +kernel
theorem d28_145 : decode jdk_42_method_38_code 145 = .ok (.iconst 4, 1) := by decide +kernel
theorem d28_146 : decode jdk_42_method_38_code 146 = .ok (.ishr, 1) := by decide +kernel
theorem d28_147 : decode jdk_42_method_38_code 147 = .ok (.bipush (-2), 2) := by decide +kernel
theorem d28_149 : decode jdk_42_method_38_code 149 = .ok (.if_icmp .ne 200, 3) := by decide +kernel
theorem d28_152 : decode jdk_42_method_38_code 152 = .ok (.iload_n 1, 1) := by decide +kernel
theorem d28_153 : decode jdk_42_method_38_code 153 = .ok (.iconst 1, 1) := by decide +kernel
theorem d28_154 : decode jdk_42_method_38_code 154 = .ok (.iadd, 1) := by decide +kernel
theorem d28_155 : decode jdk_42_method_38_code 155 = .ok (.iload_n 2, 1) := by decide +kernel
theorem d28_156 : decode jdk_42_method_38_code 156 = .ok (.if_icmp .ge 127, 3) := by decide +kernel
theorem d28_159 : decode jdk_42_method_38_code 159 = .ok (.aload_n 0, 1) := by decide +kernel
theorem d28_160 : decode jdk_42_method_38_code 160 = .ok (.iload_n 1, 1) := by decide +kernel
theorem d28_161 : decode jdk_42_method_38_code 161 = .ok (.iinc 1 1, 3) := by decide +kernel
theorem d28_164 : decode jdk_42_method_38_code 164 = .ok (.baload, 1) := by decide +kernel
theorem d28_165 : decode jdk_42_method_38_code 165 = .ok (.istore 7, 2) := by decide +kernel
theorem d28_167 : decode jdk_42_method_38_code 167 = .ok (.aload_n 0, 1) := by decide +kernel
theorem d28_168 : decode jdk_42_method_38_code 168 = .ok (.iload_n 1, 1) := by decide +kernel
theorem d28_169 : decode jdk_42_method_38_code 169 = .ok (.iinc 1 1, 3) := by decide +kernel
theorem d28_172 : decode jdk_42_method_38_code 172 = .ok (.baload, 1) := by decide +kernel
theorem d28_173 : decode jdk_42_method_38_code 173 = .ok (.istore 8, 2) := by decide +kernel
theorem d28_175 : decode jdk_42_method_38_code 175 = .ok (.iload 6, 2) := by decide +kernel
theorem d28_177 : decode jdk_42_method_38_code 177 = .ok (.iload 7, 2) := by decide +kernel
theorem d28_179 : decode jdk_42_method_38_code 179 = .ok (.iload 8, 2) := by decide +kernel
theorem d28_181 : decode jdk_42_method_38_code 181 = .ok (.invokestatic 392, 3) := by decide +kernel
theorem d28_184 : decode jdk_42_method_38_code 184 = .ok (.ifCond .eq 40, 3) := by decide +kernel
theorem d28_224 : decode jdk_42_method_38_code 224 = .ok (.iload 6, 2) := by decide +kernel
theorem d28_226 : decode jdk_42_method_38_code 226 = .ok (.iload 7, 2) := by decide +kernel
theorem d28_228 : decode jdk_42_method_38_code 228 = .ok (.iload 8, 2) := by decide +kernel
theorem d28_230 : decode jdk_42_method_38_code 230 = .ok (.invokestatic 400, 3) := by decide +kernel
theorem d28_233 : decode jdk_42_method_38_code 233 = .ok (.istore 9, 2) := by decide +kernel
theorem d28_235 : decode jdk_42_method_38_code 235 = .ok (.iload 9, 2) := by decide +kernel
theorem d28_237 : decode jdk_42_method_38_code 237 = .ok (.invokestatic 404, 3) := by decide +kernel
theorem d28_240 : decode jdk_42_method_38_code 240 = .ok (.ifCond .eq 29, 3) := by decide +kernel
theorem d28_269 : decode jdk_42_method_38_code 269 = .ok (.aload_n 3, 1) := by decide +kernel
theorem d28_270 : decode jdk_42_method_38_code 270 = .ok (.iload 4, 2) := by decide +kernel
theorem d28_272 : decode jdk_42_method_38_code 272 = .ok (.iinc 4 1, 3) := by decide +kernel
theorem d28_275 : decode jdk_42_method_38_code 275 = .ok (.iload 9, 2) := by decide +kernel
theorem d28_277 : decode jdk_42_method_38_code 277 = .ok (.invokestatic 64, 3) := by decide +kernel
theorem d28_280 : decode jdk_42_method_38_code 280 = .ok (.goto (-280), 3) := by decide +kernel
theorem d28_349 : decode jdk_42_method_38_code 349 = .ok (.iload 6, 2) := by decide +kernel
theorem d28_351 : decode jdk_42_method_38_code 351 = .ok (.iconst 3, 1) := by decide +kernel
theorem d28_352 : decode jdk_42_method_38_code 352 = .ok (.ishr, 1) := by decide +kernel
theorem d28_353 : decode jdk_42_method_38_code 353 = .ok (.bipush (-2), 2) := by decide +kernel
theorem d28_355 : decode jdk_42_method_38_code 355 = .ok (.if_icmp .ne 240, 3) := by decide +kernel
theorem d28_358 : decode jdk_42_method_38_code 358 = .ok (.iload_n 1, 1) := by decide +kernel
theorem d28_359 : decode jdk_42_method_38_code 359 = .ok (.iconst 2, 1) := by decide +kernel
theorem d28_360 : decode jdk_42_method_38_code 360 = .ok (.iadd, 1) := by decide +kernel
theorem d28_361 : decode jdk_42_method_38_code 361 = .ok (.iload_n 2, 1) := by decide +kernel
theorem d28_362 : decode jdk_42_method_38_code 362 = .ok (.if_icmp .ge 128, 3) := by decide +kernel
theorem d28_365 : decode jdk_42_method_38_code 365 = .ok (.aload_n 0, 1) := by decide +kernel
theorem d28_366 : decode jdk_42_method_38_code 366 = .ok (.iload_n 1, 1) := by decide +kernel
theorem d28_367 : decode jdk_42_method_38_code 367 = .ok (.iinc 1 1, 3) := by decide +kernel
theorem d28_370 : decode jdk_42_method_38_code 370 = .ok (.baload, 1) := by decide +kernel
theorem d28_371 : decode jdk_42_method_38_code 371 = .ok (.istore 7, 2) := by decide +kernel
theorem d28_373 : decode jdk_42_method_38_code 373 = .ok (.aload_n 0, 1) := by decide +kernel
theorem d28_374 : decode jdk_42_method_38_code 374 = .ok (.iload_n 1, 1) := by decide +kernel
theorem d28_375 : decode jdk_42_method_38_code 375 = .ok (.iinc 1 1, 3) := by decide +kernel
theorem d28_378 : decode jdk_42_method_38_code 378 = .ok (.baload, 1) := by decide +kernel
theorem d28_379 : decode jdk_42_method_38_code 379 = .ok (.istore 8, 2) := by decide +kernel
theorem d28_381 : decode jdk_42_method_38_code 381 = .ok (.aload_n 0, 1) := by decide +kernel
theorem d28_382 : decode jdk_42_method_38_code 382 = .ok (.iload_n 1, 1) := by decide +kernel
theorem d28_383 : decode jdk_42_method_38_code 383 = .ok (.iinc 1 1, 3) := by decide +kernel
theorem d28_386 : decode jdk_42_method_38_code 386 = .ok (.baload, 1) := by decide +kernel
theorem d28_387 : decode jdk_42_method_38_code 387 = .ok (.istore 9, 2) := by decide +kernel
theorem d28_389 : decode jdk_42_method_38_code 389 = .ok (.iload 6, 2) := by decide +kernel
theorem d28_391 : decode jdk_42_method_38_code 391 = .ok (.iload 7, 2) := by decide +kernel
theorem d28_393 : decode jdk_42_method_38_code 393 = .ok (.iload 8, 2) := by decide +kernel
theorem d28_395 : decode jdk_42_method_38_code 395 = .ok (.iload 9, 2) := by decide +kernel
theorem d28_397 : decode jdk_42_method_38_code 397 = .ok (.invokestatic 411, 3) := by decide +kernel
theorem d28_400 : decode jdk_42_method_38_code 400 = .ok (.istore 10, 2) := by decide +kernel
theorem d28_402 : decode jdk_42_method_38_code 402 = .ok (.iload 7, 2) := by decide +kernel
theorem d28_404 : decode jdk_42_method_38_code 404 = .ok (.iload 8, 2) := by decide +kernel
theorem d28_406 : decode jdk_42_method_38_code 406 = .ok (.iload 9, 2) := by decide +kernel
theorem d28_408 : decode jdk_42_method_38_code 408 = .ok (.invokestatic 415, 3) := by decide +kernel
theorem d28_411 : decode jdk_42_method_38_code 411 = .ok (.ifCond .ne 11, 3) := by decide +kernel
theorem d28_414 : decode jdk_42_method_38_code 414 = .ok (.iload 10, 2) := by decide +kernel
theorem d28_416 : decode jdk_42_method_38_code 416 = .ok (.invokestatic 418, 3) := by decide +kernel
theorem d28_419 : decode jdk_42_method_38_code 419 = .ok (.ifCond .ne 40, 3) := by decide +kernel
theorem d28_459 : decode jdk_42_method_38_code 459 = .ok (.aload_n 3, 1) := by decide +kernel
theorem d28_460 : decode jdk_42_method_38_code 460 = .ok (.iload 4, 2) := by decide +kernel
theorem d28_462 : decode jdk_42_method_38_code 462 = .ok (.iinc 4 1, 3) := by decide +kernel
theorem d28_465 : decode jdk_42_method_38_code 465 = .ok (.iload 10, 2) := by decide +kernel
theorem d28_467 : decode jdk_42_method_38_code 467 = .ok (.invokestatic 424, 3) := by decide +kernel
theorem d28_470 : decode jdk_42_method_38_code 470 = .ok (.invokestatic 64, 3) := by decide +kernel
theorem d28_473 : decode jdk_42_method_38_code 473 = .ok (.aload_n 3, 1) := by decide +kernel
theorem d28_474 : decode jdk_42_method_38_code 474 = .ok (.iload 4, 2) := by decide +kernel
theorem d28_476 : decode jdk_42_method_38_code 476 = .ok (.iinc 4 1, 3) := by decide +kernel
theorem d28_479 : decode jdk_42_method_38_code 479 = .ok (.iload 10, 2) := by decide +kernel
theorem d28_481 : decode jdk_42_method_38_code 481 = .ok (.invokestatic 428, 3) := by decide +kernel
theorem d28_484 : decode jdk_42_method_38_code 484 = .ok (.invokestatic 64, 3) := by decide +kernel
theorem d28_487 : decode jdk_42_method_38_code 487 = .ok (.goto (-487), 3) := by decide +kernel
theorem d28_595 : decode jdk_42_method_38_code 595 = .ok (.iload 5, 2) := by decide +kernel
theorem d28_597 : decode jdk_42_method_38_code 597 = .ok (.ifCond .ne 10, 3) := by decide +kernel
theorem d28_607 : decode jdk_42_method_38_code 607 = .ok (.aload_n 3, 1) := by decide +kernel
theorem d28_608 : decode jdk_42_method_38_code 608 = .ok (.iload 4, 2) := by decide +kernel
theorem d28_610 : decode jdk_42_method_38_code 610 = .ok (.iinc 4 1, 3) := by decide +kernel
theorem d28_613 : decode jdk_42_method_38_code 613 = .ok (.ldc 132, 2) := by decide +kernel
theorem d28_615 : decode jdk_42_method_38_code 615 = .ok (.invokestatic 64, 3) := by decide +kernel
theorem d28_618 : decode jdk_42_method_38_code 618 = .ok (.goto (-618), 3) := by decide +kernel
theorem d28_621 : decode jdk_42_method_38_code 621 = .ok (.iload 4, 2) := by decide +kernel
theorem d28_623 : decode jdk_42_method_38_code 623 = .ok (.ireturn, 1) := by decide +kernel
theorem pd28 : parseMethodDescriptor "([BII[BIZ)I" = some ⟨[(.array .byte), .int, .int, (.array .byte), .int, .boolean], some .int⟩ := by decide +kernel
theorem pn28 : plainFor (⟨"java/lang/String", "decodeUTF8_UTF16", "([BII[BIZ)I"⟩ : MethodName) = true := by first | (refine plainFor_of_name ?_; simp [plainName, overriddenIn]; done) | (refine plainFor_of_name ?_; decide +kernel) | decide +kernel
abbrev B28 : Bd := ((⟨"java/lang/String", "decodeUTF8_UTF16", "([BII[BIZ)I"⟩ : MethodName), jdk_42_method_38_code, 11, (some .int), ({ frames := 1, cells := 0, slots := 0, locals := 15 } : Room), tables_1)
theorem ef28D (mid : MethodId) (s : Addr) (t : Addr) : entryFrame mid (List.toArray [.ref s, .int (0 : Int32), .int (5 : Int32), .ref t, .int (0 : Int32), .int (1 : Int32)]) 11 = mkF mid 0 #[.val (.ref s), .val (.int (0 : Int32)), .val (.int (5 : Int32)), .val (.ref t), .val (.int (0 : Int32)), .val (.int (1 : Int32)), .unset, .unset, .unset, .unset, .unset] [] := by first | (simp [entryFrame, mkF, argsToLocals, Value.category]; done) | rfl
def Q28D (Z : State) (t : Addr) (y0 : Int32) (y1 : Int32) (yt : Int32) (h0 : Heap) (v : Option Value) (h : Heap) : Prop := v = some (.int 3) ∧ Keep h0 h [t] ∧ Ary Z h t .byte (IL [lo y0, hi y0, lo y1, hi y1, lo yt, hi yt, 0, 0, 0, 0])
set_option maxRecDepth 65536 in
set_option maxHeartbeats 40000000 in
theorem c28D (Z : State) (hw : Wd Z tables_1) (h0 : Heap) (s : Addr) (t : Addr) (y0 : Int32) (y1 : Int32) (yt : Int32) (b0 : Int32) (b1 : Int32) (b2 : Int32) (b3 : Int32) (tb : Int32) (cp : Int32) (g0 : b0 < 0) (g1 : ¬ (b0 &&& (254 : Int32)) = (194 : Int32)) (g2 : ¬ (b0 >>> ((5 : Int32) &&& 31)) = (-2 : Int32)) (g3 : ¬ (b0 >>> ((4 : Int32) &&& 31)) = (-2 : Int32)) (g4 : (b0 >>> ((3 : Int32) &&& 31)) = (-2 : Int32)) (g5 : (b1 &&& (192 : Int32)) = (128 : Int32)) (g6 : (b2 &&& (192 : Int32)) = (128 : Int32)) (g7 : (b3 &&& (192 : Int32)) = (128 : Int32)) (g8 : (((b0 <<< ((18 : Int32) &&& 31)) ^^^ (b1 <<< ((12 : Int32) &&& 31))) ^^^ (b2 <<< ((6 : Int32) &&& 31))) ^^^ (b3 ^^^ (3678080 : Int32)) = cp) (g9 : ¬ cp < (65536 : Int32)) (g10 : cp < (1114112 : Int32)) (g11 : (XT.ushr cp (10 : Int32) + (55232 : Int32)).toUInt32.toUInt16.toUInt32.toInt32 = y0) (g12 : ((cp &&& (1023 : Int32)) + (56320 : Int32)).toUInt32.toUInt16.toUInt32.toInt32 = y1) (ht : ¬ tb < 0) (hyt : tb.toUInt32.toUInt16.toUInt32.toInt32 = yt) (hAs : Sta Z Z.heap "java/lang/StringUTF16" "$assertionsDisabled" "Z" (.int 1)) (hHi : Sta Z Z.heap "java/lang/StringUTF16" "HI_BYTE_SHIFT" "I" (.int 0)) (hLo : Sta Z Z.heap "java/lang/StringUTF16" "LO_BYTE_SHIFT" "I" (.int 8)) (hA : Ary Z h0 s .byte [.int b0, .int b1, .int b2, .int b3, .int tb]) (hB : Ary Z h0 t .byte (IL [0, 0, 0, 0, 0, 0, 0, 0, 0, 0])) (hgt : Z.heap.size ≤ t) (hne : s ≠ t) : Con Z B28 (List.toArray [.ref s, .int (0 : Int32), .int (5 : Int32), .ref t, .int (0 : Int32), .int (1 : Int32)]) h0 (Q28D Z t y0 y1 yt h0) := by
  refine Con.mk hw pn28 (fun mid => ef28D mid s t) (Go.old fun hle' => ?_)
  have hle := hle'.1
  refine Go.iloadN 1 rfl d28_0 rfl ?_
  refine Go.iloadN 2 rfl d28_1 rfl ?_
  refine Go.icmp_ge 621 5 d28_2 (by decide) rfl rfl (fun (b101 : ¬ (0 : Int32) < (5 : Int32)) => ?_) (fun (b101 : (0 : Int32) < (5 : Int32)) => ?_)
  · exact absurd (show (0 : Int32) < (5 : Int32) from (by decide)) b101
  · refine Go.aloadN 6 rfl d28_5 rfl rfl ?_
    refine Go.iloadN 7 rfl d28_6 rfl ?_
    refine Go.iinc 10 rfl (1 : Int32) d28_7 rfl rfl (Ls' := #[.val (.ref s), .val (.int ((0 : Int32) + (1 : Int32))), .val (.int (5 : Int32)), .val (.ref t), .val (.int (0 : Int32)), .val (.int (1 : Int32)), .unset, .unset, .unset, .unset, .unset]) rfl ?_
    refine Go.baload 11 rfl b0 d28_10 hA 0 rfl rfl ?_
    refine Go.istore 13 rfl d28_11 (Ls' := #[.val (.ref s), .val (.int ((0 : Int32) + (1 : Int32))), .val (.int (5 : Int32)), .val (.ref t), .val (.int (0 : Int32)), .val (.int (1 : Int32)), .val (.int b0), .unset, .unset, .unset, .unset]) rfl ?_
    refine Go.iload 15 rfl d28_13 rfl ?_
    refine Go.if_lt 33 18 d28_15 (by decide) rfl rfl (fun (b102 : b0 < 0) => ?_) (fun (b102 : ¬ b0 < 0) => ?_)
    · refine Go.iload 35 rfl d28_33 rfl ?_
      refine Go.iconst 36 rfl (5 : Int32) d28_35 rfl ?_
      refine Go.ishr 37 rfl d28_36 ?_
      refine Go.bipush 39 rfl (-2 : Int32) d28_37 rfl ?_
      refine Go.icmp_ne 143 42 d28_39 (by decide) rfl rfl (fun (b103 : ¬ (b0 >>> ((5 : Int32) &&& 31)) = (-2 : Int32)) => ?_) (fun (b103 : (b0 >>> ((5 : Int32) &&& 31)) = (-2 : Int32)) => ?_)
      · refine Go.iload 145 rfl d28_143 rfl ?_
        refine Go.iconst 146 rfl (4 : Int32) d28_145 rfl ?_
        refine Go.ishr 147 rfl d28_146 ?_
        refine Go.bipush 149 rfl (-2 : Int32) d28_147 rfl ?_
        refine Go.icmp_ne 349 152 d28_149 (by decide) rfl rfl (fun (b104 : ¬ (b0 >>> ((4 : Int32) &&& 31)) = (-2 : Int32)) => ?_) (fun (b104 : (b0 >>> ((4 : Int32) &&& 31)) = (-2 : Int32)) => ?_)
        · refine Go.iload 351 rfl d28_349 rfl ?_
          refine Go.iconst 352 rfl (3 : Int32) d28_351 rfl ?_
          refine Go.ishr 353 rfl d28_352 ?_
          refine Go.bipush 355 rfl (-2 : Int32) d28_353 rfl ?_
          refine Go.icmp_ne 595 358 d28_355 (by decide) rfl rfl (fun (b105 : ¬ (b0 >>> ((3 : Int32) &&& 31)) = (-2 : Int32)) => ?_) (fun (b105 : (b0 >>> ((3 : Int32) &&& 31)) = (-2 : Int32)) => ?_)
          · exact absurd (show (b0 >>> ((3 : Int32) &&& 31)) = (-2 : Int32) from g4) b105
          · refine Go.iloadN 359 rfl d28_358 rfl ?_
            refine Go.iconst 360 rfl (2 : Int32) d28_359 rfl ?_
            refine Go.iadd 361 rfl d28_360 ?_
            refine Go.iloadN 362 rfl d28_361 rfl ?_
            refine Go.icmp_ge 490 365 d28_362 (by decide) rfl rfl (fun (b106 : ¬ (((0 : Int32) + (1 : Int32)) + (2 : Int32)) < (5 : Int32)) => ?_) (fun (b106 : (((0 : Int32) + (1 : Int32)) + (2 : Int32)) < (5 : Int32)) => ?_)
            · exact absurd (show (((0 : Int32) + (1 : Int32)) + (2 : Int32)) < (5 : Int32) from (by decide)) b106
            · refine Go.aloadN 366 rfl d28_365 rfl rfl ?_
              refine Go.iloadN 367 rfl d28_366 rfl ?_
              refine Go.iinc 370 rfl (1 : Int32) d28_367 rfl rfl (Ls' := #[.val (.ref s), .val (.int (((0 : Int32) + (1 : Int32)) + (1 : Int32))), .val (.int (5 : Int32)), .val (.ref t), .val (.int (0 : Int32)), .val (.int (1 : Int32)), .val (.int b0), .unset, .unset, .unset, .unset]) rfl ?_
              refine Go.baload 371 rfl b1 d28_370 hA 1 rfl rfl ?_
              refine Go.istore 373 rfl d28_371 (Ls' := #[.val (.ref s), .val (.int (((0 : Int32) + (1 : Int32)) + (1 : Int32))), .val (.int (5 : Int32)), .val (.ref t), .val (.int (0 : Int32)), .val (.int (1 : Int32)), .val (.int b0), .val (.int b1), .unset, .unset, .unset]) rfl ?_
              refine Go.aloadN 374 rfl d28_373 rfl rfl ?_
              refine Go.iloadN 375 rfl d28_374 rfl ?_
              refine Go.iinc 378 rfl (1 : Int32) d28_375 rfl rfl (Ls' := #[.val (.ref s), .val (.int ((((0 : Int32) + (1 : Int32)) + (1 : Int32)) + (1 : Int32))), .val (.int (5 : Int32)), .val (.ref t), .val (.int (0 : Int32)), .val (.int (1 : Int32)), .val (.int b0), .val (.int b1), .unset, .unset, .unset]) rfl ?_
              refine Go.baload 379 rfl b2 d28_378 hA 2 rfl rfl ?_
              refine Go.istore 381 rfl d28_379 (Ls' := #[.val (.ref s), .val (.int ((((0 : Int32) + (1 : Int32)) + (1 : Int32)) + (1 : Int32))), .val (.int (5 : Int32)), .val (.ref t), .val (.int (0 : Int32)), .val (.int (1 : Int32)), .val (.int b0), .val (.int b1), .val (.int b2), .unset, .unset]) rfl ?_
              refine Go.aloadN 382 rfl d28_381 rfl rfl ?_
              refine Go.iloadN 383 rfl d28_382 rfl ?_
              refine Go.iinc 386 rfl (1 : Int32) d28_383 rfl rfl (Ls' := #[.val (.ref s), .val (.int (((((0 : Int32) + (1 : Int32)) + (1 : Int32)) + (1 : Int32)) + (1 : Int32))), .val (.int (5 : Int32)), .val (.ref t), .val (.int (0 : Int32)), .val (.int (1 : Int32)), .val (.int b0), .val (.int b1), .val (.int b2), .unset, .unset]) rfl ?_
              refine Go.baload 387 rfl b3 d28_386 hA 3 rfl rfl ?_
              refine Go.istore 389 rfl d28_387 (Ls' := #[.val (.ref s), .val (.int (((((0 : Int32) + (1 : Int32)) + (1 : Int32)) + (1 : Int32)) + (1 : Int32))), .val (.int (5 : Int32)), .val (.ref t), .val (.int (0 : Int32)), .val (.int (1 : Int32)), .val (.int b0), .val (.int b1), .val (.int b2), .val (.int b3), .unset]) rfl ?_
              refine Go.iload 391 rfl d28_389 rfl ?_
              refine Go.iload 393 rfl d28_391 rfl ?_
              refine Go.iload 395 rfl d28_393 rfl ?_
              refine Go.iload 397 rfl d28_395 rfl ?_
              refine Go.callS 400 rfl (C := B29) [.int b0, .int b1, .int b2, .int b3] (rest := []) 144 145 5 146 (c29 Z hw h0 b0 b1 b2 b3 cp g8) d28_397 rfl rfl rfl rfl (by decide) pd29 rfl rfl rfl (W := 0) (Nat.le_of_ble_eq_true rfl) (by decide) (by decide) (by decide) (by decide) fun v107 h108 q109 => ?_
              obtain ⟨rfl, rfl⟩ := q109
              refine Go.istore 402 rfl d28_400 (Ls' := #[.val (.ref s), .val (.int (((((0 : Int32) + (1 : Int32)) + (1 : Int32)) + (1 : Int32)) + (1 : Int32))), .val (.int (5 : Int32)), .val (.ref t), .val (.int (0 : Int32)), .val (.int (1 : Int32)), .val (.int b0), .val (.int b1), .val (.int b2), .val (.int b3), .val (.int cp)]) rfl ?_
              refine Go.iload 404 rfl d28_402 rfl ?_
              refine Go.iload 406 rfl d28_404 rfl ?_
              refine Go.iload 408 rfl d28_406 rfl ?_
              refine Go.callS 411 rfl (C := B30) [.int b1, .int b2, .int b3] (rest := []) 148 149 5 150 (c30 Z hw h0 b1 b2 b3 g5 g6 g7) d28_408 rfl rfl rfl rfl (by decide) pd30 rfl rfl rfl (W := 0) (Nat.le_of_ble_eq_true rfl) (by decide) (by decide) (by decide) (by decide) fun v110 h111 q112 => ?_
              obtain ⟨rfl, rfl⟩ := q112
              refine Go.if_ne 422 414 d28_411 (by decide) rfl rfl (fun (b113 : ¬ (0 : Int32) = 0) => ?_) (fun (b113 : (0 : Int32) = 0) => ?_)
              · exact absurd (show (0 : Int32) = 0 from (by decide)) b113
              · refine Go.iload 416 rfl d28_414 rfl ?_
                refine Go.callS 419 rfl (C := B31) [.int cp] (rest := []) 151 152 153 154 (c31 Z hw h0 cp g9 g10) d28_416 rfl rfl rfl rfl (by decide) pd31 rfl rfl rfl (W := 0) (Nat.le_of_ble_eq_true rfl) (by decide) (by decide) (by decide) (by decide) fun v114 h115 q116 => ?_
                obtain ⟨rfl, rfl⟩ := q116
                refine Go.if_ne 459 422 d28_419 (by decide) rfl rfl (fun (b117 : ¬ (1 : Int32) = 0) => ?_) (fun (b117 : (1 : Int32) = 0) => ?_)
                · refine Go.aloadN 460 rfl d28_459 rfl rfl ?_
                  refine Go.iload 462 rfl d28_460 rfl ?_
                  refine Go.iinc 465 rfl (1 : Int32) d28_462 rfl rfl (Ls' := #[.val (.ref s), .val (.int (((((0 : Int32) + (1 : Int32)) + (1 : Int32)) + (1 : Int32)) + (1 : Int32))), .val (.int (5 : Int32)), .val (.ref t), .val (.int ((0 : Int32) + (1 : Int32))), .val (.int (1 : Int32)), .val (.int b0), .val (.int b1), .val (.int b2), .val (.int b3), .val (.int cp)]) rfl ?_
                  refine Go.iload 467 rfl d28_465 rfl ?_
                  refine Go.callS 470 rfl (C := B32) [.int cp] (rest := [.int (0 : Int32), .ref t]) 157 158 153 159 (c32 Z hw h0 cp y0 g11) d28_467 rfl rfl rfl rfl (by decide) pd32 rfl rfl rfl (W := 2) (Nat.le_of_ble_eq_true rfl) (by decide) (by decide) (by decide) (by decide) fun v118 h119 q120 => ?_
                  obtain ⟨rfl, rfl⟩ := q120
                  refine Go.callS 473 rfl (C := B20) [.ref t, .int (0 : Int32), .int y0] (rest := []) 139 106 19 107 (c20 Z hw h0 t (0 : Int32) y0 [0, 0, 0, 0, 0, 0, 0, 0, 0, 0] 0 rfl (by decide) hAs hHi hLo hgt (Nat.le_of_ble_eq_true rfl) hB) d28_470 rfl rfl rfl rfl (by decide) pd20 rfl rfl rfl (W := 0) (Nat.le_of_ble_eq_true rfl) (by decide) (by decide) (by decide) (by decide) fun v121 h122 q123 => ?_
                  obtain ⟨rfl, K124, A125⟩ := q123
                  have A126 : Ary Z h122 t .byte (IL [lo y0, hi y0, 0, 0, 0, 0, 0, 0, 0, 0]) := A125
                  refine Go.aloadN 474 rfl d28_473 rfl rfl ?_
                  refine Go.iload 476 rfl d28_474 rfl ?_
                  refine Go.iinc 479 rfl (1 : Int32) d28_476 rfl rfl (Ls' := #[.val (.ref s), .val (.int (((((0 : Int32) + (1 : Int32)) + (1 : Int32)) + (1 : Int32)) + (1 : Int32))), .val (.int (5 : Int32)), .val (.ref t), .val (.int (((0 : Int32) + (1 : Int32)) + (1 : Int32))), .val (.int (1 : Int32)), .val (.int b0), .val (.int b1), .val (.int b2), .val (.int b3), .val (.int cp)]) rfl ?_
                  refine Go.iload 481 rfl d28_479 rfl ?_
                  refine Go.callS 484 rfl (C := B33) [.int cp] (rest := [.int ((0 : Int32) + (1 : Int32)), .ref t]) 161 162 153 163 (c33 Z hw h122 cp y1 g12) d28_481 rfl rfl rfl rfl (by decide) pd33 rfl rfl rfl (W := 2) (Nat.le_of_ble_eq_true rfl) (by decide) (by decide) (by decide) (by decide) fun v127 h128 q129 => ?_
                  obtain ⟨rfl, rfl⟩ := q129
                  refine Go.callS 487 rfl (C := B20) [.ref t, .int ((0 : Int32) + (1 : Int32)), .int y1] (rest := []) 139 106 19 107 (c20 Z hw h122 t ((0 : Int32) + (1 : Int32)) y1 [lo y0, hi y0, 0, 0, 0, 0, 0, 0, 0, 0] 1 rfl (by decide) hAs hHi hLo hgt (Nat.le_of_ble_eq_true rfl) A126) d28_484 rfl rfl rfl rfl (by decide) pd20 rfl rfl rfl (W := 0) (Nat.le_of_ble_eq_true rfl) (by decide) (by decide) (by decide) (by decide) fun v130 h131 q132 => ?_
                  obtain ⟨rfl, K133, A134⟩ := q132
                  have A135 : Ary Z h131 t .byte (IL [lo y0, hi y0, lo y1, hi y1, 0, 0, 0, 0, 0, 0]) := A134
                  refine Go.goto 0 d28_487 (by decide) (by decide) ?_
                  refine Go.iloadN 1 rfl d28_0 rfl ?_
                  refine Go.iloadN 2 rfl d28_1 rfl ?_
                  refine Go.icmp_ge 621 5 d28_2 (by decide) rfl rfl (fun (b136 : ¬ (((((0 : Int32) + (1 : Int32)) + (1 : Int32)) + (1 : Int32)) + (1 : Int32)) < (5 : Int32)) => ?_) (fun (b136 : (((((0 : Int32) + (1 : Int32)) + (1 : Int32)) + (1 : Int32)) + (1 : Int32)) < (5 : Int32)) => ?_)
                  · exact absurd (show (((((0 : Int32) + (1 : Int32)) + (1 : Int32)) + (1 : Int32)) + (1 : Int32)) < (5 : Int32) from (by decide)) b136
                  · refine Go.aloadN 6 rfl d28_5 rfl rfl ?_
                    refine Go.iloadN 7 rfl d28_6 rfl ?_
                    refine Go.iinc 10 rfl (1 : Int32) d28_7 rfl rfl (Ls' := #[.val (.ref s), .val (.int ((((((0 : Int32) + (1 : Int32)) + (1 : Int32)) + (1 : Int32)) + (1 : Int32)) + (1 : Int32))), .val (.int (5 : Int32)), .val (.ref t), .val (.int (((0 : Int32) + (1 : Int32)) + (1 : Int32))), .val (.int (1 : Int32)), .val (.int b0), .val (.int b1), .val (.int b2), .val (.int b3), .val (.int cp)]) rfl ?_
                    have F137 : Ary Z h131 s .byte [.int b0, .int b1, .int b2, .int b3, .int tb] := ((hA.keep K124 (ninS hne nin0)).keep K133 (ninS hne nin0))
                    refine Go.baload 11 rfl tb d28_10 F137 4 rfl rfl ?_
                    refine Go.istore 13 rfl d28_11 (Ls' := #[.val (.ref s), .val (.int ((((((0 : Int32) + (1 : Int32)) + (1 : Int32)) + (1 : Int32)) + (1 : Int32)) + (1 : Int32))), .val (.int (5 : Int32)), .val (.ref t), .val (.int (((0 : Int32) + (1 : Int32)) + (1 : Int32))), .val (.int (1 : Int32)), .val (.int tb), .val (.int b1), .val (.int b2), .val (.int b3), .val (.int cp)]) rfl ?_
                    refine Go.iload 15 rfl d28_13 rfl ?_
                    refine Go.if_lt 33 18 d28_15 (by decide) rfl rfl (fun (b138 : tb < 0) => ?_) (fun (b138 : ¬ tb < 0) => ?_)
                    · exact absurd b138 (show ¬ tb < 0 from ht)
                    · refine Go.aloadN 19 rfl d28_18 rfl rfl ?_
                      refine Go.iload 21 rfl d28_19 rfl ?_
                      refine Go.iinc 24 rfl (1 : Int32) d28_21 rfl rfl (Ls' := #[.val (.ref s), .val (.int ((((((0 : Int32) + (1 : Int32)) + (1 : Int32)) + (1 : Int32)) + (1 : Int32)) + (1 : Int32))), .val (.int (5 : Int32)), .val (.ref t), .val (.int ((((0 : Int32) + (1 : Int32)) + (1 : Int32)) + (1 : Int32))), .val (.int (1 : Int32)), .val (.int tb), .val (.int b1), .val (.int b2), .val (.int b3), .val (.int cp)]) rfl ?_
                      refine Go.iload 26 rfl d28_24 rfl ?_
                      refine Go.i2c 27 rfl d28_26 ?_
                      refine Go.eqI (w := yt) hyt ?_
                      refine Go.callS 30 rfl (C := B20) [.ref t, .int (((0 : Int32) + (1 : Int32)) + (1 : Int32)), .int yt] (rest := []) 139 106 19 107 (c20 Z hw h131 t (((0 : Int32) + (1 : Int32)) + (1 : Int32)) yt [lo y0, hi y0, lo y1, hi y1, 0, 0, 0, 0, 0, 0] 2 rfl (by decide) hAs hHi hLo hgt (Nat.le_of_ble_eq_true rfl) A135) d28_27 rfl rfl rfl rfl (by decide) pd20 rfl rfl rfl (W := 0) (Nat.le_of_ble_eq_true rfl) (by decide) (by decide) (by decide) (by decide) fun v139 h140 q141 => ?_
                      obtain ⟨rfl, K142, A143⟩ := q141
                      have A144 : Ary Z h140 t .byte (IL [lo y0, hi y0, lo y1, hi y1, lo yt, hi yt, 0, 0, 0, 0]) := A143
                      refine Go.goto 618 d28_30 (by decide) (by decide) ?_
                      refine Go.goto 0 d28_618 (by decide) (by decide) ?_
                      refine Go.iloadN 1 rfl d28_0 rfl ?_
                      refine Go.iloadN 2 rfl d28_1 rfl ?_
                      refine Go.icmp_ge 621 5 d28_2 (by decide) rfl rfl (fun (b145 : ¬ ((((((0 : Int32) + (1 : Int32)) + (1 : Int32)) + (1 : Int32)) + (1 : Int32)) + (1 : Int32)) < (5 : Int32)) => ?_) (fun (b145 : ((((((0 : Int32) + (1 : Int32)) + (1 : Int32)) + (1 : Int32)) + (1 : Int32)) + (1 : Int32)) < (5 : Int32)) => ?_)
                      · refine Go.iload 623 rfl d28_621 rfl ?_
                        refine Go.eqI (w := 3) (by decide) ?_
                        have kc146 : Keep h0 h140 [t] := ((((Keep.refl h0 [t]).trans K124 (by simp)).trans K133 (by simp)).trans K142 (by simp))
                        exact Go.retI d28_623 rfl (by decide) (by decide) ⟨rfl, kc146, A144⟩
                      · exact absurd b145 (show ¬ ((((((0 : Int32) + (1 : Int32)) + (1 : Int32)) + (1 : Int32)) + (1 : Int32)) + (1 : Int32)) < (5 : Int32) from (by decide))
                · exact absurd b117 (show ¬ (1 : Int32) = 0 from (by decide))
        · exact absurd b104 (show ¬ (b0 >>> ((4 : Int32) &&& 31)) = (-2 : Int32) from g3)
      · exact absurd b103 (show ¬ (b0 >>> ((5 : Int32) &&& 31)) = (-2 : Int32) from g2)
    · exact absurd (show b0 < 0 from g0) b102
theorem ef28C (mid : MethodId) (s : Addr) (t : Addr) : entryFrame mid (List.toArray [.ref s, .int (0 : Int32), .int (4 : Int32), .ref t, .int (0 : Int32), .int (1 : Int32)]) 11 = mkF mid 0 #[.val (.ref s), .val (.int (0 : Int32)), .val (.int (4 : Int32)), .val (.ref t), .val (.int (0 : Int32)), .val (.int (1 : Int32)), .unset, .unset, .unset, .unset, .unset] [] := by first | (simp [entryFrame, mkF, argsToLocals, Value.category]; done) | rfl
def Q28C (Z : State) (t : Addr) (y0 : Int32) (yt : Int32) (h0 : Heap) (v : Option Value) (h : Heap) : Prop := v = some (.int 2) ∧ Keep h0 h [t] ∧ Ary Z h t .byte (IL [lo y0, hi y0, lo yt, hi yt, 0, 0, 0, 0])
set_option maxRecDepth 65536 in
set_option maxHeartbeats 40000000 in
theorem c28C (Z : State) (hw : Wd Z tables_1) (h0 : Heap) (s : Addr) (t : Addr) (y0 : Int32) (yt : Int32) (b0 : Int32) (b1 : Int32) (b2 : Int32) (tb : Int32) (g0 : b0 < 0) (g1 : ¬ (b0 &&& (254 : Int32)) = (194 : Int32)) (g2 : ¬ (b0 >>> ((5 : Int32) &&& 31)) = (-2 : Int32)) (g3 : (b0 >>> ((4 : Int32) &&& 31)) = (-2 : Int32)) (g4 : b0 = (-32 : Int32) → ¬ (b1 &&& (224 : Int32)) = (128 : Int32)) (g5 : (b1 &&& (192 : Int32)) = (128 : Int32)) (g6 : (b2 &&& (192 : Int32)) = (128 : Int32)) (g7 : (((b0 <<< ((12 : Int32) &&& 31)) ^^^ (b1 <<< ((6 : Int32) &&& 31))) ^^^ (b2 ^^^ (-123008 : Int32))).toUInt32.toUInt16.toUInt32.toInt32 = y0) (g8 : y0 < (55296 : Int32) ∨ ¬ y0 < (57344 : Int32)) (ht : ¬ tb < 0) (hyt : tb.toUInt32.toUInt16.toUInt32.toInt32 = yt) (hAs : Sta Z Z.heap "java/lang/StringUTF16" "$assertionsDisabled" "Z" (.int 1)) (hHi : Sta Z Z.heap "java/lang/StringUTF16" "HI_BYTE_SHIFT" "I" (.int 0)) (hLo : Sta Z Z.heap "java/lang/StringUTF16" "LO_BYTE_SHIFT" "I" (.int 8)) (hA : Ary Z h0 s .byte [.int b0, .int b1, .int b2, .int tb]) (hB : Ary Z h0 t .byte (IL [0, 0, 0, 0, 0, 0, 0, 0])) (hgt : Z.heap.size ≤ t) (hne : s ≠ t) : Con Z B28 (List.toArray [.ref s, .int (0 : Int32), .int (4 : Int32), .ref t, .int (0 : Int32), .int (1 : Int32)]) h0 (Q28C Z t y0 yt h0) := by
  refine Con.mk hw pn28 (fun mid => ef28C mid s t) (Go.old fun hle' => ?_)
  have hle := hle'.1
  refine Go.iloadN 1 rfl d28_0 rfl ?_
  refine Go.iloadN 2 rfl d28_1 rfl ?_
  refine Go.icmp_ge 621 5 d28_2 (by decide) rfl rfl (fun (b101 : ¬ (0 : Int32) < (4 : Int32)) => ?_) (fun (b101 : (0 : Int32) < (4 : Int32)) => ?_)
  · exact absurd (show (0 : Int32) < (4 : Int32) from (by decide)) b101
  · refine Go.aloadN 6 rfl d28_5 rfl rfl ?_
    refine Go.iloadN 7 rfl d28_6 rfl ?_
    refine Go.iinc 10 rfl (1 : Int32) d28_7 rfl rfl (Ls' := #[.val (.ref s), .val (.int ((0 : Int32) + (1 : Int32))), .val (.int (4 : Int32)), .val (.ref t), .val (.int (0 : Int32)), .val (.int (1 : Int32)), .unset, .unset, .unset, .unset, .unset]) rfl ?_
    refine Go.baload 11 rfl b0 d28_10 hA 0 rfl rfl ?_
    refine Go.istore 13 rfl d28_11 (Ls' := #[.val (.ref s), .val (.int ((0 : Int32) + (1 : Int32))), .val (.int (4 : Int32)), .val (.ref t), .val (.int (0 : Int32)), .val (.int (1 : Int32)), .val (.int b0), .unset, .unset, .unset, .unset]) rfl ?_
    refine Go.iload 15 rfl d28_13 rfl ?_
    refine Go.if_lt 33 18 d28_15 (by decide) rfl rfl (fun (b102 : b0 < 0) => ?_) (fun (b102 : ¬ b0 < 0) => ?_)
    · refine Go.iload 35 rfl d28_33 rfl ?_
      refine Go.iconst 36 rfl (5 : Int32) d28_35 rfl ?_
      refine Go.ishr 37 rfl d28_36 ?_
      refine Go.bipush 39 rfl (-2 : Int32) d28_37 rfl ?_
      refine Go.icmp_ne 143 42 d28_39 (by decide) rfl rfl (fun (b103 : ¬ (b0 >>> ((5 : Int32) &&& 31)) = (-2 : Int32)) => ?_) (fun (b103 : (b0 >>> ((5 : Int32) &&& 31)) = (-2 : Int32)) => ?_)
      · refine Go.iload 145 rfl d28_143 rfl ?_
        refine Go.iconst 146 rfl (4 : Int32) d28_145 rfl ?_
        refine Go.ishr 147 rfl d28_146 ?_
        refine Go.bipush 149 rfl (-2 : Int32) d28_147 rfl ?_
        refine Go.icmp_ne 349 152 d28_149 (by decide) rfl rfl (fun (b104 : ¬ (b0 >>> ((4 : Int32) &&& 31)) = (-2 : Int32)) => ?_) (fun (b104 : (b0 >>> ((4 : Int32) &&& 31)) = (-2 : Int32)) => ?_)
        · exact absurd (show (b0 >>> ((4 : Int32) &&& 31)) = (-2 : Int32) from g3) b104
        · refine Go.iloadN 153 rfl d28_152 rfl ?_
          refine Go.iconst 154 rfl (1 : Int32) d28_153 rfl ?_
          refine Go.iadd 155 rfl d28_154 ?_
          refine Go.iloadN 156 rfl d28_155 rfl ?_
          refine Go.icmp_ge 283 159 d28_156 (by decide) rfl rfl (fun (b105 : ¬ (((0 : Int32) + (1 : Int32)) + (1 : Int32)) < (4 : Int32)) => ?_) (fun (b105 : (((0 : Int32) + (1 : Int32)) + (1 : Int32)) < (4 : Int32)) => ?_)
          · exact absurd (show (((0 : Int32) + (1 : Int32)) + (1 : Int32)) < (4 : Int32) from (by decide)) b105
          · refine Go.aloadN 160 rfl d28_159 rfl rfl ?_
            refine Go.iloadN 161 rfl d28_160 rfl ?_
            refine Go.iinc 164 rfl (1 : Int32) d28_161 rfl rfl (Ls' := #[.val (.ref s), .val (.int (((0 : Int32) + (1 : Int32)) + (1 : Int32))), .val (.int (4 : Int32)), .val (.ref t), .val (.int (0 : Int32)), .val (.int (1 : Int32)), .val (.int b0), .unset, .unset, .unset, .unset]) rfl ?_
            refine Go.baload 165 rfl b1 d28_164 hA 1 rfl rfl ?_
            refine Go.istore 167 rfl d28_165 (Ls' := #[.val (.ref s), .val (.int (((0 : Int32) + (1 : Int32)) + (1 : Int32))), .val (.int (4 : Int32)), .val (.ref t), .val (.int (0 : Int32)), .val (.int (1 : Int32)), .val (.int b0), .val (.int b1), .unset, .unset, .unset]) rfl ?_
            refine Go.aloadN 168 rfl d28_167 rfl rfl ?_
            refine Go.iloadN 169 rfl d28_168 rfl ?_
            refine Go.iinc 172 rfl (1 : Int32) d28_169 rfl rfl (Ls' := #[.val (.ref s), .val (.int ((((0 : Int32) + (1 : Int32)) + (1 : Int32)) + (1 : Int32))), .val (.int (4 : Int32)), .val (.ref t), .val (.int (0 : Int32)), .val (.int (1 : Int32)), .val (.int b0), .val (.int b1), .unset, .unset, .unset]) rfl ?_
            refine Go.baload 173 rfl b2 d28_172 hA 2 rfl rfl ?_
            refine Go.istore 175 rfl d28_173 (Ls' := #[.val (.ref s), .val (.int ((((0 : Int32) + (1 : Int32)) + (1 : Int32)) + (1 : Int32))), .val (.int (4 : Int32)), .val (.ref t), .val (.int (0 : Int32)), .val (.int (1 : Int32)), .val (.int b0), .val (.int b1), .val (.int b2), .unset, .unset]) rfl ?_
            refine Go.iload 177 rfl d28_175 rfl ?_
            refine Go.iload 179 rfl d28_177 rfl ?_
            refine Go.iload 181 rfl d28_179 rfl ?_
            refine Go.callS 184 rfl (C := B35) [.int b0, .int b1, .int b2] (rest := []) 170 171 5 172 (c35 Z hw h0 b0 b1 b2 g4 g5 g6) d28_181 rfl rfl rfl rfl (by decide) pd35 rfl rfl rfl (W := 0) (Nat.le_of_ble_eq_true rfl) (by decide) (by decide) (by decide) (by decide) fun v106 h107 q108 => ?_
            obtain ⟨rfl, rfl⟩ := q108
            refine Go.if_eq 224 187 d28_184 (by decide) rfl rfl (fun (b109 : (0 : Int32) = 0) => ?_) (fun (b109 : ¬ (0 : Int32) = 0) => ?_)
            · refine Go.iload 226 rfl d28_224 rfl ?_
              refine Go.iload 228 rfl d28_226 rfl ?_
              refine Go.iload 230 rfl d28_228 rfl ?_
              refine Go.callS 233 rfl (C := B36) [.int b0, .int b1, .int b2] (rest := []) 173 174 5 175 (c36 Z hw h0 b0 b1 b2 y0 g7) d28_230 rfl rfl rfl rfl (by decide) pd36 rfl rfl rfl (W := 0) (Nat.le_of_ble_eq_true rfl) (by decide) (by decide) (by decide) (by decide) fun v110 h111 q112 => ?_
              obtain ⟨rfl, rfl⟩ := q112
              refine Go.istore 235 rfl d28_233 (Ls' := #[.val (.ref s), .val (.int ((((0 : Int32) + (1 : Int32)) + (1 : Int32)) + (1 : Int32))), .val (.int (4 : Int32)), .val (.ref t), .val (.int (0 : Int32)), .val (.int (1 : Int32)), .val (.int b0), .val (.int b1), .val (.int b2), .val (.int y0), .unset]) rfl ?_
              refine Go.iload 237 rfl d28_235 rfl ?_
              refine Go.callS 240 rfl (C := B37) [.int y0] (rest := []) 177 178 153 179 (c37 Z hw h0 y0 g8) d28_237 rfl rfl rfl rfl (by decide) pd37 rfl rfl rfl (W := 0) (Nat.le_of_ble_eq_true rfl) (by decide) (by decide) (by decide) (by decide) fun v113 h114 q115 => ?_
              obtain ⟨rfl, rfl⟩ := q115
              refine Go.if_eq 269 243 d28_240 (by decide) rfl rfl (fun (b116 : (0 : Int32) = 0) => ?_) (fun (b116 : ¬ (0 : Int32) = 0) => ?_)
              · refine Go.aloadN 270 rfl d28_269 rfl rfl ?_
                refine Go.iload 272 rfl d28_270 rfl ?_
                refine Go.iinc 275 rfl (1 : Int32) d28_272 rfl rfl (Ls' := #[.val (.ref s), .val (.int ((((0 : Int32) + (1 : Int32)) + (1 : Int32)) + (1 : Int32))), .val (.int (4 : Int32)), .val (.ref t), .val (.int ((0 : Int32) + (1 : Int32))), .val (.int (1 : Int32)), .val (.int b0), .val (.int b1), .val (.int b2), .val (.int y0), .unset]) rfl ?_
                refine Go.iload 277 rfl d28_275 rfl ?_
                refine Go.callS 280 rfl (C := B20) [.ref t, .int (0 : Int32), .int y0] (rest := []) 139 106 19 107 (c20 Z hw h0 t (0 : Int32) y0 [0, 0, 0, 0, 0, 0, 0, 0] 0 rfl (by decide) hAs hHi hLo hgt (Nat.le_of_ble_eq_true rfl) hB) d28_277 rfl rfl rfl rfl (by decide) pd20 rfl rfl rfl (W := 0) (Nat.le_of_ble_eq_true rfl) (by decide) (by decide) (by decide) (by decide) fun v117 h118 q119 => ?_
                obtain ⟨rfl, K120, A121⟩ := q119
                have A122 : Ary Z h118 t .byte (IL [lo y0, hi y0, 0, 0, 0, 0, 0, 0]) := A121
                refine Go.goto 0 d28_280 (by decide) (by decide) ?_
                refine Go.iloadN 1 rfl d28_0 rfl ?_
                refine Go.iloadN 2 rfl d28_1 rfl ?_
                refine Go.icmp_ge 621 5 d28_2 (by decide) rfl rfl (fun (b123 : ¬ ((((0 : Int32) + (1 : Int32)) + (1 : Int32)) + (1 : Int32)) < (4 : Int32)) => ?_) (fun (b123 : ((((0 : Int32) + (1 : Int32)) + (1 : Int32)) + (1 : Int32)) < (4 : Int32)) => ?_)
                · exact absurd (show ((((0 : Int32) + (1 : Int32)) + (1 : Int32)) + (1 : Int32)) < (4 : Int32) from (by decide)) b123
                · refine Go.aloadN 6 rfl d28_5 rfl rfl ?_
                  refine Go.iloadN 7 rfl d28_6 rfl ?_
                  refine Go.iinc 10 rfl (1 : Int32) d28_7 rfl rfl (Ls' := #[.val (.ref s), .val (.int (((((0 : Int32) + (1 : Int32)) + (1 : Int32)) + (1 : Int32)) + (1 : Int32))), .val (.int (4 : Int32)), .val (.ref t), .val (.int ((0 : Int32) + (1 : Int32))), .val (.int (1 : Int32)), .val (.int b0), .val (.int b1), .val (.int b2), .val (.int y0), .unset]) rfl ?_
                  have F124 : Ary Z h118 s .byte [.int b0, .int b1, .int b2, .int tb] := (hA.keep K120 (ninS hne nin0))
                  refine Go.baload 11 rfl tb d28_10 F124 3 rfl rfl ?_
                  refine Go.istore 13 rfl d28_11 (Ls' := #[.val (.ref s), .val (.int (((((0 : Int32) + (1 : Int32)) + (1 : Int32)) + (1 : Int32)) + (1 : Int32))), .val (.int (4 : Int32)), .val (.ref t), .val (.int ((0 : Int32) + (1 : Int32))), .val (.int (1 : Int32)), .val (.int tb), .val (.int b1), .val (.int b2), .val (.int y0), .unset]) rfl ?_
                  refine Go.iload 15 rfl d28_13 rfl ?_
                  refine Go.if_lt 33 18 d28_15 (by decide) rfl rfl (fun (b125 : tb < 0) => ?_) (fun (b125 : ¬ tb < 0) => ?_)
                  · exact absurd b125 (show ¬ tb < 0 from ht)
                  · refine Go.aloadN 19 rfl d28_18 rfl rfl ?_
                    refine Go.iload 21 rfl d28_19 rfl ?_
                    refine Go.iinc 24 rfl (1 : Int32) d28_21 rfl rfl (Ls' := #[.val (.ref s), .val (.int (((((0 : Int32) + (1 : Int32)) + (1 : Int32)) + (1 : Int32)) + (1 : Int32))), .val (.int (4 : Int32)), .val (.ref t), .val (.int (((0 : Int32) + (1 : Int32)) + (1 : Int32))), .val (.int (1 : Int32)), .val (.int tb), .val (.int b1), .val (.int b2), .val (.int y0), .unset]) rfl ?_
                    refine Go.iload 26 rfl d28_24 rfl ?_
                    refine Go.i2c 27 rfl d28_26 ?_
                    refine Go.eqI (w := yt) hyt ?_
                    refine Go.callS 30 rfl (C := B20) [.ref t, .int ((0 : Int32) + (1 : Int32)), .int yt] (rest := []) 139 106 19 107 (c20 Z hw h118 t ((0 : Int32) + (1 : Int32)) yt [lo y0, hi y0, 0, 0, 0, 0, 0, 0] 1 rfl (by decide) hAs hHi hLo hgt (Nat.le_of_ble_eq_true rfl) A122) d28_27 rfl rfl rfl rfl (by decide) pd20 rfl rfl rfl (W := 0) (Nat.le_of_ble_eq_true rfl) (by decide) (by decide) (by decide) (by decide) fun v126 h127 q128 => ?_
                    obtain ⟨rfl, K129, A130⟩ := q128
                    have A131 : Ary Z h127 t .byte (IL [lo y0, hi y0, lo yt, hi yt, 0, 0, 0, 0]) := A130
                    refine Go.goto 618 d28_30 (by decide) (by decide) ?_
                    refine Go.goto 0 d28_618 (by decide) (by decide) ?_
                    refine Go.iloadN 1 rfl d28_0 rfl ?_
                    refine Go.iloadN 2 rfl d28_1 rfl ?_
                    refine Go.icmp_ge 621 5 d28_2 (by decide) rfl rfl (fun (b132 : ¬ (((((0 : Int32) + (1 : Int32)) + (1 : Int32)) + (1 : Int32)) + (1 : Int32)) < (4 : Int32)) => ?_) (fun (b132 : (((((0 : Int32) + (1 : Int32)) + (1 : Int32)) + (1 : Int32)) + (1 : Int32)) < (4 : Int32)) => ?_)
                    · refine Go.iload 623 rfl d28_621 rfl ?_
                      refine Go.eqI (w := 2) (by decide) ?_
                      exact Go.retI d28_623 rfl (by decide) (by decide) ⟨rfl, (((Keep.refl h0 [t]).trans K120 (by simp)).trans K129 (by simp)), A131⟩
                    · exact absurd b132 (show ¬ (((((0 : Int32) + (1 : Int32)) + (1 : Int32)) + (1 : Int32)) + (1 : Int32)) < (4 : Int32) from (by decide))
              · exact absurd (show (0 : Int32) = 0 from (by decide)) b116
            · exact absurd (show (0 : Int32) = 0 from (by decide)) b109
      · exact absurd b103 (show ¬ (b0 >>> ((5 : Int32) &&& 31)) = (-2 : Int32) from g2)
    · exact absurd (show b0 < 0 from g0) b102
theorem ef28B (mid : MethodId) (s : Addr) (t : Addr) : entryFrame mid (List.toArray [.ref s, .int (0 : Int32), .int (3 : Int32), .ref t, .int (0 : Int32), .int (1 : Int32)]) 11 = mkF mid 0 #[.val (.ref s), .val (.int (0 : Int32)), .val (.int (3 : Int32)), .val (.ref t), .val (.int (0 : Int32)), .val (.int (1 : Int32)), .unset, .unset, .unset, .unset, .unset] [] := by first | (simp [entryFrame, mkF, argsToLocals, Value.category]; done) | rfl
def Q28B (Z : State) (t : Addr) (y0 : Int32) (yt : Int32) (h0 : Heap) (v : Option Value) (h : Heap) : Prop := v = some (.int 2) ∧ Keep h0 h [t] ∧ Ary Z h t .byte (IL [lo y0, hi y0, lo yt, hi yt, 0, 0])
set_option maxRecDepth 65536 in
set_option maxHeartbeats 40000000 in
theorem c28B (Z : State) (hw : Wd Z tables_1) (h0 : Heap) (s : Addr) (t : Addr) (y0 : Int32) (yt : Int32) (b0 : Int32) (b1 : Int32) (tb : Int32) (g0 : b0 < 0) (g1 : ¬ (b0 &&& (254 : Int32)) = (194 : Int32)) (g2 : (b0 >>> ((5 : Int32) &&& 31)) = (-2 : Int32)) (g3 : ¬ (b0 &&& (30 : Int32)) = 0) (g4 : (b1 &&& (192 : Int32)) = (128 : Int32)) (g5 : ((b0 <<< ((6 : Int32) &&& 31)) ^^^ b1 ^^^ (3968 : Int32)).toUInt32.toUInt16.toUInt32.toInt32 = y0) (ht : ¬ tb < 0) (hyt : tb.toUInt32.toUInt16.toUInt32.toInt32 = yt) (hAs : Sta Z Z.heap "java/lang/StringUTF16" "$assertionsDisabled" "Z" (.int 1)) (hHi : Sta Z Z.heap "java/lang/StringUTF16" "HI_BYTE_SHIFT" "I" (.int 0)) (hLo : Sta Z Z.heap "java/lang/StringUTF16" "LO_BYTE_SHIFT" "I" (.int 8)) (hA : Ary Z h0 s .byte [.int b0, .int b1, .int tb]) (hB : Ary Z h0 t .byte (IL [0, 0, 0, 0, 0, 0])) (hgt : Z.heap.size ≤ t) (hne : s ≠ t) : Con Z B28 (List.toArray [.ref s, .int (0 : Int32), .int (3 : Int32), .ref t, .int (0 : Int32), .int (1 : Int32)]) h0 (Q28B Z t y0 yt h0) := by
  refine Con.mk hw pn28 (fun mid => ef28B mid s t) (Go.old fun hle' => ?_)
  have hle := hle'.1
  refine Go.iloadN 1 rfl d28_0 rfl ?_
  refine Go.iloadN 2 rfl d28_1 rfl ?_
  refine Go.icmp_ge 621 5 d28_2 (by decide) rfl rfl (fun (b101 : ¬ (0 : Int32) < (3 : Int32)) => ?_) (fun (b101 : (0 : Int32) < (3 : Int32)) => ?_)
  · exact absurd (show (0 : Int32) < (3 : Int32) from (by decide)) b101
  · refine Go.aloadN 6 rfl d28_5 rfl rfl ?_
    refine Go.iloadN 7 rfl d28_6 rfl ?_
    refine Go.iinc 10 rfl (1 : Int32) d28_7 rfl rfl (Ls' := #[.val (.ref s), .val (.int ((0 : Int32) + (1 : Int32))), .val (.int (3 : Int32)), .val (.ref t), .val (.int (0 : Int32)), .val (.int (1 : Int32)), .unset, .unset, .unset, .unset, .unset]) rfl ?_
    refine Go.baload 11 rfl b0 d28_10 hA 0 rfl rfl ?_
    refine Go.istore 13 rfl d28_11 (Ls' := #[.val (.ref s), .val (.int ((0 : Int32) + (1 : Int32))), .val (.int (3 : Int32)), .val (.ref t), .val (.int (0 : Int32)), .val (.int (1 : Int32)), .val (.int b0), .unset, .unset, .unset, .unset]) rfl ?_
    refine Go.iload 15 rfl d28_13 rfl ?_
    refine Go.if_lt 33 18 d28_15 (by decide) rfl rfl (fun (b102 : b0 < 0) => ?_) (fun (b102 : ¬ b0 < 0) => ?_)
    · refine Go.iload 35 rfl d28_33 rfl ?_
      refine Go.iconst 36 rfl (5 : Int32) d28_35 rfl ?_
      refine Go.ishr 37 rfl d28_36 ?_
      refine Go.bipush 39 rfl (-2 : Int32) d28_37 rfl ?_
      refine Go.icmp_ne 143 42 d28_39 (by decide) rfl rfl (fun (b103 : ¬ (b0 >>> ((5 : Int32) &&& 31)) = (-2 : Int32)) => ?_) (fun (b103 : (b0 >>> ((5 : Int32) &&& 31)) = (-2 : Int32)) => ?_)
      · exact absurd (show (b0 >>> ((5 : Int32) &&& 31)) = (-2 : Int32) from g2) b103
      · refine Go.iload 44 rfl d28_42 rfl ?_
        refine Go.bipush 46 rfl (30 : Int32) d28_44 rfl ?_
        refine Go.iand 47 rfl d28_46 ?_
        refine Go.if_eq 143 50 d28_47 (by decide) rfl rfl (fun (b104 : (b0 &&& (30 : Int32)) = 0) => ?_) (fun (b104 : ¬ (b0 &&& (30 : Int32)) = 0) => ?_)
        · exact absurd b104 (show ¬ (b0 &&& (30 : Int32)) = 0 from g3)
        · refine Go.iloadN 51 rfl d28_50 rfl ?_
          refine Go.iloadN 52 rfl d28_51 rfl ?_
          refine Go.icmp_ge 119 55 d28_52 (by decide) rfl rfl (fun (b105 : ¬ ((0 : Int32) + (1 : Int32)) < (3 : Int32)) => ?_) (fun (b105 : ((0 : Int32) + (1 : Int32)) < (3 : Int32)) => ?_)
          · exact absurd (show ((0 : Int32) + (1 : Int32)) < (3 : Int32) from (by decide)) b105
          · refine Go.aloadN 56 rfl d28_55 rfl rfl ?_
            refine Go.iloadN 57 rfl d28_56 rfl ?_
            refine Go.iinc 60 rfl (1 : Int32) d28_57 rfl rfl (Ls' := #[.val (.ref s), .val (.int (((0 : Int32) + (1 : Int32)) + (1 : Int32))), .val (.int (3 : Int32)), .val (.ref t), .val (.int (0 : Int32)), .val (.int (1 : Int32)), .val (.int b0), .unset, .unset, .unset, .unset]) rfl ?_
            refine Go.baload 61 rfl b1 d28_60 hA 1 rfl rfl ?_
            refine Go.istore 63 rfl d28_61 (Ls' := #[.val (.ref s), .val (.int (((0 : Int32) + (1 : Int32)) + (1 : Int32))), .val (.int (3 : Int32)), .val (.ref t), .val (.int (0 : Int32)), .val (.int (1 : Int32)), .val (.int b0), .val (.int b1), .unset, .unset, .unset]) rfl ?_
            refine Go.iload 65 rfl d28_63 rfl ?_
            refine Go.callS 68 rfl (C := B34) [.int b1] (rest := []) 165 166 5 167 (c34 Z hw h0 b1 g4) d28_65 rfl rfl rfl rfl (by decide) pd34 rfl rfl rfl (W := 0) (Nat.le_of_ble_eq_true rfl) (by decide) (by decide) (by decide) (by decide) fun v106 h107 q108 => ?_
            obtain ⟨rfl, rfl⟩ := q108
            refine Go.if_eq 100 71 d28_68 (by decide) rfl rfl (fun (b109 : (0 : Int32) = 0) => ?_) (fun (b109 : ¬ (0 : Int32) = 0) => ?_)
            · refine Go.aloadN 101 rfl d28_100 rfl rfl ?_
              refine Go.iload 103 rfl d28_101 rfl ?_
              refine Go.iinc 106 rfl (1 : Int32) d28_103 rfl rfl (Ls' := #[.val (.ref s), .val (.int (((0 : Int32) + (1 : Int32)) + (1 : Int32))), .val (.int (3 : Int32)), .val (.ref t), .val (.int ((0 : Int32) + (1 : Int32))), .val (.int (1 : Int32)), .val (.int b0), .val (.int b1), .unset, .unset, .unset]) rfl ?_
              refine Go.iload 108 rfl d28_106 rfl ?_
              refine Go.iload 110 rfl d28_108 rfl ?_
              refine Go.callS 113 rfl (C := B14) [.int b0, .int b1] (rest := [.int (0 : Int32), .ref t]) 80 81 5 82 (c14 Z hw h0 b0 b1 y0 g5) d28_110 rfl rfl rfl rfl (by decide) pd14 rfl rfl rfl (W := 2) (Nat.le_of_ble_eq_true rfl) (by decide) (by decide) (by decide) (by decide) fun v110 h111 q112 => ?_
              obtain ⟨rfl, rfl⟩ := q112
              refine Go.callS 116 rfl (C := B20) [.ref t, .int (0 : Int32), .int y0] (rest := []) 139 106 19 107 (c20 Z hw h0 t (0 : Int32) y0 [0, 0, 0, 0, 0, 0] 0 rfl (by decide) hAs hHi hLo hgt (Nat.le_of_ble_eq_true rfl) hB) d28_113 rfl rfl rfl rfl (by decide) pd20 rfl rfl rfl (W := 0) (Nat.le_of_ble_eq_true rfl) (by decide) (by decide) (by decide) (by decide) fun v113 h114 q115 => ?_
              obtain ⟨rfl, K116, A117⟩ := q115
              have A118 : Ary Z h114 t .byte (IL [lo y0, hi y0, 0, 0, 0, 0]) := A117
              refine Go.goto 0 d28_116 (by decide) (by decide) ?_
              refine Go.iloadN 1 rfl d28_0 rfl ?_
              refine Go.iloadN 2 rfl d28_1 rfl ?_
              refine Go.icmp_ge 621 5 d28_2 (by decide) rfl rfl (fun (b119 : ¬ (((0 : Int32) + (1 : Int32)) + (1 : Int32)) < (3 : Int32)) => ?_) (fun (b119 : (((0 : Int32) + (1 : Int32)) + (1 : Int32)) < (3 : Int32)) => ?_)
              · exact absurd (show (((0 : Int32) + (1 : Int32)) + (1 : Int32)) < (3 : Int32) from (by decide)) b119
              · refine Go.aloadN 6 rfl d28_5 rfl rfl ?_
                refine Go.iloadN 7 rfl d28_6 rfl ?_
                refine Go.iinc 10 rfl (1 : Int32) d28_7 rfl rfl (Ls' := #[.val (.ref s), .val (.int ((((0 : Int32) + (1 : Int32)) + (1 : Int32)) + (1 : Int32))), .val (.int (3 : Int32)), .val (.ref t), .val (.int ((0 : Int32) + (1 : Int32))), .val (.int (1 : Int32)), .val (.int b0), .val (.int b1), .unset, .unset, .unset]) rfl ?_
                have F120 : Ary Z h114 s .byte [.int b0, .int b1, .int tb] := (hA.keep K116 (ninS hne nin0))
                refine Go.baload 11 rfl tb d28_10 F120 2 rfl rfl ?_
                refine Go.istore 13 rfl d28_11 (Ls' := #[.val (.ref s), .val (.int ((((0 : Int32) + (1 : Int32)) + (1 : Int32)) + (1 : Int32))), .val (.int (3 : Int32)), .val (.ref t), .val (.int ((0 : Int32) + (1 : Int32))), .val (.int (1 : Int32)), .val (.int tb), .val (.int b1), .unset, .unset, .unset]) rfl ?_
                refine Go.iload 15 rfl d28_13 rfl ?_
                refine Go.if_lt 33 18 d28_15 (by decide) rfl rfl (fun (b121 : tb < 0) => ?_) (fun (b121 : ¬ tb < 0) => ?_)
                · exact absurd b121 (show ¬ tb < 0 from ht)
                · refine Go.aloadN 19 rfl d28_18 rfl rfl ?_
                  refine Go.iload 21 rfl d28_19 rfl ?_
                  refine Go.iinc 24 rfl (1 : Int32) d28_21 rfl rfl (Ls' := #[.val (.ref s), .val (.int ((((0 : Int32) + (1 : Int32)) + (1 : Int32)) + (1 : Int32))), .val (.int (3 : Int32)), .val (.ref t), .val (.int (((0 : Int32) + (1 : Int32)) + (1 : Int32))), .val (.int (1 : Int32)), .val (.int tb), .val (.int b1), .unset, .unset, .unset]) rfl ?_
                  refine Go.iload 26 rfl d28_24 rfl ?_
                  refine Go.i2c 27 rfl d28_26 ?_
                  refine Go.eqI (w := yt) hyt ?_
                  refine Go.callS 30 rfl (C := B20) [.ref t, .int ((0 : Int32) + (1 : Int32)), .int yt] (rest := []) 139 106 19 107 (c20 Z hw h114 t ((0 : Int32) + (1 : Int32)) yt [lo y0, hi y0, 0, 0, 0, 0] 1 rfl (by decide) hAs hHi hLo hgt (Nat.le_of_ble_eq_true rfl) A118) d28_27 rfl rfl rfl rfl (by decide) pd20 rfl rfl rfl (W := 0) (Nat.le_of_ble_eq_true rfl) (by decide) (by decide) (by decide) (by decide) fun v122 h123 q124 => ?_
                  obtain ⟨rfl, K125, A126⟩ := q124
                  have A127 : Ary Z h123 t .byte (IL [lo y0, hi y0, lo yt, hi yt, 0, 0]) := A126
                  refine Go.goto 618 d28_30 (by decide) (by decide) ?_
                  refine Go.goto 0 d28_618 (by decide) (by decide) ?_
                  refine Go.iloadN 1 rfl d28_0 rfl ?_
                  refine Go.iloadN 2 rfl d28_1 rfl ?_
                  refine Go.icmp_ge 621 5 d28_2 (by decide) rfl rfl (fun (b128 : ¬ ((((0 : Int32) + (1 : Int32)) + (1 : Int32)) + (1 : Int32)) < (3 : Int32)) => ?_) (fun (b128 : ((((0 : Int32) + (1 : Int32)) + (1 : Int32)) + (1 : Int32)) < (3 : Int32)) => ?_)
                  · refine Go.iload 623 rfl d28_621 rfl ?_
                    refine Go.eqI (w := 2) (by decide) ?_
                    exact Go.retI d28_623 rfl (by decide) (by decide) ⟨rfl, (((Keep.refl h0 [t]).trans K116 (by simp)).trans K125 (by simp)), A127⟩
                  · exact absurd b128 (show ¬ ((((0 : Int32) + (1 : Int32)) + (1 : Int32)) + (1 : Int32)) < (3 : Int32) from (by decide))
            · exact absurd (show (0 : Int32) = 0 from (by decide)) b109
    · exact absurd (show b0 < 0 from g0) b102
theorem ef28E (mid : MethodId) (s : Addr) (t : Addr) : entryFrame mid (List.toArray [.ref s, .int (0 : Int32), .int (2 : Int32), .ref t, .int (0 : Int32), .int (1 : Int32)]) 11 = mkF mid 0 #[.val (.ref s), .val (.int (0 : Int32)), .val (.int (2 : Int32)), .val (.ref t), .val (.int (0 : Int32)), .val (.int (1 : Int32)), .unset, .unset, .unset, .unset, .unset] [] := by first | (simp [entryFrame, mkF, argsToLocals, Value.category]; done) | rfl
def Q28E (Z : State) (t : Addr) (yt : Int32) (h0 : Heap) (v : Option Value) (h : Heap) : Prop := v = some (.int 2) ∧ Keep h0 h [t] ∧ Ary Z h t .byte (IL [lo (65533 : Int32), hi (65533 : Int32), lo yt, hi yt])
set_option maxRecDepth 65536 in
set_option maxHeartbeats 40000000 in
theorem c28E (Z : State) (hw : Wd Z tables_1) (h0 : Heap) (s : Addr) (t : Addr) (yt : Int32) (b0 : Int32) (tb : Int32) (g0 : b0 < 0) (g1 : ¬ (b0 &&& (254 : Int32)) = (194 : Int32)) (g2 : ¬ (b0 >>> ((5 : Int32) &&& 31)) = (-2 : Int32)) (g3 : ¬ (b0 >>> ((4 : Int32) &&& 31)) = (-2 : Int32)) (g4 : ¬ (b0 >>> ((3 : Int32) &&& 31)) = (-2 : Int32)) (ht : ¬ tb < 0) (hyt : tb.toUInt32.toUInt16.toUInt32.toInt32 = yt) (hAs : Sta Z Z.heap "java/lang/StringUTF16" "$assertionsDisabled" "Z" (.int 1)) (hHi : Sta Z Z.heap "java/lang/StringUTF16" "HI_BYTE_SHIFT" "I" (.int 0)) (hLo : Sta Z Z.heap "java/lang/StringUTF16" "LO_BYTE_SHIFT" "I" (.int 8)) (hA : Ary Z h0 s .byte [.int b0, .int tb]) (hB : Ary Z h0 t .byte (IL [0, 0, 0, 0])) (hgt : Z.heap.size ≤ t) (hne : s ≠ t) : Con Z B28 (List.toArray [.ref s, .int (0 : Int32), .int (2 : Int32), .ref t, .int (0 : Int32), .int (1 : Int32)]) h0 (Q28E Z t yt h0) := by
  refine Con.mk hw pn28 (fun mid => ef28E mid s t) (Go.old fun hle' => ?_)
  have hle := hle'.1
  refine Go.iloadN 1 rfl d28_0 rfl ?_
  refine Go.iloadN 2 rfl d28_1 rfl ?_
  refine Go.icmp_ge 621 5 d28_2 (by decide) rfl rfl (fun (b101 : ¬ (0 : Int32) < (2 : Int32)) => ?_) (fun (b101 : (0 : Int32) < (2 : Int32)) => ?_)
  · exact absurd (show (0 : Int32) < (2 : Int32) from (by decide)) b101
  · refine Go.aloadN 6 rfl d28_5 rfl rfl ?_
    refine Go.iloadN 7 rfl d28_6 rfl ?_
    refine Go.iinc 10 rfl (1 : Int32) d28_7 rfl rfl (Ls' := #[.val (.ref s), .val (.int ((0 : Int32) + (1 : Int32))), .val (.int (2 : Int32)), .val (.ref t), .val (.int (0 : Int32)), .val (.int (1 : Int32)), .unset, .unset, .unset, .unset, .unset]) rfl ?_
    refine Go.baload 11 rfl b0 d28_10 hA 0 rfl rfl ?_
    refine Go.istore 13 rfl d28_11 (Ls' := #[.val (.ref s), .val (.int ((0 : Int32) + (1 : Int32))), .val (.int (2 : Int32)), .val (.ref t), .val (.int (0 : Int32)), .val (.int (1 : Int32)), .val (.int b0), .unset, .unset, .unset, .unset]) rfl ?_
    refine Go.iload 15 rfl d28_13 rfl ?_
    refine Go.if_lt 33 18 d28_15 (by decide) rfl rfl (fun (b102 : b0 < 0) => ?_) (fun (b102 : ¬ b0 < 0) => ?_)
    · refine Go.iload 35 rfl d28_33 rfl ?_
      refine Go.iconst 36 rfl (5 : Int32) d28_35 rfl ?_
      refine Go.ishr 37 rfl d28_36 ?_
      refine Go.bipush 39 rfl (-2 : Int32) d28_37 rfl ?_
      refine Go.icmp_ne 143 42 d28_39 (by decide) rfl rfl (fun (b103 : ¬ (b0 >>> ((5 : Int32) &&& 31)) = (-2 : Int32)) => ?_) (fun (b103 : (b0 >>> ((5 : Int32) &&& 31)) = (-2 : Int32)) => ?_)
      · refine Go.iload 145 rfl d28_143 rfl ?_
        refine Go.iconst 146 rfl (4 : Int32) d28_145 rfl ?_
        refine Go.ishr 147 rfl d28_146 ?_
        refine Go.bipush 149 rfl (-2 : Int32) d28_147 rfl ?_
        refine Go.icmp_ne 349 152 d28_149 (by decide) rfl rfl (fun (b104 : ¬ (b0 >>> ((4 : Int32) &&& 31)) = (-2 : Int32)) => ?_) (fun (b104 : (b0 >>> ((4 : Int32) &&& 31)) = (-2 : Int32)) => ?_)
        · refine Go.iload 351 rfl d28_349 rfl ?_
          refine Go.iconst 352 rfl (3 : Int32) d28_351 rfl ?_
          refine Go.ishr 353 rfl d28_352 ?_
          refine Go.bipush 355 rfl (-2 : Int32) d28_353 rfl ?_
          refine Go.icmp_ne 595 358 d28_355 (by decide) rfl rfl (fun (b105 : ¬ (b0 >>> ((3 : Int32) &&& 31)) = (-2 : Int32)) => ?_) (fun (b105 : (b0 >>> ((3 : Int32) &&& 31)) = (-2 : Int32)) => ?_)
          · refine Go.iload 597 rfl d28_595 rfl ?_
            refine Go.if_ne 607 600 d28_597 (by decide) rfl rfl (fun (b106 : ¬ (1 : Int32) = 0) => ?_) (fun (b106 : (1 : Int32) = 0) => ?_)
            · refine Go.aloadN 608 rfl d28_607 rfl rfl ?_
              refine Go.iload 610 rfl d28_608 rfl ?_
              refine Go.iinc 613 rfl (1 : Int32) d28_610 rfl rfl (Ls' := #[.val (.ref s), .val (.int ((0 : Int32) + (1 : Int32))), .val (.int (2 : Int32)), .val (.ref t), .val (.int ((0 : Int32) + (1 : Int32))), .val (.int (1 : Int32)), .val (.int b0), .unset, .unset, .unset, .unset]) rfl ?_
              refine Go.ldcI 615 rfl (v := (65533 : Int32)) 138 d28_613 rfl ?_
              refine Go.callS 618 rfl (C := B20) [.ref t, .int (0 : Int32), .int (65533 : Int32)] (rest := []) 139 106 19 107 (c20 Z hw h0 t (0 : Int32) (65533 : Int32) [0, 0, 0, 0] 0 rfl (by decide) hAs hHi hLo hgt (Nat.le_of_ble_eq_true rfl) hB) d28_615 rfl rfl rfl rfl (by decide) pd20 rfl rfl rfl (W := 0) (Nat.le_of_ble_eq_true rfl) (by decide) (by decide) (by decide) (by decide) fun v107 h108 q109 => ?_
              obtain ⟨rfl, K110, A111⟩ := q109
              have A112 : Ary Z h108 t .byte (IL [lo (65533 : Int32), hi (65533 : Int32), 0, 0]) := A111
              refine Go.goto 0 d28_618 (by decide) (by decide) ?_
              refine Go.iloadN 1 rfl d28_0 rfl ?_
              refine Go.iloadN 2 rfl d28_1 rfl ?_
              refine Go.icmp_ge 621 5 d28_2 (by decide) rfl rfl (fun (b113 : ¬ ((0 : Int32) + (1 : Int32)) < (2 : Int32)) => ?_) (fun (b113 : ((0 : Int32) + (1 : Int32)) < (2 : Int32)) => ?_)
              · exact absurd (show ((0 : Int32) + (1 : Int32)) < (2 : Int32) from (by decide)) b113
              · refine Go.aloadN 6 rfl d28_5 rfl rfl ?_
                refine Go.iloadN 7 rfl d28_6 rfl ?_
                refine Go.iinc 10 rfl (1 : Int32) d28_7 rfl rfl (Ls' := #[.val (.ref s), .val (.int (((0 : Int32) + (1 : Int32)) + (1 : Int32))), .val (.int (2 : Int32)), .val (.ref t), .val (.int ((0 : Int32) + (1 : Int32))), .val (.int (1 : Int32)), .val (.int b0), .unset, .unset, .unset, .unset]) rfl ?_
                have F114 : Ary Z h108 s .byte [.int b0, .int tb] := (hA.keep K110 (ninS hne nin0))
                refine Go.baload 11 rfl tb d28_10 F114 1 rfl rfl ?_
                refine Go.istore 13 rfl d28_11 (Ls' := #[.val (.ref s), .val (.int (((0 : Int32) + (1 : Int32)) + (1 : Int32))), .val (.int (2 : Int32)), .val (.ref t), .val (.int ((0 : Int32) + (1 : Int32))), .val (.int (1 : Int32)), .val (.int tb), .unset, .unset, .unset, .unset]) rfl ?_
                refine Go.iload 15 rfl d28_13 rfl ?_
                refine Go.if_lt 33 18 d28_15 (by decide) rfl rfl (fun (b115 : tb < 0) => ?_) (fun (b115 : ¬ tb < 0) => ?_)
                · exact absurd b115 (show ¬ tb < 0 from ht)
                · refine Go.aloadN 19 rfl d28_18 rfl rfl ?_
                  refine Go.iload 21 rfl d28_19 rfl ?_
                  refine Go.iinc 24 rfl (1 : Int32) d28_21 rfl rfl (Ls' := #[.val (.ref s), .val (.int (((0 : Int32) + (1 : Int32)) + (1 : Int32))), .val (.int (2 : Int32)), .val (.ref t), .val (.int (((0 : Int32) + (1 : Int32)) + (1 : Int32))), .val (.int (1 : Int32)), .val (.int tb), .unset, .unset, .unset, .unset]) rfl ?_
                  refine Go.iload 26 rfl d28_24 rfl ?_
                  refine Go.i2c 27 rfl d28_26 ?_
                  refine Go.eqI (w := yt) hyt ?_
                  refine Go.callS 30 rfl (C := B20) [.ref t, .int ((0 : Int32) + (1 : Int32)), .int yt] (rest := []) 139 106 19 107 (c20 Z hw h108 t ((0 : Int32) + (1 : Int32)) yt [lo (65533 : Int32), hi (65533 : Int32), 0, 0] 1 rfl (by decide) hAs hHi hLo hgt (Nat.le_of_ble_eq_true rfl) A112) d28_27 rfl rfl rfl rfl (by decide) pd20 rfl rfl rfl (W := 0) (Nat.le_of_ble_eq_true rfl) (by decide) (by decide) (by decide) (by decide) fun v116 h117 q118 => ?_
                  obtain ⟨rfl, K119, A120⟩ := q118
                  have A121 : Ary Z h117 t .byte (IL [lo (65533 : Int32), hi (65533 : Int32), lo yt, hi yt]) := A120
                  refine Go.goto 618 d28_30 (by decide) (by decide) ?_
                  refine Go.goto 0 d28_618 (by decide) (by decide) ?_
                  refine Go.iloadN 1 rfl d28_0 rfl ?_
                  refine Go.iloadN 2 rfl d28_1 rfl ?_
                  refine Go.icmp_ge 621 5 d28_2 (by decide) rfl rfl (fun (b122 : ¬ (((0 : Int32) + (1 : Int32)) + (1 : Int32)) < (2 : Int32)) => ?_) (fun (b122 : (((0 : Int32) + (1 : Int32)) + (1 : Int32)) < (2 : Int32)) => ?_)
                  · refine Go.iload 623 rfl d28_621 rfl ?_
                    refine Go.eqI (w := 2) (by decide) ?_
                    exact Go.retI d28_623 rfl (by decide) (by decide) ⟨rfl, (((Keep.refl h0 [t]).trans K110 (by simp)).trans K119 (by simp)), A121⟩
                  · exact absurd b122 (show ¬ (((0 : Int32) + (1 : Int32)) + (1 : Int32)) < (2 : Int32) from (by decide))
            · exact absurd b106 (show ¬ (1 : Int32) = 0 from (by decide))
          · exact absurd b105 (show ¬ (b0 >>> ((3 : Int32) &&& 31)) = (-2 : Int32) from g4)
        · exact absurd b104 (show ¬ (b0 >>> ((4 : Int32) &&& 31)) = (-2 : Int32) from g3)
      · exact absurd b103 (show ¬ (b0 >>> ((5 : Int32) &&& 31)) = (-2 : Int32) from g2)
    · exact absurd (show b0 < 0 from g0) b102
theorem d38_0 : decode jdk_42_method_11_code 0 = .ok (.aload_n 0, 1) := by decide +kernel
theorem d38_1 : decode jdk_42_method_11_code 1 = .ok (.invokespecial 1, 3) := by decide +kernel
theorem d38_4 : decode jdk_42_method_11_code 4 = .ok (.iload 4, 2) := by decide +kernel
theorem d38_6 : decode jdk_42_method_11_code 6 = .ok (.ifCond .ne 24, 3) := by decide +kernel
theorem d38_30 : decode jdk_42_method_11_code 30 = .ok (.aload_n 1, 1) := by decide +kernel
theorem d38_31 : decode jdk_42_method_11_code 31 = .ok (.getstatic 86, 3) := by decide +kernel
theorem d38_34 : decode jdk_42_method_11_code 34 = .ok (.if_acmp .ne 312, 3) := by decide +kernel
theorem d38_37 : decode jdk_42_method_11_code 37 = .ok (.getstatic 38, 3) := by decide +kernel
theorem d38_40 : decode jdk_42_method_11_code 40 = .ok (.ifCond .eq 252, 3) := by decide +kernel
theorem d38_43 : decode jdk_42_method_11_code 43 = .ok (.aload_n 2, 1) := by decide +kernel
theorem d38_44 : decode jdk_42_method_11_code 44 = .ok (.iload_n 3, 1) := by decide +kernel
theorem d38_45 : decode jdk_42_method_11_code 45 = .ok (.iload 4, 2) := by decide +kernel
theorem d38_47 : decode jdk_42_method_11_code 47 = .ok (.invokestatic 92, 3) := by decide +kernel
theorem d38_50 : decode jdk_42_method_11_code 50 = .ok (.istore 5, 2) := by decide +kernel
theorem d38_52 : decode jdk_42_method_11_code 52 = .ok (.iload 5, 2) := by decide +kernel
theorem d38_54 : decode jdk_42_method_11_code 54 = .ok (.iload 4, 2) := by decide +kernel
theorem d38_56 : decode jdk_42_method_11_code 56 = .ok (.if_icmp .ne 22, 3) := by decide +kernel
theorem d38_59 : decode jdk_42_method_11_code 59 = .ok (.aload_n 0, 1) := by decide +kernel
theorem d38_60 : decode jdk_42_method_11_code 60 = .ok (.aload_n 2, 1) := by decide +kernel
theorem d38_61 : decode jdk_42_method_11_code 61 = .ok (.iload_n 3, 1) := by decide +kernel
theorem d38_62 : decode jdk_42_method_11_code 62 = .ok (.iload_n 3, 1) := by decide +kernel
theorem d38_63 : decode jdk_42_method_11_code 63 = .ok (.iload 4, 2) := by decide +kernel
theorem d38_65 : decode jdk_42_method_11_code 65 = .ok (.iadd, 1) := by decide +kernel
theorem d38_66 : decode jdk_42_method_11_code 66 = .ok (.invokestatic 54, 3) := by decide +kernel
theorem d38_69 : decode jdk_42_method_11_code 69 = .ok (.putfield 9, 3) := by decide +kernel
theorem d38_72 : decode jdk_42_method_11_code 72 = .ok (.aload_n 0, 1) := by decide +kernel
theorem d38_73 : decode jdk_42_method_11_code 73 = .ok (.iconst 0, 1) := by decide +kernel
theorem d38_74 : decode jdk_42_method_11_code 74 = .ok (.putfield 15, 3) := by decide +kernel
theorem d38_77 : decode jdk_42_method_11_code 77 = .ok (.return_, 1) := by decide +kernel
theorem d38_78 : decode jdk_42_method_11_code 78 = .ok (.aload_n 2, 1) := by decide +kernel
theorem d38_79 : decode jdk_42_method_11_code 79 = .ok (.iload_n 3, 1) := by decide +kernel
theorem d38_80 : decode jdk_42_method_11_code 80 = .ok (.iload_n 3, 1) := by decide +kernel
theorem d38_81 : decode jdk_42_method_11_code 81 = .ok (.iload 4, 2) := by decide +kernel
theorem d38_83 : decode jdk_42_method_11_code 83 = .ok (.iadd, 1) := by decide +kernel
theorem d38_84 : decode jdk_42_method_11_code 84 = .ok (.invokestatic 54, 3) := by decide +kernel
theorem d38_87 : decode jdk_42_method_11_code 87 = .ok (.astore 6, 2) := by decide +kernel
theorem d38_89 : decode jdk_42_method_11_code 89 = .ok (.iload 5, 2) := by decide +kernel
theorem d38_91 : decode jdk_42_method_11_code 91 = .ok (.istore 7, 2) := by decide +kernel
theorem d38_93 : decode jdk_42_method_11_code 93 = .ok (.iload 7, 2) := by decide +kernel
theorem d38_95 : decode jdk_42_method_11_code 95 = .ok (.iload 4, 2) := by decide +kernel
theorem d38_97 : decode jdk_42_method_11_code 97 = .ok (.if_icmp .ge 93, 3) := by decide +kernel
theorem d38_100 : decode jdk_42_method_11_code 100 = .ok (.aload 6, 2) := by decide +kernel
theorem d38_102 : decode jdk_42_method_11_code 102 = .ok (.iload 7, 2) := by decide +kernel
theorem d38_104 : decode jdk_42_method_11_code 104 = .ok (.iinc 7 1, 3) := by decide +kernel
theorem d38_107 : decode jdk_42_method_11_code 107 = .ok (.baload, 1) := by decide +kernel
theorem d38_108 : decode jdk_42_method_11_code 108 = .ok (.istore 8, 2) := by decide +kernel
theorem d38_110 : decode jdk_42_method_11_code 110 = .ok (.iload 8, 2) := by decide +kernel
theorem d38_112 : decode jdk_42_method_11_code 112 = .ok (.ifCond .lt 17, 3) := by decide +kernel
theorem d38_115 : decode jdk_42_method_11_code 115 = .ok (.aload 6, 2) := by decide +kernel
theorem d38_117 : decode jdk_42_method_11_code 117 = .ok (.iload 5, 2) := by decide +kernel
theorem d38_119 : decode jdk_42_method_11_code 119 = .ok (.iinc 5 1, 3) := by decide +kernel
theorem d38_122 : decode jdk_42_method_11_code 122 = .ok (.iload 8, 2) := by decide +kernel
theorem d38_124 : decode jdk_42_method_11_code 124 = .ok (.i2b, 1) := by decide +kernel
theorem d38_125 : decode jdk_42_method_11_code 125 = .ok (.bastore, 1) := by decide +kernel
theorem d38_126 : decode jdk_42_method_11_code 126 = .ok (.goto (-33), 3) := by decide +kernel
theorem d38_129 : decode jdk_42_method_11_code 129 = .ok (.iload 8, 2) := by decide +kernel
theorem d38_131 : decode jdk_42_method_11_code 131 = .ok (.sipush 254, 3) := by decide +kernel
theorem d38_134 : decode jdk_42_method_11_code 134 = .ok (.iand, 1) := by decide +kernel
theorem d38_135 : decode jdk_42_method_11_code 135 = .ok (.sipush 194, 3) := by decide +kernel
theorem d38_138 : decode jdk_42_method_11_code 138 = .ok (.if_icmp .ne 46, 3) := by decide +kernel
theorem d38_141 : decode jdk_42_method_11_code 141 = .ok (.iload 7, 2) := by decide +kernel
theorem d38_143 : decode jdk_42_method_11_code 143 = .ok (.iload 4, 2) := by decide +kernel
theorem d38_145 : decode jdk_42_method_11_code 145 = .ok (.if_icmp .ge 39, 3) := by decide +kernel
theorem d38_148 : decode jdk_42_method_11_code 148 = .ok (.aload 6, 2) := by decide +kernel
theorem d38_150 : decode jdk_42_method_11_code 150 = .ok (.iload 7, 2) := by decide +kernel
theorem d38_152 : decode jdk_42_method_11_code 152 = .ok (.baload, 1) := by decide +kernel
theorem d38_153 : decode jdk_42_method_11_code 153 = .ok (.istore 9, 2) := by decide +kernel
theorem d38_155 : decode jdk_42_method_11_code 155 = .ok (.iload 9, 2) := by decide +kernel
theorem d38_157 : decode jdk_42_method_11_code 157 = .ok (.bipush (-64), 2) := by decide +kernel
theorem d38_159 : decode jdk_42_method_11_code 159 = .ok (.if_icmp .ge 25, 3) := by decide +kernel
theorem d38_162 : decode jdk_42_method_11_code 162 = .ok (.aload 6, 2) := by decide +kernel
theorem d38_164 : decode jdk_42_method_11_code 164 = .ok (.iload 5, 2) := by decide +kernel
theorem d38_166 : decode jdk_42_method_11_code 166 = .ok (.iinc 5 1, 3) := by decide +kernel
theorem d38_169 : decode jdk_42_method_11_code 169 = .ok (.iload 8, 2) := by decide +kernel
theorem d38_171 : decode jdk_42_method_11_code 171 = .ok (.iload 9, 2) := by decide +kernel
theorem d38_173 : decode jdk_42_method_11_code 173 = .ok (.invokestatic 98, 3) := by decide +kernel
theorem d38_176 : decode jdk_42_method_11_code 176 = .ok (.i2b, 1) := by decide +kernel
theorem d38_177 : decode jdk_42_method_11_code 177 = .ok (.bastore, 1) := by decide +kernel
theorem d38_178 : decode jdk_42_method_11_code 178 = .ok (.iinc 7 1, 3) := by decide +kernel
theorem d38_181 : decode jdk_42_method_11_code 181 = .ok (.goto (-88), 3) := by decide +kernel
theorem d38_184 : decode jdk_42_method_11_code 184 = .ok (.iinc 7 (-1), 3) := by decide +kernel
theorem d38_187 : decode jdk_42_method_11_code 187 = .ok (.goto 3, 3) := by decide +kernel
theorem d38_190 : decode jdk_42_method_11_code 190 = .ok (.iload 7, 2) := by decide +kernel
theorem d38_192 : decode jdk_42_method_11_code 192 = .ok (.iload 4, 2) := by decide +kernel
theorem d38_194 : decode jdk_42_method_11_code 194 = .ok (.if_icmp .ne 32, 3) := by decide +kernel
theorem d38_197 : decode jdk_42_method_11_code 197 = .ok (.iload 5, 2) := by decide +kernel
theorem d38_199 : decode jdk_42_method_11_code 199 = .ok (.aload 6, 2) := by decide +kernel
theorem d38_201 : decode jdk_42_method_11_code 201 = .ok (.arraylength, 1) := by decide +kernel
theorem d38_202 : decode jdk_42_method_11_code 202 = .ok (.if_icmp .eq 12, 3) := by decide +kernel
theorem d38_205 : decode jdk_42_method_11_code 205 = .ok (.aload 6, 2) := by decide +kernel
theorem d38_207 : decode jdk_42_method_11_code 207 = .ok (.iload 5, 2) := by decide +kernel
theorem d38_209 : decode jdk_42_method_11_code 209 = .ok (.invokestatic 102, 3) := by decide +kernel
theorem d38_212 : decode jdk_42_method_11_code 212 = .ok (.astore 6, 2) := by decide +kernel
theorem d38_214 : decode jdk_42_method_11_code 214 = .ok (.aload_n 0, 1) := by decide +kernel
theorem d38_215 : decode jdk_42_method_11_code 215 = .ok (.aload 6, 2) := by decide +kernel
theorem d38_217 : decode jdk_42_method_11_code 217 = .ok (.putfield 9, 3) := by decide +kernel
theorem d38_220 : decode jdk_42_method_11_code 220 = .ok (.aload_n 0, 1) := by decide +kernel
theorem d38_221 : decode jdk_42_method_11_code 221 = .ok (.iconst 0, 1) := by decide +kernel
theorem d38_222 : decode jdk_42_method_11_code 222 = .ok (.putfield 15, 3) := by decide +kernel
theorem d38_225 : decode jdk_42_method_11_code 225 = .ok (.return_, 1) := by decide +kernel
theorem d38_226 : decode jdk_42_method_11_code 226 = .ok (.iload 4, 2) := by decide +kernel
theorem d38_228 : decode jdk_42_method_11_code 228 = .ok (.invokestatic 60, 3) := by decide +kernel
theorem d38_231 : decode jdk_42_method_11_code 231 = .ok (.astore 8, 2) := by decide +kernel
theorem d38_233 : decode jdk_42_method_11_code 233 = .ok (.aload 6, 2) := by decide +kernel
theorem d38_235 : decode jdk_42_method_11_code 235 = .ok (.iconst 0, 1) := by decide +kernel
theorem d38_236 : decode jdk_42_method_11_code 236 = .ok (.aload 8, 2) := by decide +kernel
theorem d38_238 : decode jdk_42_method_11_code 238 = .ok (.iconst 0, 1) := by decide +kernel
theorem d38_239 : decode jdk_42_method_11_code 239 = .ok (.iload 5, 2) := by decide +kernel
theorem d38_241 : decode jdk_42_method_11_code 241 = .ok (.invokestatic 106, 3) := by decide +kernel
theorem d38_244 : decode jdk_42_method_11_code 244 = .ok (.aload 6, 2) := by decide +kernel
theorem d38_246 : decode jdk_42_method_11_code 246 = .ok (.iload 7, 2) := by decide +kernel
theorem d38_248 : decode jdk_42_method_11_code 248 = .ok (.iload 4, 2) := by decide +kernel
theorem d38_250 : decode jdk_42_method_11_code 250 = .ok (.aload 8, 2) := by decide +kernel
theorem d38_252 : decode jdk_42_method_11_code 252 = .ok (.iload 5, 2) := by decide +kernel
theorem d38_254 : decode jdk_42_method_11_code 254 = .ok (.iconst 1, 1) := by decide +kernel
theorem d38_255 : decode jdk_42_method_11_code 255 = .ok (.invokestatic 112, 3) := by decide +kernel
theorem d38_258 : decode jdk_42_method_11_code 258 = .ok (.istore 5, 2) := by decide +kernel
theorem d38_260 : decode jdk_42_method_11_code 260 = .ok (.iload 5, 2) := by decide +kernel
theorem d38_262 : decode jdk_42_method_11_code 262 = .ok (.iload 4, 2) := by decide +kernel
theorem d38_264 : decode jdk_42_method_11_code 264 = .ok (.if_icmp .eq 14, 3) := by decide +kernel
theorem d38_267 : decode jdk_42_method_11_code 267 = .ok (.aload 8, 2) := by decide +kernel
theorem d38_269 : decode jdk_42_method_11_code 269 = .ok (.iload 5, 2) := by decide +kernel
theorem d38_271 : decode jdk_42_method_11_code 271 = .ok (.iconst 1, 1) := by decide +kernel
theorem d38_272 : decode jdk_42_method_11_code 272 = .ok (.ishl, 1) := by decide +kernel
theorem d38_273 : decode jdk_42_method_11_code 273 = .ok (.invokestatic 102, 3) := by decide +kernel
theorem d38_276 : decode jdk_42_method_11_code 276 = .ok (.astore 8, 2) := by decide +kernel
theorem d38_278 : decode jdk_42_method_11_code 278 = .ok (.aload_n 0, 1) := by decide +kernel
theorem d38_279 : decode jdk_42_method_11_code 279 = .ok (.aload 8, 2) := by decide +kernel
theorem d38_281 : decode jdk_42_method_11_code 281 = .ok (.putfield 9, 3) := by decide +kernel
theorem d38_284 : decode jdk_42_method_11_code 284 = .ok (.aload_n 0, 1) := by decide +kernel
theorem d38_285 : decode jdk_42_method_11_code 285 = .ok (.iconst 1, 1) := by decide +kernel
theorem d38_286 : decode jdk_42_method_11_code 286 = .ok (.putfield 15, 3) := by decide +kernel
theorem d38_289 : decode jdk_42_method_11_code 289 = .ok (.goto 590, 3) := by decide +kernel
theorem d38_879 : decode jdk_42_method_11_code 879 = .ok (.return_, 1) := by decide +kernel
theorem pd38 : parseMethodDescriptor "(Ljava/nio/charset/Charset;[BII)V" = some ⟨[(.object "java/nio/charset/Charset"), (.array .byte), .int, .int], none⟩ := by decide +kernel
theorem pn38 : plainFor (⟨"java/lang/String", "<init>", "(Ljava/nio/charset/Charset;[BII)V"⟩ : MethodName) = true := by first | (refine plainFor_of_name ?_; simp [plainName, overriddenIn]; done) | (refine plainFor_of_name ?_; decide +kernel) | decide +kernel
abbrev B38 : Bd := ((⟨"java/lang/String", "<init>", "(Ljava/nio/charset/Charset;[BII)V"⟩ : MethodName), jdk_42_method_11_code, 11, none, ({ frames := 5, cells := 3, slots := 21, locals := 76 } : Room), tables_1)
theorem ef38D (mid : MethodId) (a : Addr) (m : Addr) (s : Addr) : entryFrame mid (List.toArray [.ref a, .ref m, .ref s, .int (0 : Int32), .int (5 : Int32)]) 11 = mkF mid 0 #[.val (.ref a), .val (.ref m), .val (.ref s), .val (.int (0 : Int32)), .val (.int (5 : Int32)), .unset, .unset, .unset, .unset, .unset, .unset] [] := by first | (simp [entryFrame, mkF, argsToLocals, Value.category]; done) | rfl
def Q38D (Z : State) (a : Addr) (b0 : Int32) (b1 : Int32) (b2 : Int32) (b3 : Int32) (tb : Int32) (y0 : Int32) (y1 : Int32) (yt : Int32) (h0 : Heap) (v : Option Value) (h : Heap) : Prop := v = none ∧ ∃ t, h0.size ≤ t ∧ Keep h0 h [a] ∧ Fld Z h a "java/lang/String" "value" "[B" (.ref t) ∧ Fld Z h a "java/lang/String" "coder" "B" (.int 1) ∧ Ary Z h t .byte (IL [lo y0, hi y0, lo y1, hi y1, lo yt, hi yt])
set_option maxRecDepth 65536 in
set_option maxHeartbeats 40000000 in
theorem c38D (Z : State) (hw : Wd Z tables_1) (h0 : Heap) (a : Addr) (m : Addr) (s : Addr) (b0 : Int32) (b1 : Int32) (b2 : Int32) (b3 : Int32) (tb : Int32) (y0 : Int32) (y1 : Int32) (yt : Int32) (cp : Int32) (g0 : b0 < 0) (g1 : ¬ (b0 &&& (254 : Int32)) = (194 : Int32)) (g2 : ¬ (b0 >>> ((5 : Int32) &&& 31)) = (-2 : Int32)) (g3 : ¬ (b0 >>> ((4 : Int32) &&& 31)) = (-2 : Int32)) (g4 : (b0 >>> ((3 : Int32) &&& 31)) = (-2 : Int32)) (g5 : (b1 &&& (192 : Int32)) = (128 : Int32)) (g6 : (b2 &&& (192 : Int32)) = (128 : Int32)) (g7 : (b3 &&& (192 : Int32)) = (128 : Int32)) (g8 : (((b0 <<< ((18 : Int32) &&& 31)) ^^^ (b1 <<< ((12 : Int32) &&& 31))) ^^^ (b2 <<< ((6 : Int32) &&& 31))) ^^^ (b3 ^^^ (3678080 : Int32)) = cp) (g9 : ¬ cp < (65536 : Int32)) (g10 : cp < (1114112 : Int32)) (g11 : (XT.ushr cp (10 : Int32) + (55232 : Int32)).toUInt32.toUInt16.toUInt32.toInt32 = y0) (g12 : ((cp &&& (1023 : Int32)) + (56320 : Int32)).toUInt32.toUInt16.toUInt32.toInt32 = y1) (ht : ¬ tb < 0) (hyt : tb.toUInt32.toUInt16.toUInt32.toInt32 = yt) (cs : Int32) (hS : Sta Z Z.heap "java/lang/String" "COMPACT_STRINGS" "Z" (.int cs)) (hcs : ¬ cs = 0) (hAs : Sta Z Z.heap "java/lang/StringUTF16" "$assertionsDisabled" "Z" (.int 1)) (hHi : Sta Z Z.heap "java/lang/StringUTF16" "HI_BYTE_SHIFT" "I" (.int 0)) (hLo : Sta Z Z.heap "java/lang/StringUTF16" "LO_BYTE_SHIFT" "I" (.int 8)) (hfm : (Sta Z Z.heap "jdk/internal/util/Preconditions" "SIOOBE_FORMATTER" "Ljava/util/function/BiFunction;" .null) ∨ ∃ m, Sta Z Z.heap "jdk/internal/util/Preconditions" "SIOOBE_FORMATTER" "Ljava/util/function/BiFunction;" (.ref m)) (hU : Sta Z Z.heap "sun/nio/cs/UTF_8" "INSTANCE" "Lsun/nio/cs/UTF_8;" (.ref m)) (hge : Z.heap.size ≤ a) (hE : Exa Z h0 a "java/lang/String") (hV : Fld Z h0 a "java/lang/String" "value" "[B" .null) (hC : Fld Z h0 a "java/lang/String" "coder" "B" (.int 0)) (hA : Ary Z h0 s .byte [.int b0, .int b1, .int b2, .int b3, .int tb]) (hEs : Exa Z h0 s "[B") : ConW [(800, 813, 816, 202)] Z B38 (List.toArray [.ref a, .ref m, .ref s, .int (0 : Int32), .int (5 : Int32)]) h0 (Q38D Z a b0 b1 b2 b3 tb y0 y1 yt h0) := by
  refine ConW.mk hw pn38 (fun mid => ef38D mid a m s) (Go.old fun hle' => ?_)
  have hle := hle'.1
  refine Go.aloadN 1 rfl d38_0 rfl rfl ?_
  refine Go.initO 4 rfl 13 14 15 d38_1 rfl rfl rfl rfl (by decide) (W := 0) (Nat.le_of_ble_eq_true rfl) (by decide) ?_
  refine Go.iload 6 rfl d38_4 rfl ?_
  refine Go.if_ne 30 9 d38_6 (by decide) rfl rfl (fun (b101 : ¬ (5 : Int32) = 0) => ?_) (fun (b101 : (5 : Int32) = 0) => ?_)
  · refine Go.aloadN 31 rfl d38_30 rfl rfl ?_
    refine Go.getS 34 rfl (v := .ref m) 52 d38_31 rfl hU ?_
    refine Go.acmp_ne 346 37 d38_34 (by decide) rfl rfl rfl rfl (fun (b102 : ¬ (.ref m : Value) = .ref m) => ?_) (fun (b102 : (.ref m : Value) = .ref m) => ?_)
    · exact absurd (show (.ref m : Value) = .ref m from rfl) b102
    · refine Go.getS 40 rfl (v := .int cs) 16 d38_37 rfl hS ?_
      refine Go.if_eq 292 43 d38_40 (by decide) rfl rfl (fun (b103 : cs = 0) => ?_) (fun (b103 : ¬ cs = 0) => ?_)
      · exact absurd b103 (show ¬ cs = 0 from hcs)
      · refine Go.aloadN 44 rfl d38_43 rfl rfl ?_
        refine Go.iloadN 45 rfl d38_44 rfl ?_
        refine Go.iload 47 rfl d38_45 rfl ?_
        refine Go.callS 50 rfl (C := B10) [.ref s, .int (0 : Int32), .int (5 : Int32)] (rest := []) 54 55 56 57 (c10n5 Z hw h0 s b0 b1 b2 b3 tb g0 ht hA) d38_47 rfl rfl rfl rfl (by decide) pd10 rfl rfl rfl (W := 0) (Nat.le_of_ble_eq_true rfl) (by decide) (by decide) (by decide) (by decide) fun v104 h105 q106 => ?_
        obtain ⟨rfl, rfl⟩ := q106
        refine Go.istore 52 rfl d38_50 (Ls' := #[.val (.ref a), .val (.ref m), .val (.ref s), .val (.int (0 : Int32)), .val (.int (5 : Int32)), .val (.int (0 : Int32)), .unset, .unset, .unset, .unset, .unset]) rfl ?_
        refine Go.iload 54 rfl d38_52 rfl ?_
        refine Go.iload 56 rfl d38_54 rfl ?_
        refine Go.icmp_ne 78 59 d38_56 (by decide) rfl rfl (fun (b107 : ¬ (0 : Int32) = (5 : Int32)) => ?_) (fun (b107 : (0 : Int32) = (5 : Int32)) => ?_)
        · refine Go.aloadN 79 rfl d38_78 rfl rfl ?_
          refine Go.iloadN 80 rfl d38_79 rfl ?_
          refine Go.iloadN 81 rfl d38_80 rfl ?_
          refine Go.iload 83 rfl d38_81 rfl ?_
          refine Go.iadd 84 rfl d38_83 ?_
          refine Go.eqI (w := 5) (by decide) ?_
          refine Go.callS 87 rfl (C := B11) [.ref s, .int (0 : Int32), .int (5 : Int32)] (rest := []) 58 59 60 61 (c11 Z hw h0 s (5 : Int32) [.int b0, .int b1, .int b2, .int b3, .int tb] rfl (Nat.le_of_ble_eq_true rfl) hA hEs) d38_84 rfl rfl rfl rfl (by decide) pd11 rfl rfl rfl (W := 0) (Nat.le_of_ble_eq_true rfl) (by decide) (by decide) (by decide) (by decide) fun v108 h109 q110 => ?_
          obtain ⟨u, rfl, gu, Ku, Au⟩ := q110
          have z111 : Z.heap.size ≤ u := Nat.le_trans hle gu
          refine Go.astore 89 rfl d38_87 rfl (Ls' := #[.val (.ref a), .val (.ref m), .val (.ref s), .val (.int (0 : Int32)), .val (.int (5 : Int32)), .val (.int (0 : Int32)), .val (.ref u), .unset, .unset, .unset, .unset]) rfl ?_
          refine Go.iload 91 rfl d38_89 rfl ?_
          refine Go.istore 93 rfl d38_91 (Ls' := #[.val (.ref a), .val (.ref m), .val (.ref s), .val (.int (0 : Int32)), .val (.int (5 : Int32)), .val (.int (0 : Int32)), .val (.ref u), .val (.int (0 : Int32)), .unset, .unset, .unset]) rfl ?_
          refine Go.iload 95 rfl d38_93 rfl ?_
          refine Go.iload 97 rfl d38_95 rfl ?_
          refine Go.icmp_ge 190 100 d38_97 (by decide) rfl rfl (fun (b112 : ¬ (0 : Int32) < (5 : Int32)) => ?_) (fun (b112 : (0 : Int32) < (5 : Int32)) => ?_)
          · exact absurd (show (0 : Int32) < (5 : Int32) from (by decide)) b112
          · refine Go.aload 102 rfl d38_100 rfl rfl ?_
            refine Go.iload 104 rfl d38_102 rfl ?_
            refine Go.iinc 107 rfl (1 : Int32) d38_104 rfl rfl (Ls' := #[.val (.ref a), .val (.ref m), .val (.ref s), .val (.int (0 : Int32)), .val (.int (5 : Int32)), .val (.int (0 : Int32)), .val (.ref u), .val (.int ((0 : Int32) + (1 : Int32))), .unset, .unset, .unset]) rfl ?_
            refine Go.baload 108 rfl b0 d38_107 Au 0 rfl rfl ?_
            refine Go.istore 110 rfl d38_108 (Ls' := #[.val (.ref a), .val (.ref m), .val (.ref s), .val (.int (0 : Int32)), .val (.int (5 : Int32)), .val (.int (0 : Int32)), .val (.ref u), .val (.int ((0 : Int32) + (1 : Int32))), .val (.int b0), .unset, .unset]) rfl ?_
            refine Go.iload 112 rfl d38_110 rfl ?_
            refine Go.if_lt 129 115 d38_112 (by decide) rfl rfl (fun (b113 : b0 < 0) => ?_) (fun (b113 : ¬ b0 < 0) => ?_)
            · refine Go.iload 131 rfl d38_129 rfl ?_
              refine Go.sipush 134 rfl (254 : Int32) d38_131 rfl ?_
              refine Go.iand 135 rfl d38_134 ?_
              refine Go.sipush 138 rfl (194 : Int32) d38_135 rfl ?_
              refine Go.icmp_ne 184 141 d38_138 (by decide) rfl rfl (fun (b114 : ¬ (b0 &&& (254 : Int32)) = (194 : Int32)) => ?_) (fun (b114 : (b0 &&& (254 : Int32)) = (194 : Int32)) => ?_)
              · refine Go.iinc 187 rfl (-1 : Int32) d38_184 rfl rfl (Ls' := #[.val (.ref a), .val (.ref m), .val (.ref s), .val (.int (0 : Int32)), .val (.int (5 : Int32)), .val (.int (0 : Int32)), .val (.ref u), .val (.int (((0 : Int32) + (1 : Int32)) + (-1 : Int32))), .val (.int b0), .unset, .unset]) rfl ?_
                refine Go.goto 190 d38_187 (by decide) (by decide) ?_
                refine Go.iload 192 rfl d38_190 rfl ?_
                refine Go.iload 194 rfl d38_192 rfl ?_
                refine Go.icmp_ne 226 197 d38_194 (by decide) rfl rfl (fun (b115 : ¬ (((0 : Int32) + (1 : Int32)) + (-1 : Int32)) = (5 : Int32)) => ?_) (fun (b115 : (((0 : Int32) + (1 : Int32)) + (-1 : Int32)) = (5 : Int32)) => ?_)
                · refine Go.iload 228 rfl d38_226 rfl ?_
                  refine Go.callS 231 rfl (C := B18) [.int (5 : Int32)] (rest := []) 114 99 19 100 (c18n5 Z hw h109) d38_228 rfl rfl rfl rfl (by decide) pd18 rfl rfl rfl (W := 0) (Nat.le_of_ble_eq_true rfl) (by decide) (by decide) (by decide) (by decide) fun v116 h117 q118 => ?_
                  obtain ⟨t, rfl, gt, Kt, At⟩ := q118
                  have z119 : Z.heap.size ≤ t := Nat.le_trans (Nat.le_trans hle Ku.1) gt
                  refine Go.astore 233 rfl d38_231 rfl (Ls' := #[.val (.ref a), .val (.ref m), .val (.ref s), .val (.int (0 : Int32)), .val (.int (5 : Int32)), .val (.int (0 : Int32)), .val (.ref u), .val (.int (((0 : Int32) + (1 : Int32)) + (-1 : Int32))), .val (.ref t), .unset, .unset]) rfl ?_
                  refine Go.aload 235 rfl d38_233 rfl rfl ?_
                  refine Go.iconst 236 rfl (0 : Int32) d38_235 rfl ?_
                  refine Go.aload 238 rfl d38_236 rfl rfl ?_
                  refine Go.iconst 239 rfl (0 : Int32) d38_238 rfl ?_
                  refine Go.iload 241 rfl d38_239 rfl ?_
                  refine Go.callS 244 rfl (C := B22) [.ref u, .int (0 : Int32), .ref t, .int (0 : Int32), .int (0 : Int32)] (rest := []) 115 116 78 117 (c22 Z hw h117 u t (IL [0, 0, 0, 0, 0, 0, 0, 0, 0, 0]) (10 : Int32) (5 : Int32) rfl (by decide) At hfm (by decide) (by decide)) d38_241 rfl rfl rfl rfl (by decide) pd22 rfl rfl rfl (W := 0) (Nat.le_of_ble_eq_true rfl) (by decide) (by decide) (by decide) (by decide) fun v120 h121 q122 => ?_
                  obtain ⟨rfl, rfl⟩ := q122
                  refine Go.aload 246 rfl d38_244 rfl rfl ?_
                  refine Go.iload 248 rfl d38_246 rfl ?_
                  refine Go.eqI (w := 0) (by decide) ?_
                  refine Go.iload 250 rfl d38_248 rfl ?_
                  refine Go.aload 252 rfl d38_250 rfl rfl ?_
                  refine Go.iload 254 rfl d38_252 rfl ?_
                  refine Go.iconst 255 rfl (1 : Int32) d38_254 rfl ?_
                  have F123 : Ary Z h117 u .byte [.int b0, .int b1, .int b2, .int b3, .int tb] := (Au.keep Kt nin0)
                  have ne124 : u ≠ t := (show @Ne Nat u t from by have := ltN Au.lt; have := gt; omega)
                  refine Go.callS 258 rfl (C := B28) [.ref u, .int (0 : Int32), .int (5 : Int32), .ref t, .int (0 : Int32), .int (1 : Int32)] (rest := []) 135 136 5 137 (c28D Z hw h117 u t y0 y1 yt b0 b1 b2 b3 tb cp g0 g1 g2 g3 g4 g5 g6 g7 g8 g9 g10 g11 g12 ht hyt hAs hHi hLo F123 At z119 ne124) d38_255 rfl rfl rfl rfl (by decide) pd28 rfl rfl rfl (W := 0) (Nat.le_of_ble_eq_true rfl) (by decide) (by decide) (by decide) (by decide) fun v125 h126 q127 => ?_
                  obtain ⟨rfl, Kd, Ad⟩ := q127
                  refine Go.istore 260 rfl d38_258 (Ls' := #[.val (.ref a), .val (.ref m), .val (.ref s), .val (.int (0 : Int32)), .val (.int (5 : Int32)), .val (.int (3 : Int32)), .val (.ref u), .val (.int (((0 : Int32) + (1 : Int32)) + (-1 : Int32))), .val (.ref t), .unset, .unset]) rfl ?_
                  refine Go.iload 262 rfl d38_260 rfl ?_
                  refine Go.iload 264 rfl d38_262 rfl ?_
                  refine Go.icmp_eq 278 267 d38_264 (by decide) rfl rfl (fun (b128 : (3 : Int32) = (5 : Int32)) => ?_) (fun (b128 : ¬ (3 : Int32) = (5 : Int32)) => ?_)
                  · exact absurd b128 (show ¬ (3 : Int32) = (5 : Int32) from (by decide))
                  · refine Go.aload 269 rfl d38_267 rfl rfl ?_
                    refine Go.iload 271 rfl d38_269 rfl ?_
                    refine Go.iconst 272 rfl (1 : Int32) d38_271 rfl ?_
                    refine Go.ishl 273 rfl d38_272 ?_
                    refine Go.eqI (w := 6) (by decide) ?_
                    refine Go.callS 276 rfl (C := B15) [.ref t, .int (6 : Int32)] (rest := []) 83 84 60 85 (c15n6 Z hw h126 t [lo y0, hi y0, lo y1, hi y1, lo yt, hi yt, 0, 0, 0, 0] (10 : Int32) rfl (by decide) (by decide) (Nat.le_of_ble_eq_true rfl) Ad) d38_273 rfl rfl rfl rfl (by decide) pd15 rfl rfl rfl (W := 0) (Nat.le_of_ble_eq_true rfl) (by decide) (by decide) (by decide) (by decide) fun v129 h130 q131 => ?_
                    obtain ⟨t2, rfl, gt2, Kt2, At2⟩ := q131
                    have sz133 := (Nat.le_trans Ku.1 Kt.1)
                    have sz134 := (Nat.le_trans sz133 Kd.1)
                    have z132 : Z.heap.size ≤ t2 := Nat.le_trans (Nat.le_trans hle sz134) gt2
                    refine Go.astore 278 rfl d38_276 rfl (Ls' := #[.val (.ref a), .val (.ref m), .val (.ref s), .val (.int (0 : Int32)), .val (.int (5 : Int32)), .val (.int (3 : Int32)), .val (.ref u), .val (.int (((0 : Int32) + (1 : Int32)) + (-1 : Int32))), .val (.ref t2), .unset, .unset]) rfl ?_
                    refine Go.aloadN 279 rfl d38_278 rfl rfl ?_
                    refine Go.aload 281 rfl d38_279 rfl rfl ?_
                    have ne135 : a ≠ t := (show @Ne Nat a t from by have := ltN hE.lt; have := Ku.1; have := gt; omega)
                    have F136 : Fld Z h130 a "java/lang/String" "value" "[B" (.null) := ((((hV.keep Ku nin0).keep Kt nin0).keep Kd (ninS ne135 nin0)).keep Kt2 nin0)
                    have F137 : Exa Z h130 a "java/lang/String" := ((((hE.keep Ku).keep Kt).keep Kd).keep Kt2)
                    refine Go.putF 284 rfl (v' := .ref t2) (ty := (.array .byte)) 29 30 4 d38_281 rfl F136 F137 (Or.inr ⟨rfl, rfl, rfl⟩) rfl (by decide) rfl rfl hge fun h138 K139 W140 F141 => ?_
                    refine Go.aloadN 285 rfl d38_284 rfl rfl ?_
                    refine Go.iconst 286 rfl (1 : Int32) d38_285 rfl ?_
                    have F142 : Fld Z h138 a "java/lang/String" "coder" "B" (.int (0 : Int32)) := (Fld.oth hw ((((hC.keep Ku nin0).keep Kt nin0).keep Kd (ninS ne135 nin0)).keep Kt2 nin0) W140 28 30 (Or.inr rfl) (Or.inr rfl) (by decide) rfl rfl)
                    have F143 : Exa Z h138 a "java/lang/String" := (F137.keep K139)
                    refine Go.putF 289 rfl (v' := .int (1 : Int32)) (ty := .byte) 27 28 4 d38_286 rfl F142 F143 (Or.inr ⟨rfl, rfl, rfl⟩) rfl (by decide) rfl rfl hge fun h144 K145 W146 F147 => ?_
                    refine Go.goto 879 d38_289 (by decide) (by decide) ?_
                    have kc148 : Keep h0 h144 [a] := (((((((Keep.refl h0 [a]).trans Ku all0).trans Kt all0).trans Kd (allS (Or.inr (Nat.le_trans Ku.1 gt)) all0)).trans Kt2 all0).trans K139 (by simp)).trans K145 (by simp))
                    have F149 : Fld Z h144 a "java/lang/String" "value" "[B" (.ref t2) := (Fld.oth hw F141 W146 30 28 (Or.inr rfl) (Or.inr rfl) (by decide) rfl rfl)
                    have ne150 : t2 ≠ a := (show @Ne Nat t2 a from by have := ltN hE.lt; have := Ku.1; have := Kt.1; have := Kd.1; have := gt2; omega)
                    have F151 : Ary Z h144 t2 .byte (IL [lo y0, hi y0, lo y1, hi y1, lo yt, hi yt]) := ((At2.keep K139 (ninS ne150 nin0)).keep K145 (ninS ne150 nin0))
                    exact Go.retV d38_879 rfl (by decide) (by decide) ⟨rfl, t2, (by have := Ku.1; have := Kt.1; have := Kd.1; have := gt2; omega), kc148, F149, F147, F151⟩
                · exact absurd b115 (show ¬ (((0 : Int32) + (1 : Int32)) + (-1 : Int32)) = (5 : Int32) from (by decide))
              · exact absurd b114 (show ¬ (b0 &&& (254 : Int32)) = (194 : Int32) from g1)
            · exact absurd (show b0 < 0 from g0) b113
        · exact absurd b107 (show ¬ (0 : Int32) = (5 : Int32) from (by decide))
  · exact absurd b101 (show ¬ (5 : Int32) = 0 from (by decide))
theorem d9_0 : decode jdk_31_method_10_code 0 = .ok (.aload_n 0, 1) := by decide +kernel
theorem d9_1 : decode jdk_31_method_10_code 1 = .ok (.ifnonnull 11, 3) := by decide +kernel
theorem d9_12 : decode jdk_31_method_10_code 12 = .ok (.aload_n 0, 1) := by decide +kernel
theorem d9_13 : decode jdk_31_method_10_code 13 = .ok (.areturn, 1) := by decide +kernel
theorem pd9 : parseMethodDescriptor "(Ljava/lang/Object;)Ljava/lang/Object;" = some ⟨[(.object "java/lang/Object")], some (.object "java/lang/Object")⟩ := by decide +kernel
theorem pn9 : plainFor (⟨"java/util/Objects", "requireNonNull", "(Ljava/lang/Object;)Ljava/lang/Object;"⟩ : MethodName) = true := by first | (refine plainFor_of_name ?_; simp [plainName, overriddenIn]; done) | (refine plainFor_of_name ?_; decide +kernel) | decide +kernel
abbrev B9 : Bd := ((⟨"java/util/Objects", "requireNonNull", "(Ljava/lang/Object;)Ljava/lang/Object;"⟩ : MethodName), jdk_31_method_10_code, 1, (some (.object "java/lang/Object")), ({ frames := 0, cells := 0, slots := 0, locals := 0 } : Room), tables_1)
theorem ef9 (mid : MethodId) (m : Addr) : entryFrame mid (List.toArray [.ref m]) 1 = mkF mid 0 #[.val (.ref m)] [] := by first | (simp [entryFrame, mkF, argsToLocals, Value.category]; done) | rfl
def Q9 (m : Addr) (h0 : Heap) (v : Option Value) (h : Heap) : Prop := v = some (.ref m) ∧ h0 = h
set_option maxRecDepth 65536 in
set_option maxHeartbeats 40000000 in
theorem c9 (Z : State) (hw : Wd Z tables_1) (h0 : Heap) (m : Addr)   : Con Z B9 (List.toArray [.ref m]) h0 (Q9 m h0) := by
  refine Con.mk hw pn9 (fun mid => ef9 mid m) (Go.old fun hle' => ?_)
  have hle := hle'.1
  refine Go.aloadN 1 rfl d9_0 rfl rfl ?_
  refine Go.ifnonnull_r 12 d9_1 (by decide) rfl ?_
  refine Go.aloadN 13 rfl d9_12 rfl rfl ?_
  exact Go.retA d9_13 rfl rfl rfl (by decide) (by decide) ⟨rfl, rfl⟩
theorem d8_0 : decode jdk_42_method_49_code 0 = .ok (.aload_n 0, 1) := by decide +kernel
theorem d8_1 : decode jdk_42_method_49_code 1 = .ok (.aload_n 2, 1) := by decide +kernel
theorem d8_2 : decode jdk_42_method_49_code 2 = .ok (.invokestatic 78, 3) := by decide +kernel
theorem d8_5 : decode jdk_42_method_49_code 5 = .ok (.checkcast 84, 3) := by decide +kernel
theorem d8_8 : decode jdk_42_method_49_code 8 = .ok (.aload_n 1, 1) := by decide +kernel
theorem d8_9 : decode jdk_42_method_49_code 9 = .ok (.iconst 0, 1) := by decide +kernel
theorem d8_10 : decode jdk_42_method_49_code 10 = .ok (.aload_n 1, 1) := by decide +kernel
theorem d8_11 : decode jdk_42_method_49_code 11 = .ok (.arraylength, 1) := by decide +kernel
theorem d8_12 : decode jdk_42_method_49_code 12 = .ok (.invokespecial 75, 3) := by decide +kernel
theorem d8_15 : decode jdk_42_method_49_code 15 = .ok (.return_, 1) := by decide +kernel
theorem pd8 : parseMethodDescriptor "([BLjava/nio/charset/Charset;)V" = some ⟨[(.array .byte), (.object "java/nio/charset/Charset")], none⟩ := by decide +kernel
theorem pn8 : plainFor (⟨"java/lang/String", "<init>", "([BLjava/nio/charset/Charset;)V"⟩ : MethodName) = true := by first | (refine plainFor_of_name ?_; simp [plainName, overriddenIn]; done) | (refine plainFor_of_name ?_; decide +kernel) | decide +kernel
abbrev B8 : Bd := ((⟨"java/lang/String", "<init>", "([BLjava/nio/charset/Charset;)V"⟩ : MethodName), jdk_42_method_49_code, 3, none, ({ frames := 6, cells := 3, slots := 21, locals := 98 } : Room), tables_1)
theorem ef8D (mid : MethodId) (a : Addr) (s : Addr) (m : Addr) : entryFrame mid (List.toArray [.ref a, .ref s, .ref m]) 3 = mkF mid 0 #[.val (.ref a), .val (.ref s), .val (.ref m)] [] := by first | (simp [entryFrame, mkF, argsToLocals, Value.category]; done) | rfl
def Q8D (Z : State) (a : Addr) (b0 : Int32) (b1 : Int32) (b2 : Int32) (b3 : Int32) (tb : Int32) (y0 : Int32) (y1 : Int32) (yt : Int32) (h0 : Heap) (v : Option Value) (h : Heap) : Prop := v = none ∧ ∃ t, h0.size ≤ t ∧ Keep h0 h [a] ∧ Fld Z h a "java/lang/String" "value" "[B" (.ref t) ∧ Fld Z h a "java/lang/String" "coder" "B" (.int 1) ∧ Ary Z h t .byte (IL [lo y0, hi y0, lo y1, hi y1, lo yt, hi yt])
set_option maxRecDepth 65536 in
set_option maxHeartbeats 40000000 in
theorem c8D (Z : State) (hw : Wd Z tables_1) (h0 : Heap) (a : Addr) (s : Addr) (m : Addr) (b0 : Int32) (b1 : Int32) (b2 : Int32) (b3 : Int32) (tb : Int32) (y0 : Int32) (y1 : Int32) (yt : Int32) (cp : Int32) (g0 : b0 < 0) (g1 : ¬ (b0 &&& (254 : Int32)) = (194 : Int32)) (g2 : ¬ (b0 >>> ((5 : Int32) &&& 31)) = (-2 : Int32)) (g3 : ¬ (b0 >>> ((4 : Int32) &&& 31)) = (-2 : Int32)) (g4 : (b0 >>> ((3 : Int32) &&& 31)) = (-2 : Int32)) (g5 : (b1 &&& (192 : Int32)) = (128 : Int32)) (g6 : (b2 &&& (192 : Int32)) = (128 : Int32)) (g7 : (b3 &&& (192 : Int32)) = (128 : Int32)) (g8 : (((b0 <<< ((18 : Int32) &&& 31)) ^^^ (b1 <<< ((12 : Int32) &&& 31))) ^^^ (b2 <<< ((6 : Int32) &&& 31))) ^^^ (b3 ^^^ (3678080 : Int32)) = cp) (g9 : ¬ cp < (65536 : Int32)) (g10 : cp < (1114112 : Int32)) (g11 : (XT.ushr cp (10 : Int32) + (55232 : Int32)).toUInt32.toUInt16.toUInt32.toInt32 = y0) (g12 : ((cp &&& (1023 : Int32)) + (56320 : Int32)).toUInt32.toUInt16.toUInt32.toInt32 = y1) (ht : ¬ tb < 0) (hyt : tb.toUInt32.toUInt16.toUInt32.toInt32 = yt) (cs : Int32) (hS : Sta Z Z.heap "java/lang/String" "COMPACT_STRINGS" "Z" (.int cs)) (hcs : ¬ cs = 0) (hAs : Sta Z Z.heap "java/lang/StringUTF16" "$assertionsDisabled" "Z" (.int 1)) (hHi : Sta Z Z.heap "java/lang/StringUTF16" "HI_BYTE_SHIFT" "I" (.int 0)) (hLo : Sta Z Z.heap "java/lang/StringUTF16" "LO_BYTE_SHIFT" "I" (.int 8)) (hfm : (Sta Z Z.heap "jdk/internal/util/Preconditions" "SIOOBE_FORMATTER" "Ljava/util/function/BiFunction;" .null) ∨ ∃ m, Sta Z Z.heap "jdk/internal/util/Preconditions" "SIOOBE_FORMATTER" "Ljava/util/function/BiFunction;" (.ref m)) (hU : Sta Z Z.heap "sun/nio/cs/UTF_8" "INSTANCE" "Lsun/nio/cs/UTF_8;" (.ref m)) (hge : Z.heap.size ≤ a) (hE : Exa Z h0 a "java/lang/String") (hV : Fld Z h0 a "java/lang/String" "value" "[B" .null) (hC : Fld Z h0 a "java/lang/String" "coder" "B" (.int 0)) (hA : Ary Z h0 s .byte [.int b0, .int b1, .int b2, .int b3, .int tb]) (hEs : Exa Z h0 s "[B") (hM : Exa Z h0 m "sun/nio/cs/UTF_8") : Con Z B8 (List.toArray [.ref a, .ref s, .ref m]) h0 (Q8D Z a b0 b1 b2 b3 tb y0 y1 yt h0) := by
  refine Con.mk hw pn8 (fun mid => ef8D mid a s m) (Go.old fun hle' => ?_)
  have hle := hle'.1
  refine Go.aloadN 1 rfl d8_0 rfl rfl ?_
  refine Go.aloadN 2 rfl d8_1 rfl rfl ?_
  refine Go.callS 5 rfl (C := B9) [.ref m] (rest := [.ref a]) 43 44 45 46 (c9 Z hw h0 m) d8_2 rfl rfl rfl rfl (by decide) pd9 rfl rfl rfl (W := 1) (Nat.le_of_ble_eq_true rfl) (by decide) (by decide) (by decide) (by decide) fun v101 h102 q103 => ?_
  obtain ⟨rfl, rfl⟩ := q103
  refine Go.castY 8 rfl 47 d8_5 rfl (own_ins hw 48 rfl hM) ?_
  refine Go.aloadN 9 rfl d8_8 rfl rfl ?_
  refine Go.iconst 10 rfl (0 : Int32) d8_9 rfl ?_
  refine Go.aloadN 11 rfl d8_10 rfl rfl ?_
  refine Go.alen 12 rfl (5 : Int32) d8_11 hA rfl ?_
  refine Go.callIW 15 rfl (C := B38) a [.ref m, .ref s, .int (0 : Int32), .int (5 : Int32)] (rest := []) 49 50 5 51 (c38D Z hw h0 a m s b0 b1 b2 b3 tb y0 y1 yt cp g0 g1 g2 g3 g4 g5 g6 g7 g8 g9 g10 g11 g12 ht hyt cs hS hcs hAs hHi hLo hfm hU hge hE hV hC hA hEs) d8_12 rfl rfl rfl rfl rfl rfl (by decide) pd38 rfl rfl rfl (W := 0) (Nat.le_of_ble_eq_true rfl) (by decide) (by decide) (by decide) (by decide) fun v104 h105 q106 => ?_
  obtain ⟨rfl, t, g, K, F1, F2, A⟩ := q106
  exact Go.retV d8_15 rfl (by decide) (by decide) ⟨rfl, t, g, K, F1, F2, A⟩
theorem d7_0 : decode prog_20_method_4_code 0 = .ok (.new 63, 3) := by decide +kernel
theorem d7_3 : decode prog_20_method_4_code 3 = .ok (.dup, 1) := by decide +kernel
theorem d7_4 : decode prog_20_method_4_code 4 = .ok (.aload_n 0, 1) := by decide +kernel
theorem d7_5 : decode prog_20_method_4_code 5 = .ok (.checkcast 45, 3) := by decide +kernel
theorem d7_8 : decode prog_20_method_4_code 8 = .ok (.getstatic 65, 3) := by decide +kernel
theorem d7_11 : decode prog_20_method_4_code 11 = .ok (.invokespecial 71, 3) := by decide +kernel
theorem d7_14 : decode prog_20_method_4_code 14 = .ok (.areturn, 1) := by decide +kernel
theorem pd7 : parseMethodDescriptor "(Ljava/lang/Object;)Ljava/lang/String;" = some ⟨[(.object "java/lang/Object")], some (.object "java/lang/String")⟩ := by decide +kernel
theorem pn7 : plainFor (⟨"com/example/umweg/umweg/redis/Replies", "text", "(Ljava/lang/Object;)Ljava/lang/String;"⟩ : MethodName) = true := by first | (refine plainFor_of_name ?_; simp [plainName, overriddenIn]; done) | (refine plainFor_of_name ?_; decide +kernel) | decide +kernel
abbrev B7 : Bd := ((⟨"com/example/umweg/umweg/redis/Replies", "text", "(Ljava/lang/Object;)Ljava/lang/String;"⟩ : MethodName), prog_20_method_4_code, 1, (some (.object "java/lang/String")), ({ frames := 7, cells := 4, slots := 25, locals := 113 } : Room), tables_1)
theorem ef7D (mid : MethodId) (s : Addr) : entryFrame mid (List.toArray [.ref s]) 1 = mkF mid 0 #[.val (.ref s)] [] := by first | (simp [entryFrame, mkF, argsToLocals, Value.category]; done) | rfl
def Q7D (Z : State) (b0 : Int32) (b1 : Int32) (b2 : Int32) (b3 : Int32) (tb : Int32) (y0 : Int32) (y1 : Int32) (yt : Int32) (h0 : Heap) (v : Option Value) (h : Heap) : Prop := ∃ a t, v = some (.ref a) ∧ h0.size ≤ a ∧ h0.size ≤ t ∧ Keep h0 h [] ∧ Exa Z h a "java/lang/String" ∧ Fld Z h a "java/lang/String" "value" "[B" (.ref t) ∧ Fld Z h a "java/lang/String" "coder" "B" (.int 1) ∧ Ary Z h t .byte (IL [lo y0, hi y0, lo y1, hi y1, lo yt, hi yt])
set_option maxRecDepth 65536 in
set_option maxHeartbeats 40000000 in
theorem c7D (Z : State) (hw : Wd Z tables_1) (h0 : Heap) (s : Addr) (b0 : Int32) (b1 : Int32) (b2 : Int32) (b3 : Int32) (tb : Int32) (y0 : Int32) (y1 : Int32) (yt : Int32) (cp : Int32) (g0 : b0 < 0) (g1 : ¬ (b0 &&& (254 : Int32)) = (194 : Int32)) (g2 : ¬ (b0 >>> ((5 : Int32) &&& 31)) = (-2 : Int32)) (g3 : ¬ (b0 >>> ((4 : Int32) &&& 31)) = (-2 : Int32)) (g4 : (b0 >>> ((3 : Int32) &&& 31)) = (-2 : Int32)) (g5 : (b1 &&& (192 : Int32)) = (128 : Int32)) (g6 : (b2 &&& (192 : Int32)) = (128 : Int32)) (g7 : (b3 &&& (192 : Int32)) = (128 : Int32)) (g8 : (((b0 <<< ((18 : Int32) &&& 31)) ^^^ (b1 <<< ((12 : Int32) &&& 31))) ^^^ (b2 <<< ((6 : Int32) &&& 31))) ^^^ (b3 ^^^ (3678080 : Int32)) = cp) (g9 : ¬ cp < (65536 : Int32)) (g10 : cp < (1114112 : Int32)) (g11 : (XT.ushr cp (10 : Int32) + (55232 : Int32)).toUInt32.toUInt16.toUInt32.toInt32 = y0) (g12 : ((cp &&& (1023 : Int32)) + (56320 : Int32)).toUInt32.toUInt16.toUInt32.toInt32 = y1) (ht : ¬ tb < 0) (hyt : tb.toUInt32.toUInt16.toUInt32.toInt32 = yt) (cs : Int32) (hS : Sta Z Z.heap "java/lang/String" "COMPACT_STRINGS" "Z" (.int cs)) (hcs : ¬ cs = 0) (hAs : Sta Z Z.heap "java/lang/StringUTF16" "$assertionsDisabled" "Z" (.int 1)) (hHi : Sta Z Z.heap "java/lang/StringUTF16" "HI_BYTE_SHIFT" "I" (.int 0)) (hLo : Sta Z Z.heap "java/lang/StringUTF16" "LO_BYTE_SHIFT" "I" (.int 8)) (hfm : (Sta Z Z.heap "jdk/internal/util/Preconditions" "SIOOBE_FORMATTER" "Ljava/util/function/BiFunction;" .null) ∨ ∃ m, Sta Z Z.heap "jdk/internal/util/Preconditions" "SIOOBE_FORMATTER" "Ljava/util/function/BiFunction;" (.ref m)) (m : Addr) (hU : Sta Z Z.heap "sun/nio/cs/UTF_8" "INSTANCE" "Lsun/nio/cs/UTF_8;" (.ref m)) (hU8 : Sta Z Z.heap "java/nio/charset/StandardCharsets" "UTF_8" "Ljava/nio/charset/Charset;" (.ref m)) (hA : Ary Z h0 s .byte [.int b0, .int b1, .int b2, .int b3, .int tb]) (hEs : Exa Z h0 s "[B") (hM : Exa Z h0 m "sun/nio/cs/UTF_8") : Con Z B7 (List.toArray [.ref s]) h0 (Q7D Z b0 b1 b2 b3 tb y0 y1 yt h0) := by
  refine Con.mk hw pn7 (fun mid => ef7D mid s) (Go.old fun hle' => ?_)
  have hle := hle'.1
  refine Go.newO 3 rfl 35 4 5 d7_0 rfl rfl rfl (by decide) (by decide) fun h102 a101 g103 z104 K105 E106 D107 => ?_
  refine Go.dup 4 rfl d7_3 rfl ?_
  refine Go.aloadN 5 rfl d7_4 rfl rfl ?_
  have F108 : Exa Z h102 s "[B" := (hEs.keep K105)
  refine Go.castY 8 rfl 36 d7_5 rfl (Ins.self F108) ?_
  refine Go.getS 11 rfl (v := .ref m) 38 d7_8 rfl hU8 ?_
  have F109 : Ary Z h102 s .byte [.int b0, .int b1, .int b2, .int b3, .int tb] := (hA.keep K105 nin0)
  have F110 : Exa Z h102 m "sun/nio/cs/UTF_8" := (hM.keep K105)
  refine Go.callI 14 rfl (C := B8) a101 [.ref s, .ref m] (rest := [.ref a101]) 40 41 5 42 (c8D Z hw h102 a101 s m b0 b1 b2 b3 tb y0 y1 yt cp g0 g1 g2 g3 g4 g5 g6 g7 g8 g9 g10 g11 g12 ht hyt cs hS hcs hAs hHi hLo hfm hU z104 E106 (D107 30 (Or.inr rfl) (ty := (.array .byte)) (by decide) : Fld Z h102 a101 "java/lang/String" "value" "[B" (.null)) (D107 28 (Or.inr rfl) (ty := .byte) (by decide) : Fld Z h102 a101 "java/lang/String" "coder" "B" (.int (0 : Int32))) F109 F108 F110) d7_11 rfl rfl rfl rfl rfl rfl (by decide) pd8 rfl rfl rfl (W := 1) (Nat.le_of_ble_eq_true rfl) (by decide) (by decide) (by decide) (by decide) fun v111 h112 q113 => ?_
  obtain ⟨rfl, t, g, K, F1, F2, A⟩ := q113
  have F114 : Exa Z h112 a101 "java/lang/String" := (E106.keep K)
  exact Go.retA d7_14 rfl rfl rfl (by decide) (by decide) ⟨a101, t, rfl, Nat.le_of_eq g103.symm, (by have := K105.1; omega), (((Keep.refl h0 []).trans K105 all0).trans K (allS (Or.inr (Nat.le_of_eq g103.symm)) all0)), F114, F1, F2, A⟩
theorem ef38C (mid : MethodId) (a : Addr) (m : Addr) (s : Addr) : entryFrame mid (List.toArray [.ref a, .ref m, .ref s, .int (0 : Int32), .int (4 : Int32)]) 11 = mkF mid 0 #[.val (.ref a), .val (.ref m), .val (.ref s), .val (.int (0 : Int32)), .val (.int (4 : Int32)), .unset, .unset, .unset, .unset, .unset, .unset] [] := by first | (simp [entryFrame, mkF, argsToLocals, Value.category]; done) | rfl
def Q38C (Z : State) (a : Addr) (b0 : Int32) (b1 : Int32) (b2 : Int32) (tb : Int32) (y0 : Int32) (yt : Int32) (h0 : Heap) (v : Option Value) (h : Heap) : Prop := v = none ∧ ∃ t, h0.size ≤ t ∧ Keep h0 h [a] ∧ Fld Z h a "java/lang/String" "value" "[B" (.ref t) ∧ Fld Z h a "java/lang/String" "coder" "B" (.int 1) ∧ Ary Z h t .byte (IL [lo y0, hi y0, lo yt, hi yt])
set_option maxRecDepth 65536 in
set_option maxHeartbeats 40000000 in
theorem c38C (Z : State) (hw : Wd Z tables_1) (h0 : Heap) (a : Addr) (m : Addr) (s : Addr) (b0 : Int32) (b1 : Int32) (b2 : Int32) (tb : Int32) (y0 : Int32) (yt : Int32) (g0 : b0 < 0) (g1 : ¬ (b0 &&& (254 : Int32)) = (194 : Int32)) (g2 : ¬ (b0 >>> ((5 : Int32) &&& 31)) = (-2 : Int32)) (g3 : (b0 >>> ((4 : Int32) &&& 31)) = (-2 : Int32)) (g4 : b0 = (-32 : Int32) → ¬ (b1 &&& (224 : Int32)) = (128 : Int32)) (g5 : (b1 &&& (192 : Int32)) = (128 : Int32)) (g6 : (b2 &&& (192 : Int32)) = (128 : Int32)) (g7 : (((b0 <<< ((12 : Int32) &&& 31)) ^^^ (b1 <<< ((6 : Int32) &&& 31))) ^^^ (b2 ^^^ (-123008 : Int32))).toUInt32.toUInt16.toUInt32.toInt32 = y0) (g8 : y0 < (55296 : Int32) ∨ ¬ y0 < (57344 : Int32)) (ht : ¬ tb < 0) (hyt : tb.toUInt32.toUInt16.toUInt32.toInt32 = yt) (cs : Int32) (hS : Sta Z Z.heap "java/lang/String" "COMPACT_STRINGS" "Z" (.int cs)) (hcs : ¬ cs = 0) (hAs : Sta Z Z.heap "java/lang/StringUTF16" "$assertionsDisabled" "Z" (.int 1)) (hHi : Sta Z Z.heap "java/lang/StringUTF16" "HI_BYTE_SHIFT" "I" (.int 0)) (hLo : Sta Z Z.heap "java/lang/StringUTF16" "LO_BYTE_SHIFT" "I" (.int 8)) (hfm : (Sta Z Z.heap "jdk/internal/util/Preconditions" "SIOOBE_FORMATTER" "Ljava/util/function/BiFunction;" .null) ∨ ∃ m, Sta Z Z.heap "jdk/internal/util/Preconditions" "SIOOBE_FORMATTER" "Ljava/util/function/BiFunction;" (.ref m)) (hU : Sta Z Z.heap "sun/nio/cs/UTF_8" "INSTANCE" "Lsun/nio/cs/UTF_8;" (.ref m)) (hge : Z.heap.size ≤ a) (hE : Exa Z h0 a "java/lang/String") (hV : Fld Z h0 a "java/lang/String" "value" "[B" .null) (hC : Fld Z h0 a "java/lang/String" "coder" "B" (.int 0)) (hA : Ary Z h0 s .byte [.int b0, .int b1, .int b2, .int tb]) (hEs : Exa Z h0 s "[B") : ConW [(800, 813, 816, 202)] Z B38 (List.toArray [.ref a, .ref m, .ref s, .int (0 : Int32), .int (4 : Int32)]) h0 (Q38C Z a b0 b1 b2 tb y0 yt h0) := by
  refine ConW.mk hw pn38 (fun mid => ef38C mid a m s) (Go.old fun hle' => ?_)
  have hle := hle'.1
  refine Go.aloadN 1 rfl d38_0 rfl rfl ?_
  refine Go.initO 4 rfl 13 14 15 d38_1 rfl rfl rfl rfl (by decide) (W := 0) (Nat.le_of_ble_eq_true rfl) (by decide) ?_
  refine Go.iload 6 rfl d38_4 rfl ?_
  refine Go.if_ne 30 9 d38_6 (by decide) rfl rfl (fun (b101 : ¬ (4 : Int32) = 0) => ?_) (fun (b101 : (4 : Int32) = 0) => ?_)
  · refine Go.aloadN 31 rfl d38_30 rfl rfl ?_
    refine Go.getS 34 rfl (v := .ref m) 52 d38_31 rfl hU ?_
    refine Go.acmp_ne 346 37 d38_34 (by decide) rfl rfl rfl rfl (fun (b102 : ¬ (.ref m : Value) = .ref m) => ?_) (fun (b102 : (.ref m : Value) = .ref m) => ?_)
    · exact absurd (show (.ref m : Value) = .ref m from rfl) b102
    · refine Go.getS 40 rfl (v := .int cs) 16 d38_37 rfl hS ?_
      refine Go.if_eq 292 43 d38_40 (by decide) rfl rfl (fun (b103 : cs = 0) => ?_) (fun (b103 : ¬ cs = 0) => ?_)
      · exact absurd b103 (show ¬ cs = 0 from hcs)
      · refine Go.aloadN 44 rfl d38_43 rfl rfl ?_
        refine Go.iloadN 45 rfl d38_44 rfl ?_
        refine Go.iload 47 rfl d38_45 rfl ?_
        refine Go.callS 50 rfl (C := B10) [.ref s, .int (0 : Int32), .int (4 : Int32)] (rest := []) 54 55 56 57 (c10n4 Z hw h0 s b0 b1 b2 tb g0 ht hA) d38_47 rfl rfl rfl rfl (by decide) pd10 rfl rfl rfl (W := 0) (Nat.le_of_ble_eq_true rfl) (by decide) (by decide) (by decide) (by decide) fun v104 h105 q106 => ?_
        obtain ⟨rfl, rfl⟩ := q106
        refine Go.istore 52 rfl d38_50 (Ls' := #[.val (.ref a), .val (.ref m), .val (.ref s), .val (.int (0 : Int32)), .val (.int (4 : Int32)), .val (.int (0 : Int32)), .unset, .unset, .unset, .unset, .unset]) rfl ?_
        refine Go.iload 54 rfl d38_52 rfl ?_
        refine Go.iload 56 rfl d38_54 rfl ?_
        refine Go.icmp_ne 78 59 d38_56 (by decide) rfl rfl (fun (b107 : ¬ (0 : Int32) = (4 : Int32)) => ?_) (fun (b107 : (0 : Int32) = (4 : Int32)) => ?_)
        · refine Go.aloadN 79 rfl d38_78 rfl rfl ?_
          refine Go.iloadN 80 rfl d38_79 rfl ?_
          refine Go.iloadN 81 rfl d38_80 rfl ?_
          refine Go.iload 83 rfl d38_81 rfl ?_
          refine Go.iadd 84 rfl d38_83 ?_
          refine Go.eqI (w := 4) (by decide) ?_
          refine Go.callS 87 rfl (C := B11) [.ref s, .int (0 : Int32), .int (4 : Int32)] (rest := []) 58 59 60 61 (c11 Z hw h0 s (4 : Int32) [.int b0, .int b1, .int b2, .int tb] rfl (Nat.le_of_ble_eq_true rfl) hA hEs) d38_84 rfl rfl rfl rfl (by decide) pd11 rfl rfl rfl (W := 0) (Nat.le_of_ble_eq_true rfl) (by decide) (by decide) (by decide) (by decide) fun v108 h109 q110 => ?_
          obtain ⟨u, rfl, gu, Ku, Au⟩ := q110
          have z111 : Z.heap.size ≤ u := Nat.le_trans hle gu
          refine Go.astore 89 rfl d38_87 rfl (Ls' := #[.val (.ref a), .val (.ref m), .val (.ref s), .val (.int (0 : Int32)), .val (.int (4 : Int32)), .val (.int (0 : Int32)), .val (.ref u), .unset, .unset, .unset, .unset]) rfl ?_
          refine Go.iload 91 rfl d38_89 rfl ?_
          refine Go.istore 93 rfl d38_91 (Ls' := #[.val (.ref a), .val (.ref m), .val (.ref s), .val (.int (0 : Int32)), .val (.int (4 : Int32)), .val (.int (0 : Int32)), .val (.ref u), .val (.int (0 : Int32)), .unset, .unset, .unset]) rfl ?_
          refine Go.iload 95 rfl d38_93 rfl ?_
          refine Go.iload 97 rfl d38_95 rfl ?_
          refine Go.icmp_ge 190 100 d38_97 (by decide) rfl rfl (fun (b112 : ¬ (0 : Int32) < (4 : Int32)) => ?_) (fun (b112 : (0 : Int32) < (4 : Int32)) => ?_)
          · exact absurd (show (0 : Int32) < (4 : Int32) from (by decide)) b112
          · refine Go.aload 102 rfl d38_100 rfl rfl ?_
            refine Go.iload 104 rfl d38_102 rfl ?_
            refine Go.iinc 107 rfl (1 : Int32) d38_104 rfl rfl (Ls' := #[.val (.ref a), .val (.ref m), .val (.ref s), .val (.int (0 : Int32)), .val (.int (4 : Int32)), .val (.int (0 : Int32)), .val (.ref u), .val (.int ((0 : Int32) + (1 : Int32))), .unset, .unset, .unset]) rfl ?_
            refine Go.baload 108 rfl b0 d38_107 Au 0 rfl rfl ?_
            refine Go.istore 110 rfl d38_108 (Ls' := #[.val (.ref a), .val (.ref m), .val (.ref s), .val (.int (0 : Int32)), .val (.int (4 : Int32)), .val (.int (0 : Int32)), .val (.ref u), .val (.int ((0 : Int32) + (1 : Int32))), .val (.int b0), .unset, .unset]) rfl ?_
            refine Go.iload 112 rfl d38_110 rfl ?_
            refine Go.if_lt 129 115 d38_112 (by decide) rfl rfl (fun (b113 : b0 < 0) => ?_) (fun (b113 : ¬ b0 < 0) => ?_)
            · refine Go.iload 131 rfl d38_129 rfl ?_
              refine Go.sipush 134 rfl (254 : Int32) d38_131 rfl ?_
              refine Go.iand 135 rfl d38_134 ?_
              refine Go.sipush 138 rfl (194 : Int32) d38_135 rfl ?_
              refine Go.icmp_ne 184 141 d38_138 (by decide) rfl rfl (fun (b114 : ¬ (b0 &&& (254 : Int32)) = (194 : Int32)) => ?_) (fun (b114 : (b0 &&& (254 : Int32)) = (194 : Int32)) => ?_)
              · refine Go.iinc 187 rfl (-1 : Int32) d38_184 rfl rfl (Ls' := #[.val (.ref a), .val (.ref m), .val (.ref s), .val (.int (0 : Int32)), .val (.int (4 : Int32)), .val (.int (0 : Int32)), .val (.ref u), .val (.int (((0 : Int32) + (1 : Int32)) + (-1 : Int32))), .val (.int b0), .unset, .unset]) rfl ?_
                refine Go.goto 190 d38_187 (by decide) (by decide) ?_
                refine Go.iload 192 rfl d38_190 rfl ?_
                refine Go.iload 194 rfl d38_192 rfl ?_
                refine Go.icmp_ne 226 197 d38_194 (by decide) rfl rfl (fun (b115 : ¬ (((0 : Int32) + (1 : Int32)) + (-1 : Int32)) = (4 : Int32)) => ?_) (fun (b115 : (((0 : Int32) + (1 : Int32)) + (-1 : Int32)) = (4 : Int32)) => ?_)
                · refine Go.iload 228 rfl d38_226 rfl ?_
                  refine Go.callS 231 rfl (C := B18) [.int (4 : Int32)] (rest := []) 114 99 19 100 (c18n4 Z hw h109) d38_228 rfl rfl rfl rfl (by decide) pd18 rfl rfl rfl (W := 0) (Nat.le_of_ble_eq_true rfl) (by decide) (by decide) (by decide) (by decide) fun v116 h117 q118 => ?_
                  obtain ⟨t, rfl, gt, Kt, At⟩ := q118
                  have z119 : Z.heap.size ≤ t := Nat.le_trans (Nat.le_trans hle Ku.1) gt
                  refine Go.astore 233 rfl d38_231 rfl (Ls' := #[.val (.ref a), .val (.ref m), .val (.ref s), .val (.int (0 : Int32)), .val (.int (4 : Int32)), .val (.int (0 : Int32)), .val (.ref u), .val (.int (((0 : Int32) + (1 : Int32)) + (-1 : Int32))), .val (.ref t), .unset, .unset]) rfl ?_
                  refine Go.aload 235 rfl d38_233 rfl rfl ?_
                  refine Go.iconst 236 rfl (0 : Int32) d38_235 rfl ?_
                  refine Go.aload 238 rfl d38_236 rfl rfl ?_
                  refine Go.iconst 239 rfl (0 : Int32) d38_238 rfl ?_
                  refine Go.iload 241 rfl d38_239 rfl ?_
                  refine Go.callS 244 rfl (C := B22) [.ref u, .int (0 : Int32), .ref t, .int (0 : Int32), .int (0 : Int32)] (rest := []) 115 116 78 117 (c22 Z hw h117 u t (IL [0, 0, 0, 0, 0, 0, 0, 0]) (8 : Int32) (4 : Int32) rfl (by decide) At hfm (by decide) (by decide)) d38_241 rfl rfl rfl rfl (by decide) pd22 rfl rfl rfl (W := 0) (Nat.le_of_ble_eq_true rfl) (by decide) (by decide) (by decide) (by decide) fun v120 h121 q122 => ?_
                  obtain ⟨rfl, rfl⟩ := q122
                  refine Go.aload 246 rfl d38_244 rfl rfl ?_
                  refine Go.iload 248 rfl d38_246 rfl ?_
                  refine Go.eqI (w := 0) (by decide) ?_
                  refine Go.iload 250 rfl d38_248 rfl ?_
                  refine Go.aload 252 rfl d38_250 rfl rfl ?_
                  refine Go.iload 254 rfl d38_252 rfl ?_
                  refine Go.iconst 255 rfl (1 : Int32) d38_254 rfl ?_
                  have F123 : Ary Z h117 u .byte [.int b0, .int b1, .int b2, .int tb] := (Au.keep Kt nin0)
                  have ne124 : u ≠ t := (show @Ne Nat u t from by have := ltN Au.lt; have := gt; omega)
                  refine Go.callS 258 rfl (C := B28) [.ref u, .int (0 : Int32), .int (4 : Int32), .ref t, .int (0 : Int32), .int (1 : Int32)] (rest := []) 135 136 5 137 (c28C Z hw h117 u t y0 yt b0 b1 b2 tb  g0 g1 g2 g3 g4 g5 g6 g7 g8 ht hyt hAs hHi hLo F123 At z119 ne124) d38_255 rfl rfl rfl rfl (by decide) pd28 rfl rfl rfl (W := 0) (Nat.le_of_ble_eq_true rfl) (by decide) (by decide) (by decide) (by decide) fun v125 h126 q127 => ?_
                  obtain ⟨rfl, Kd, Ad⟩ := q127
                  refine Go.istore 260 rfl d38_258 (Ls' := #[.val (.ref a), .val (.ref m), .val (.ref s), .val (.int (0 : Int32)), .val (.int (4 : Int32)), .val (.int (2 : Int32)), .val (.ref u), .val (.int (((0 : Int32) + (1 : Int32)) + (-1 : Int32))), .val (.ref t), .unset, .unset]) rfl ?_
                  refine Go.iload 262 rfl d38_260 rfl ?_
                  refine Go.iload 264 rfl d38_262 rfl ?_
                  refine Go.icmp_eq 278 267 d38_264 (by decide) rfl rfl (fun (b128 : (2 : Int32) = (4 : Int32)) => ?_) (fun (b128 : ¬ (2 : Int32) = (4 : Int32)) => ?_)
                  · exact absurd b128 (show ¬ (2 : Int32) = (4 : Int32) from (by decide))
                  · refine Go.aload 269 rfl d38_267 rfl rfl ?_
                    refine Go.iload 271 rfl d38_269 rfl ?_
                    refine Go.iconst 272 rfl (1 : Int32) d38_271 rfl ?_
                    refine Go.ishl 273 rfl d38_272 ?_
                    refine Go.eqI (w := 4) (by decide) ?_
                    refine Go.callS 276 rfl (C := B15) [.ref t, .int (4 : Int32)] (rest := []) 83 84 60 85 (c15n4 Z hw h126 t [lo y0, hi y0, lo yt, hi yt, 0, 0, 0, 0] (8 : Int32) rfl (by decide) (by decide) (Nat.le_of_ble_eq_true rfl) Ad) d38_273 rfl rfl rfl rfl (by decide) pd15 rfl rfl rfl (W := 0) (Nat.le_of_ble_eq_true rfl) (by decide) (by decide) (by decide) (by decide) fun v129 h130 q131 => ?_
                    obtain ⟨t2, rfl, gt2, Kt2, At2⟩ := q131
                    have sz133 := (Nat.le_trans Ku.1 Kt.1)
                    have sz134 := (Nat.le_trans sz133 Kd.1)
                    have z132 : Z.heap.size ≤ t2 := Nat.le_trans (Nat.le_trans hle sz134) gt2
                    refine Go.astore 278 rfl d38_276 rfl (Ls' := #[.val (.ref a), .val (.ref m), .val (.ref s), .val (.int (0 : Int32)), .val (.int (4 : Int32)), .val (.int (2 : Int32)), .val (.ref u), .val (.int (((0 : Int32) + (1 : Int32)) + (-1 : Int32))), .val (.ref t2), .unset, .unset]) rfl ?_
                    refine Go.aloadN 279 rfl d38_278 rfl rfl ?_
                    refine Go.aload 281 rfl d38_279 rfl rfl ?_
                    have ne135 : a ≠ t := (show @Ne Nat a t from by have := ltN hE.lt; have := Ku.1; have := gt; omega)
                    have F136 : Fld Z h130 a "java/lang/String" "value" "[B" (.null) := ((((hV.keep Ku nin0).keep Kt nin0).keep Kd (ninS ne135 nin0)).keep Kt2 nin0)
                    have F137 : Exa Z h130 a "java/lang/String" := ((((hE.keep Ku).keep Kt).keep Kd).keep Kt2)
                    refine Go.putF 284 rfl (v' := .ref t2) (ty := (.array .byte)) 29 30 4 d38_281 rfl F136 F137 (Or.inr ⟨rfl, rfl, rfl⟩) rfl (by decide) rfl rfl hge fun h138 K139 W140 F141 => ?_
                    refine Go.aloadN 285 rfl d38_284 rfl rfl ?_
                    refine Go.iconst 286 rfl (1 : Int32) d38_285 rfl ?_
                    have F142 : Fld Z h138 a "java/lang/String" "coder" "B" (.int (0 : Int32)) := (Fld.oth hw ((((hC.keep Ku nin0).keep Kt nin0).keep Kd (ninS ne135 nin0)).keep Kt2 nin0) W140 28 30 (Or.inr rfl) (Or.inr rfl) (by decide) rfl rfl)
                    have F143 : Exa Z h138 a "java/lang/String" := (F137.keep K139)
                    refine Go.putF 289 rfl (v' := .int (1 : Int32)) (ty := .byte) 27 28 4 d38_286 rfl F142 F143 (Or.inr ⟨rfl, rfl, rfl⟩) rfl (by decide) rfl rfl hge fun h144 K145 W146 F147 => ?_
                    refine Go.goto 879 d38_289 (by decide) (by decide) ?_
                    have kc148 : Keep h0 h144 [a] := (((((((Keep.refl h0 [a]).trans Ku all0).trans Kt all0).trans Kd (allS (Or.inr (Nat.le_trans Ku.1 gt)) all0)).trans Kt2 all0).trans K139 (by simp)).trans K145 (by simp))
                    have F149 : Fld Z h144 a "java/lang/String" "value" "[B" (.ref t2) := (Fld.oth hw F141 W146 30 28 (Or.inr rfl) (Or.inr rfl) (by decide) rfl rfl)
                    have ne150 : t2 ≠ a := (show @Ne Nat t2 a from by have := ltN hE.lt; have := Ku.1; have := Kt.1; have := Kd.1; have := gt2; omega)
                    have F151 : Ary Z h144 t2 .byte (IL [lo y0, hi y0, lo yt, hi yt]) := ((At2.keep K139 (ninS ne150 nin0)).keep K145 (ninS ne150 nin0))
                    exact Go.retV d38_879 rfl (by decide) (by decide) ⟨rfl, t2, (by have := Ku.1; have := Kt.1; have := Kd.1; have := gt2; omega), kc148, F149, F147, F151⟩
                · exact absurd b115 (show ¬ (((0 : Int32) + (1 : Int32)) + (-1 : Int32)) = (4 : Int32) from (by decide))
              · exact absurd b114 (show ¬ (b0 &&& (254 : Int32)) = (194 : Int32) from g1)
            · exact absurd (show b0 < 0 from g0) b113
        · exact absurd b107 (show ¬ (0 : Int32) = (4 : Int32) from (by decide))
  · exact absurd b101 (show ¬ (4 : Int32) = 0 from (by decide))
theorem ef8C (mid : MethodId) (a : Addr) (s : Addr) (m : Addr) : entryFrame mid (List.toArray [.ref a, .ref s, .ref m]) 3 = mkF mid 0 #[.val (.ref a), .val (.ref s), .val (.ref m)] [] := by first | (simp [entryFrame, mkF, argsToLocals, Value.category]; done) | rfl
def Q8C (Z : State) (a : Addr) (b0 : Int32) (b1 : Int32) (b2 : Int32) (tb : Int32) (y0 : Int32) (yt : Int32) (h0 : Heap) (v : Option Value) (h : Heap) : Prop := v = none ∧ ∃ t, h0.size ≤ t ∧ Keep h0 h [a] ∧ Fld Z h a "java/lang/String" "value" "[B" (.ref t) ∧ Fld Z h a "java/lang/String" "coder" "B" (.int 1) ∧ Ary Z h t .byte (IL [lo y0, hi y0, lo yt, hi yt])
set_option maxRecDepth 65536 in
set_option maxHeartbeats 40000000 in
theorem c8C (Z : State) (hw : Wd Z tables_1) (h0 : Heap) (a : Addr) (s : Addr) (m : Addr) (b0 : Int32) (b1 : Int32) (b2 : Int32) (tb : Int32) (y0 : Int32) (yt : Int32) (g0 : b0 < 0) (g1 : ¬ (b0 &&& (254 : Int32)) = (194 : Int32)) (g2 : ¬ (b0 >>> ((5 : Int32) &&& 31)) = (-2 : Int32)) (g3 : (b0 >>> ((4 : Int32) &&& 31)) = (-2 : Int32)) (g4 : b0 = (-32 : Int32) → ¬ (b1 &&& (224 : Int32)) = (128 : Int32)) (g5 : (b1 &&& (192 : Int32)) = (128 : Int32)) (g6 : (b2 &&& (192 : Int32)) = (128 : Int32)) (g7 : (((b0 <<< ((12 : Int32) &&& 31)) ^^^ (b1 <<< ((6 : Int32) &&& 31))) ^^^ (b2 ^^^ (-123008 : Int32))).toUInt32.toUInt16.toUInt32.toInt32 = y0) (g8 : y0 < (55296 : Int32) ∨ ¬ y0 < (57344 : Int32)) (ht : ¬ tb < 0) (hyt : tb.toUInt32.toUInt16.toUInt32.toInt32 = yt) (cs : Int32) (hS : Sta Z Z.heap "java/lang/String" "COMPACT_STRINGS" "Z" (.int cs)) (hcs : ¬ cs = 0) (hAs : Sta Z Z.heap "java/lang/StringUTF16" "$assertionsDisabled" "Z" (.int 1)) (hHi : Sta Z Z.heap "java/lang/StringUTF16" "HI_BYTE_SHIFT" "I" (.int 0)) (hLo : Sta Z Z.heap "java/lang/StringUTF16" "LO_BYTE_SHIFT" "I" (.int 8)) (hfm : (Sta Z Z.heap "jdk/internal/util/Preconditions" "SIOOBE_FORMATTER" "Ljava/util/function/BiFunction;" .null) ∨ ∃ m, Sta Z Z.heap "jdk/internal/util/Preconditions" "SIOOBE_FORMATTER" "Ljava/util/function/BiFunction;" (.ref m)) (hU : Sta Z Z.heap "sun/nio/cs/UTF_8" "INSTANCE" "Lsun/nio/cs/UTF_8;" (.ref m)) (hge : Z.heap.size ≤ a) (hE : Exa Z h0 a "java/lang/String") (hV : Fld Z h0 a "java/lang/String" "value" "[B" .null) (hC : Fld Z h0 a "java/lang/String" "coder" "B" (.int 0)) (hA : Ary Z h0 s .byte [.int b0, .int b1, .int b2, .int tb]) (hEs : Exa Z h0 s "[B") (hM : Exa Z h0 m "sun/nio/cs/UTF_8") : Con Z B8 (List.toArray [.ref a, .ref s, .ref m]) h0 (Q8C Z a b0 b1 b2 tb y0 yt h0) := by
  refine Con.mk hw pn8 (fun mid => ef8C mid a s m) (Go.old fun hle' => ?_)
  have hle := hle'.1
  refine Go.aloadN 1 rfl d8_0 rfl rfl ?_
  refine Go.aloadN 2 rfl d8_1 rfl rfl ?_
  refine Go.callS 5 rfl (C := B9) [.ref m] (rest := [.ref a]) 43 44 45 46 (c9 Z hw h0 m) d8_2 rfl rfl rfl rfl (by decide) pd9 rfl rfl rfl (W := 1) (Nat.le_of_ble_eq_true rfl) (by decide) (by decide) (by decide) (by decide) fun v101 h102 q103 => ?_
  obtain ⟨rfl, rfl⟩ := q103
  refine Go.castY 8 rfl 47 d8_5 rfl (own_ins hw 48 rfl hM) ?_
  refine Go.aloadN 9 rfl d8_8 rfl rfl ?_
  refine Go.iconst 10 rfl (0 : Int32) d8_9 rfl ?_
  refine Go.aloadN 11 rfl d8_10 rfl rfl ?_
  refine Go.alen 12 rfl (4 : Int32) d8_11 hA rfl ?_
  refine Go.callIW 15 rfl (C := B38) a [.ref m, .ref s, .int (0 : Int32), .int (4 : Int32)] (rest := []) 49 50 5 51 (c38C Z hw h0 a m s b0 b1 b2 tb y0 yt g0 g1 g2 g3 g4 g5 g6 g7 g8 ht hyt cs hS hcs hAs hHi hLo hfm hU hge hE hV hC hA hEs) d8_12 rfl rfl rfl rfl rfl rfl (by decide) pd38 rfl rfl rfl (W := 0) (Nat.le_of_ble_eq_true rfl) (by decide) (by decide) (by decide) (by decide) fun v104 h105 q106 => ?_
  obtain ⟨rfl, t, g, K, F1, F2, A⟩ := q106
  exact Go.retV d8_15 rfl (by decide) (by decide) ⟨rfl, t, g, K, F1, F2, A⟩
theorem ef7C (mid : MethodId) (s : Addr) : entryFrame mid (List.toArray [.ref s]) 1 = mkF mid 0 #[.val (.ref s)] [] := by first | (simp [entryFrame, mkF, argsToLocals, Value.category]; done) | rfl
def Q7C (Z : State) (b0 : Int32) (b1 : Int32) (b2 : Int32) (tb : Int32) (y0 : Int32) (yt : Int32) (h0 : Heap) (v : Option Value) (h : Heap) : Prop := ∃ a t, v = some (.ref a) ∧ h0.size ≤ a ∧ h0.size ≤ t ∧ Keep h0 h [] ∧ Exa Z h a "java/lang/String" ∧ Fld Z h a "java/lang/String" "value" "[B" (.ref t) ∧ Fld Z h a "java/lang/String" "coder" "B" (.int 1) ∧ Ary Z h t .byte (IL [lo y0, hi y0, lo yt, hi yt])
set_option maxRecDepth 65536 in
set_option maxHeartbeats 40000000 in
theorem c7C (Z : State) (hw : Wd Z tables_1) (h0 : Heap) (s : Addr) (b0 : Int32) (b1 : Int32) (b2 : Int32) (tb : Int32) (y0 : Int32) (yt : Int32) (g0 : b0 < 0) (g1 : ¬ (b0 &&& (254 : Int32)) = (194 : Int32)) (g2 : ¬ (b0 >>> ((5 : Int32) &&& 31)) = (-2 : Int32)) (g3 : (b0 >>> ((4 : Int32) &&& 31)) = (-2 : Int32)) (g4 : b0 = (-32 : Int32) → ¬ (b1 &&& (224 : Int32)) = (128 : Int32)) (g5 : (b1 &&& (192 : Int32)) = (128 : Int32)) (g6 : (b2 &&& (192 : Int32)) = (128 : Int32)) (g7 : (((b0 <<< ((12 : Int32) &&& 31)) ^^^ (b1 <<< ((6 : Int32) &&& 31))) ^^^ (b2 ^^^ (-123008 : Int32))).toUInt32.toUInt16.toUInt32.toInt32 = y0) (g8 : y0 < (55296 : Int32) ∨ ¬ y0 < (57344 : Int32)) (ht : ¬ tb < 0) (hyt : tb.toUInt32.toUInt16.toUInt32.toInt32 = yt) (cs : Int32) (hS : Sta Z Z.heap "java/lang/String" "COMPACT_STRINGS" "Z" (.int cs)) (hcs : ¬ cs = 0) (hAs : Sta Z Z.heap "java/lang/StringUTF16" "$assertionsDisabled" "Z" (.int 1)) (hHi : Sta Z Z.heap "java/lang/StringUTF16" "HI_BYTE_SHIFT" "I" (.int 0)) (hLo : Sta Z Z.heap "java/lang/StringUTF16" "LO_BYTE_SHIFT" "I" (.int 8)) (hfm : (Sta Z Z.heap "jdk/internal/util/Preconditions" "SIOOBE_FORMATTER" "Ljava/util/function/BiFunction;" .null) ∨ ∃ m, Sta Z Z.heap "jdk/internal/util/Preconditions" "SIOOBE_FORMATTER" "Ljava/util/function/BiFunction;" (.ref m)) (m : Addr) (hU : Sta Z Z.heap "sun/nio/cs/UTF_8" "INSTANCE" "Lsun/nio/cs/UTF_8;" (.ref m)) (hU8 : Sta Z Z.heap "java/nio/charset/StandardCharsets" "UTF_8" "Ljava/nio/charset/Charset;" (.ref m)) (hA : Ary Z h0 s .byte [.int b0, .int b1, .int b2, .int tb]) (hEs : Exa Z h0 s "[B") (hM : Exa Z h0 m "sun/nio/cs/UTF_8") : Con Z B7 (List.toArray [.ref s]) h0 (Q7C Z b0 b1 b2 tb y0 yt h0) := by
  refine Con.mk hw pn7 (fun mid => ef7C mid s) (Go.old fun hle' => ?_)
  have hle := hle'.1
  refine Go.newO 3 rfl 35 4 5 d7_0 rfl rfl rfl (by decide) (by decide) fun h102 a101 g103 z104 K105 E106 D107 => ?_
  refine Go.dup 4 rfl d7_3 rfl ?_
  refine Go.aloadN 5 rfl d7_4 rfl rfl ?_
  have F108 : Exa Z h102 s "[B" := (hEs.keep K105)
  refine Go.castY 8 rfl 36 d7_5 rfl (Ins.self F108) ?_
  refine Go.getS 11 rfl (v := .ref m) 38 d7_8 rfl hU8 ?_
  have F109 : Ary Z h102 s .byte [.int b0, .int b1, .int b2, .int tb] := (hA.keep K105 nin0)
  have F110 : Exa Z h102 m "sun/nio/cs/UTF_8" := (hM.keep K105)
  refine Go.callI 14 rfl (C := B8) a101 [.ref s, .ref m] (rest := [.ref a101]) 40 41 5 42 (c8C Z hw h102 a101 s m b0 b1 b2 tb y0 yt g0 g1 g2 g3 g4 g5 g6 g7 g8 ht hyt cs hS hcs hAs hHi hLo hfm hU z104 E106 (D107 30 (Or.inr rfl) (ty := (.array .byte)) (by decide) : Fld Z h102 a101 "java/lang/String" "value" "[B" (.null)) (D107 28 (Or.inr rfl) (ty := .byte) (by decide) : Fld Z h102 a101 "java/lang/String" "coder" "B" (.int (0 : Int32))) F109 F108 F110) d7_11 rfl rfl rfl rfl rfl rfl (by decide) pd8 rfl rfl rfl (W := 1) (Nat.le_of_ble_eq_true rfl) (by decide) (by decide) (by decide) (by decide) fun v111 h112 q113 => ?_
  obtain ⟨rfl, t, g, K, F1, F2, A⟩ := q113
  have F114 : Exa Z h112 a101 "java/lang/String" := (E106.keep K)
  exact Go.retA d7_14 rfl rfl rfl (by decide) (by decide) ⟨a101, t, rfl, Nat.le_of_eq g103.symm, (by have := K105.1; omega), (((Keep.refl h0 []).trans K105 all0).trans K (allS (Or.inr (Nat.le_of_eq g103.symm)) all0)), F114, F1, F2, A⟩
theorem ef38B (mid : MethodId) (a : Addr) (m : Addr) (s : Addr) : entryFrame mid (List.toArray [.ref a, .ref m, .ref s, .int (0 : Int32), .int (3 : Int32)]) 11 = mkF mid 0 #[.val (.ref a), .val (.ref m), .val (.ref s), .val (.int (0 : Int32)), .val (.int (3 : Int32)), .unset, .unset, .unset, .unset, .unset, .unset] [] := by first | (simp [entryFrame, mkF, argsToLocals, Value.category]; done) | rfl
def Q38B (Z : State) (a : Addr) (b0 : Int32) (b1 : Int32) (tb : Int32) (y0 : Int32) (yt : Int32) (h0 : Heap) (v : Option Value) (h : Heap) : Prop := v = none ∧ ∃ t, h0.size ≤ t ∧ Keep h0 h [a] ∧ Fld Z h a "java/lang/String" "value" "[B" (.ref t) ∧ Fld Z h a "java/lang/String" "coder" "B" (.int 1) ∧ Ary Z h t .byte (IL [lo y0, hi y0, lo yt, hi yt])
set_option maxRecDepth 65536 in
set_option maxHeartbeats 40000000 in
theorem c38B (Z : State) (hw : Wd Z tables_1) (h0 : Heap) (a : Addr) (m : Addr) (s : Addr) (b0 : Int32) (b1 : Int32) (tb : Int32) (y0 : Int32) (yt : Int32) (g0 : b0 < 0) (g1 : ¬ (b0 &&& (254 : Int32)) = (194 : Int32)) (g2 : (b0 >>> ((5 : Int32) &&& 31)) = (-2 : Int32)) (g3 : ¬ (b0 &&& (30 : Int32)) = 0) (g4 : (b1 &&& (192 : Int32)) = (128 : Int32)) (g5 : ((b0 <<< ((6 : Int32) &&& 31)) ^^^ b1 ^^^ (3968 : Int32)).toUInt32.toUInt16.toUInt32.toInt32 = y0) (ht : ¬ tb < 0) (hyt : tb.toUInt32.toUInt16.toUInt32.toInt32 = yt) (cs : Int32) (hS : Sta Z Z.heap "java/lang/String" "COMPACT_STRINGS" "Z" (.int cs)) (hcs : ¬ cs = 0) (hAs : Sta Z Z.heap "java/lang/StringUTF16" "$assertionsDisabled" "Z" (.int 1)) (hHi : Sta Z Z.heap "java/lang/StringUTF16" "HI_BYTE_SHIFT" "I" (.int 0)) (hLo : Sta Z Z.heap "java/lang/StringUTF16" "LO_BYTE_SHIFT" "I" (.int 8)) (hfm : (Sta Z Z.heap "jdk/internal/util/Preconditions" "SIOOBE_FORMATTER" "Ljava/util/function/BiFunction;" .null) ∨ ∃ m, Sta Z Z.heap "jdk/internal/util/Preconditions" "SIOOBE_FORMATTER" "Ljava/util/function/BiFunction;" (.ref m)) (hU : Sta Z Z.heap "sun/nio/cs/UTF_8" "INSTANCE" "Lsun/nio/cs/UTF_8;" (.ref m)) (hge : Z.heap.size ≤ a) (hE : Exa Z h0 a "java/lang/String") (hV : Fld Z h0 a "java/lang/String" "value" "[B" .null) (hC : Fld Z h0 a "java/lang/String" "coder" "B" (.int 0)) (hA : Ary Z h0 s .byte [.int b0, .int b1, .int tb]) (hEs : Exa Z h0 s "[B") : ConW [(800, 813, 816, 202)] Z B38 (List.toArray [.ref a, .ref m, .ref s, .int (0 : Int32), .int (3 : Int32)]) h0 (Q38B Z a b0 b1 tb y0 yt h0) := by
  refine ConW.mk hw pn38 (fun mid => ef38B mid a m s) (Go.old fun hle' => ?_)
  have hle := hle'.1
  refine Go.aloadN 1 rfl d38_0 rfl rfl ?_
  refine Go.initO 4 rfl 13 14 15 d38_1 rfl rfl rfl rfl (by decide) (W := 0) (Nat.le_of_ble_eq_true rfl) (by decide) ?_
  refine Go.iload 6 rfl d38_4 rfl ?_
  refine Go.if_ne 30 9 d38_6 (by decide) rfl rfl (fun (b101 : ¬ (3 : Int32) = 0) => ?_) (fun (b101 : (3 : Int32) = 0) => ?_)
  · refine Go.aloadN 31 rfl d38_30 rfl rfl ?_
    refine Go.getS 34 rfl (v := .ref m) 52 d38_31 rfl hU ?_
    refine Go.acmp_ne 346 37 d38_34 (by decide) rfl rfl rfl rfl (fun (b102 : ¬ (.ref m : Value) = .ref m) => ?_) (fun (b102 : (.ref m : Value) = .ref m) => ?_)
    · exact absurd (show (.ref m : Value) = .ref m from rfl) b102
    · refine Go.getS 40 rfl (v := .int cs) 16 d38_37 rfl hS ?_
      refine Go.if_eq 292 43 d38_40 (by decide) rfl rfl (fun (b103 : cs = 0) => ?_) (fun (b103 : ¬ cs = 0) => ?_)
      · exact absurd b103 (show ¬ cs = 0 from hcs)
      · refine Go.aloadN 44 rfl d38_43 rfl rfl ?_
        refine Go.iloadN 45 rfl d38_44 rfl ?_
        refine Go.iload 47 rfl d38_45 rfl ?_
        refine Go.callS 50 rfl (C := B10) [.ref s, .int (0 : Int32), .int (3 : Int32)] (rest := []) 54 55 56 57 (c10n3 Z hw h0 s b0 b1 tb g0 ht hA) d38_47 rfl rfl rfl rfl (by decide) pd10 rfl rfl rfl (W := 0) (Nat.le_of_ble_eq_true rfl) (by decide) (by decide) (by decide) (by decide) fun v104 h105 q106 => ?_
        obtain ⟨rfl, rfl⟩ := q106
        refine Go.istore 52 rfl d38_50 (Ls' := #[.val (.ref a), .val (.ref m), .val (.ref s), .val (.int (0 : Int32)), .val (.int (3 : Int32)), .val (.int (0 : Int32)), .unset, .unset, .unset, .unset, .unset]) rfl ?_
        refine Go.iload 54 rfl d38_52 rfl ?_
        refine Go.iload 56 rfl d38_54 rfl ?_
        refine Go.icmp_ne 78 59 d38_56 (by decide) rfl rfl (fun (b107 : ¬ (0 : Int32) = (3 : Int32)) => ?_) (fun (b107 : (0 : Int32) = (3 : Int32)) => ?_)
        · refine Go.aloadN 79 rfl d38_78 rfl rfl ?_
          refine Go.iloadN 80 rfl d38_79 rfl ?_
          refine Go.iloadN 81 rfl d38_80 rfl ?_
          refine Go.iload 83 rfl d38_81 rfl ?_
          refine Go.iadd 84 rfl d38_83 ?_
          refine Go.eqI (w := 3) (by decide) ?_
          refine Go.callS 87 rfl (C := B11) [.ref s, .int (0 : Int32), .int (3 : Int32)] (rest := []) 58 59 60 61 (c11 Z hw h0 s (3 : Int32) [.int b0, .int b1, .int tb] rfl (Nat.le_of_ble_eq_true rfl) hA hEs) d38_84 rfl rfl rfl rfl (by decide) pd11 rfl rfl rfl (W := 0) (Nat.le_of_ble_eq_true rfl) (by decide) (by decide) (by decide) (by decide) fun v108 h109 q110 => ?_
          obtain ⟨u, rfl, gu, Ku, Au⟩ := q110
          have z111 : Z.heap.size ≤ u := Nat.le_trans hle gu
          refine Go.astore 89 rfl d38_87 rfl (Ls' := #[.val (.ref a), .val (.ref m), .val (.ref s), .val (.int (0 : Int32)), .val (.int (3 : Int32)), .val (.int (0 : Int32)), .val (.ref u), .unset, .unset, .unset, .unset]) rfl ?_
          refine Go.iload 91 rfl d38_89 rfl ?_
          refine Go.istore 93 rfl d38_91 (Ls' := #[.val (.ref a), .val (.ref m), .val (.ref s), .val (.int (0 : Int32)), .val (.int (3 : Int32)), .val (.int (0 : Int32)), .val (.ref u), .val (.int (0 : Int32)), .unset, .unset, .unset]) rfl ?_
          refine Go.iload 95 rfl d38_93 rfl ?_
          refine Go.iload 97 rfl d38_95 rfl ?_
          refine Go.icmp_ge 190 100 d38_97 (by decide) rfl rfl (fun (b112 : ¬ (0 : Int32) < (3 : Int32)) => ?_) (fun (b112 : (0 : Int32) < (3 : Int32)) => ?_)
          · exact absurd (show (0 : Int32) < (3 : Int32) from (by decide)) b112
          · refine Go.aload 102 rfl d38_100 rfl rfl ?_
            refine Go.iload 104 rfl d38_102 rfl ?_
            refine Go.iinc 107 rfl (1 : Int32) d38_104 rfl rfl (Ls' := #[.val (.ref a), .val (.ref m), .val (.ref s), .val (.int (0 : Int32)), .val (.int (3 : Int32)), .val (.int (0 : Int32)), .val (.ref u), .val (.int ((0 : Int32) + (1 : Int32))), .unset, .unset, .unset]) rfl ?_
            refine Go.baload 108 rfl b0 d38_107 Au 0 rfl rfl ?_
            refine Go.istore 110 rfl d38_108 (Ls' := #[.val (.ref a), .val (.ref m), .val (.ref s), .val (.int (0 : Int32)), .val (.int (3 : Int32)), .val (.int (0 : Int32)), .val (.ref u), .val (.int ((0 : Int32) + (1 : Int32))), .val (.int b0), .unset, .unset]) rfl ?_
            refine Go.iload 112 rfl d38_110 rfl ?_
            refine Go.if_lt 129 115 d38_112 (by decide) rfl rfl (fun (b113 : b0 < 0) => ?_) (fun (b113 : ¬ b0 < 0) => ?_)
            · refine Go.iload 131 rfl d38_129 rfl ?_
              refine Go.sipush 134 rfl (254 : Int32) d38_131 rfl ?_
              refine Go.iand 135 rfl d38_134 ?_
              refine Go.sipush 138 rfl (194 : Int32) d38_135 rfl ?_
              refine Go.icmp_ne 184 141 d38_138 (by decide) rfl rfl (fun (b114 : ¬ (b0 &&& (254 : Int32)) = (194 : Int32)) => ?_) (fun (b114 : (b0 &&& (254 : Int32)) = (194 : Int32)) => ?_)
              · refine Go.iinc 187 rfl (-1 : Int32) d38_184 rfl rfl (Ls' := #[.val (.ref a), .val (.ref m), .val (.ref s), .val (.int (0 : Int32)), .val (.int (3 : Int32)), .val (.int (0 : Int32)), .val (.ref u), .val (.int (((0 : Int32) + (1 : Int32)) + (-1 : Int32))), .val (.int b0), .unset, .unset]) rfl ?_
                refine Go.goto 190 d38_187 (by decide) (by decide) ?_
                refine Go.iload 192 rfl d38_190 rfl ?_
                refine Go.iload 194 rfl d38_192 rfl ?_
                refine Go.icmp_ne 226 197 d38_194 (by decide) rfl rfl (fun (b115 : ¬ (((0 : Int32) + (1 : Int32)) + (-1 : Int32)) = (3 : Int32)) => ?_) (fun (b115 : (((0 : Int32) + (1 : Int32)) + (-1 : Int32)) = (3 : Int32)) => ?_)
                · refine Go.iload 228 rfl d38_226 rfl ?_
                  refine Go.callS 231 rfl (C := B18) [.int (3 : Int32)] (rest := []) 114 99 19 100 (c18n3 Z hw h109) d38_228 rfl rfl rfl rfl (by decide) pd18 rfl rfl rfl (W := 0) (Nat.le_of_ble_eq_true rfl) (by decide) (by decide) (by decide) (by decide) fun v116 h117 q118 => ?_
                  obtain ⟨t, rfl, gt, Kt, At⟩ := q118
                  have z119 : Z.heap.size ≤ t := Nat.le_trans (Nat.le_trans hle Ku.1) gt
                  refine Go.astore 233 rfl d38_231 rfl (Ls' := #[.val (.ref a), .val (.ref m), .val (.ref s), .val (.int (0 : Int32)), .val (.int (3 : Int32)), .val (.int (0 : Int32)), .val (.ref u), .val (.int (((0 : Int32) + (1 : Int32)) + (-1 : Int32))), .val (.ref t), .unset, .unset]) rfl ?_
                  refine Go.aload 235 rfl d38_233 rfl rfl ?_
                  refine Go.iconst 236 rfl (0 : Int32) d38_235 rfl ?_
                  refine Go.aload 238 rfl d38_236 rfl rfl ?_
                  refine Go.iconst 239 rfl (0 : Int32) d38_238 rfl ?_
                  refine Go.iload 241 rfl d38_239 rfl ?_
                  refine Go.callS 244 rfl (C := B22) [.ref u, .int (0 : Int32), .ref t, .int (0 : Int32), .int (0 : Int32)] (rest := []) 115 116 78 117 (c22 Z hw h117 u t (IL [0, 0, 0, 0, 0, 0]) (6 : Int32) (3 : Int32) rfl (by decide) At hfm (by decide) (by decide)) d38_241 rfl rfl rfl rfl (by decide) pd22 rfl rfl rfl (W := 0) (Nat.le_of_ble_eq_true rfl) (by decide) (by decide) (by decide) (by decide) fun v120 h121 q122 => ?_
                  obtain ⟨rfl, rfl⟩ := q122
                  refine Go.aload 246 rfl d38_244 rfl rfl ?_
                  refine Go.iload 248 rfl d38_246 rfl ?_
                  refine Go.eqI (w := 0) (by decide) ?_
                  refine Go.iload 250 rfl d38_248 rfl ?_
                  refine Go.aload 252 rfl d38_250 rfl rfl ?_
                  refine Go.iload 254 rfl d38_252 rfl ?_
                  refine Go.iconst 255 rfl (1 : Int32) d38_254 rfl ?_
                  have F123 : Ary Z h117 u .byte [.int b0, .int b1, .int tb] := (Au.keep Kt nin0)
                  have ne124 : u ≠ t := (show @Ne Nat u t from by have := ltN Au.lt; have := gt; omega)
                  refine Go.callS 258 rfl (C := B28) [.ref u, .int (0 : Int32), .int (3 : Int32), .ref t, .int (0 : Int32), .int (1 : Int32)] (rest := []) 135 136 5 137 (c28B Z hw h117 u t y0 yt b0 b1 tb  g0 g1 g2 g3 g4 g5 ht hyt hAs hHi hLo F123 At z119 ne124) d38_255 rfl rfl rfl rfl (by decide) pd28 rfl rfl rfl (W := 0) (Nat.le_of_ble_eq_true rfl) (by decide) (by decide) (by decide) (by decide) fun v125 h126 q127 => ?_
                  obtain ⟨rfl, Kd, Ad⟩ := q127
                  refine Go.istore 260 rfl d38_258 (Ls' := #[.val (.ref a), .val (.ref m), .val (.ref s), .val (.int (0 : Int32)), .val (.int (3 : Int32)), .val (.int (2 : Int32)), .val (.ref u), .val (.int (((0 : Int32) + (1 : Int32)) + (-1 : Int32))), .val (.ref t), .unset, .unset]) rfl ?_
                  refine Go.iload 262 rfl d38_260 rfl ?_
                  refine Go.iload 264 rfl d38_262 rfl ?_
                  refine Go.icmp_eq 278 267 d38_264 (by decide) rfl rfl (fun (b128 : (2 : Int32) = (3 : Int32)) => ?_) (fun (b128 : ¬ (2 : Int32) = (3 : Int32)) => ?_)
                  · exact absurd b128 (show ¬ (2 : Int32) = (3 : Int32) from (by decide))
                  · refine Go.aload 269 rfl d38_267 rfl rfl ?_
                    refine Go.iload 271 rfl d38_269 rfl ?_
                    refine Go.iconst 272 rfl (1 : Int32) d38_271 rfl ?_
                    refine Go.ishl 273 rfl d38_272 ?_
                    refine Go.eqI (w := 4) (by decide) ?_
                    refine Go.callS 276 rfl (C := B15) [.ref t, .int (4 : Int32)] (rest := []) 83 84 60 85 (c15n4 Z hw h126 t [lo y0, hi y0, lo yt, hi yt, 0, 0] (6 : Int32) rfl (by decide) (by decide) (Nat.le_of_ble_eq_true rfl) Ad) d38_273 rfl rfl rfl rfl (by decide) pd15 rfl rfl rfl (W := 0) (Nat.le_of_ble_eq_true rfl) (by decide) (by decide) (by decide) (by decide) fun v129 h130 q131 => ?_
                    obtain ⟨t2, rfl, gt2, Kt2, At2⟩ := q131
                    have sz133 := (Nat.le_trans Ku.1 Kt.1)
                    have sz134 := (Nat.le_trans sz133 Kd.1)
                    have z132 : Z.heap.size ≤ t2 := Nat.le_trans (Nat.le_trans hle sz134) gt2
                    refine Go.astore 278 rfl d38_276 rfl (Ls' := #[.val (.ref a), .val (.ref m), .val (.ref s), .val (.int (0 : Int32)), .val (.int (3 : Int32)), .val (.int (2 : Int32)), .val (.ref u), .val (.int (((0 : Int32) + (1 : Int32)) + (-1 : Int32))), .val (.ref t2), .unset, .unset]) rfl ?_
                    refine Go.aloadN 279 rfl d38_278 rfl rfl ?_
                    refine Go.aload 281 rfl d38_279 rfl rfl ?_
                    have ne135 : a ≠ t := (show @Ne Nat a t from by have := ltN hE.lt; have := Ku.1; have := gt; omega)
                    have F136 : Fld Z h130 a "java/lang/String" "value" "[B" (.null) := ((((hV.keep Ku nin0).keep Kt nin0).keep Kd (ninS ne135 nin0)).keep Kt2 nin0)
                    have F137 : Exa Z h130 a "java/lang/String" := ((((hE.keep Ku).keep Kt).keep Kd).keep Kt2)
                    refine Go.putF 284 rfl (v' := .ref t2) (ty := (.array .byte)) 29 30 4 d38_281 rfl F136 F137 (Or.inr ⟨rfl, rfl, rfl⟩) rfl (by decide) rfl rfl hge fun h138 K139 W140 F141 => ?_
                    refine Go.aloadN 285 rfl d38_284 rfl rfl ?_
                    refine Go.iconst 286 rfl (1 : Int32) d38_285 rfl ?_
                    have F142 : Fld Z h138 a "java/lang/String" "coder" "B" (.int (0 : Int32)) := (Fld.oth hw ((((hC.keep Ku nin0).keep Kt nin0).keep Kd (ninS ne135 nin0)).keep Kt2 nin0) W140 28 30 (Or.inr rfl) (Or.inr rfl) (by decide) rfl rfl)
                    have F143 : Exa Z h138 a "java/lang/String" := (F137.keep K139)
                    refine Go.putF 289 rfl (v' := .int (1 : Int32)) (ty := .byte) 27 28 4 d38_286 rfl F142 F143 (Or.inr ⟨rfl, rfl, rfl⟩) rfl (by decide) rfl rfl hge fun h144 K145 W146 F147 => ?_
                    refine Go.goto 879 d38_289 (by decide) (by decide) ?_
                    have kc148 : Keep h0 h144 [a] := (((((((Keep.refl h0 [a]).trans Ku all0).trans Kt all0).trans Kd (allS (Or.inr (Nat.le_trans Ku.1 gt)) all0)).trans Kt2 all0).trans K139 (by simp)).trans K145 (by simp))
                    have F149 : Fld Z h144 a "java/lang/String" "value" "[B" (.ref t2) := (Fld.oth hw F141 W146 30 28 (Or.inr rfl) (Or.inr rfl) (by decide) rfl rfl)
                    have ne150 : t2 ≠ a := (show @Ne Nat t2 a from by have := ltN hE.lt; have := Ku.1; have := Kt.1; have := Kd.1; have := gt2; omega)
                    have F151 : Ary Z h144 t2 .byte (IL [lo y0, hi y0, lo yt, hi yt]) := ((At2.keep K139 (ninS ne150 nin0)).keep K145 (ninS ne150 nin0))
                    exact Go.retV d38_879 rfl (by decide) (by decide) ⟨rfl, t2, (by have := Ku.1; have := Kt.1; have := Kd.1; have := gt2; omega), kc148, F149, F147, F151⟩
                · exact absurd b115 (show ¬ (((0 : Int32) + (1 : Int32)) + (-1 : Int32)) = (3 : Int32) from (by decide))
              · exact absurd b114 (show ¬ (b0 &&& (254 : Int32)) = (194 : Int32) from g1)
            · exact absurd (show b0 < 0 from g0) b113
        · exact absurd b107 (show ¬ (0 : Int32) = (3 : Int32) from (by decide))
  · exact absurd b101 (show ¬ (3 : Int32) = 0 from (by decide))
theorem ef8B (mid : MethodId) (a : Addr) (s : Addr) (m : Addr) : entryFrame mid (List.toArray [.ref a, .ref s, .ref m]) 3 = mkF mid 0 #[.val (.ref a), .val (.ref s), .val (.ref m)] [] := by first | (simp [entryFrame, mkF, argsToLocals, Value.category]; done) | rfl
def Q8B (Z : State) (a : Addr) (b0 : Int32) (b1 : Int32) (tb : Int32) (y0 : Int32) (yt : Int32) (h0 : Heap) (v : Option Value) (h : Heap) : Prop := v = none ∧ ∃ t, h0.size ≤ t ∧ Keep h0 h [a] ∧ Fld Z h a "java/lang/String" "value" "[B" (.ref t) ∧ Fld Z h a "java/lang/String" "coder" "B" (.int 1) ∧ Ary Z h t .byte (IL [lo y0, hi y0, lo yt, hi yt])
set_option maxRecDepth 65536 in
set_option maxHeartbeats 40000000 in
theorem c8B (Z : State) (hw : Wd Z tables_1) (h0 : Heap) (a : Addr) (s : Addr) (m : Addr) (b0 : Int32) (b1 : Int32) (tb : Int32) (y0 : Int32) (yt : Int32) (g0 : b0 < 0) (g1 : ¬ (b0 &&& (254 : Int32)) = (194 : Int32)) (g2 : (b0 >>> ((5 : Int32) &&& 31)) = (-2 : Int32)) (g3 : ¬ (b0 &&& (30 : Int32)) = 0) (g4 : (b1 &&& (192 : Int32)) = (128 : Int32)) (g5 : ((b0 <<< ((6 : Int32) &&& 31)) ^^^ b1 ^^^ (3968 : Int32)).toUInt32.toUInt16.toUInt32.toInt32 = y0) (ht : ¬ tb < 0) (hyt : tb.toUInt32.toUInt16.toUInt32.toInt32 = yt) (cs : Int32) (hS : Sta Z Z.heap "java/lang/String" "COMPACT_STRINGS" "Z" (.int cs)) (hcs : ¬ cs = 0) (hAs : Sta Z Z.heap "java/lang/StringUTF16" "$assertionsDisabled" "Z" (.int 1)) (hHi : Sta Z Z.heap "java/lang/StringUTF16" "HI_BYTE_SHIFT" "I" (.int 0)) (hLo : Sta Z Z.heap "java/lang/StringUTF16" "LO_BYTE_SHIFT" "I" (.int 8)) (hfm : (Sta Z Z.heap "jdk/internal/util/Preconditions" "SIOOBE_FORMATTER" "Ljava/util/function/BiFunction;" .null) ∨ ∃ m, Sta Z Z.heap "jdk/internal/util/Preconditions" "SIOOBE_FORMATTER" "Ljava/util/function/BiFunction;" (.ref m)) (hU : Sta Z Z.heap "sun/nio/cs/UTF_8" "INSTANCE" "Lsun/nio/cs/UTF_8;" (.ref m)) (hge : Z.heap.size ≤ a) (hE : Exa Z h0 a "java/lang/String") (hV : Fld Z h0 a "java/lang/String" "value" "[B" .null) (hC : Fld Z h0 a "java/lang/String" "coder" "B" (.int 0)) (hA : Ary Z h0 s .byte [.int b0, .int b1, .int tb]) (hEs : Exa Z h0 s "[B") (hM : Exa Z h0 m "sun/nio/cs/UTF_8") : Con Z B8 (List.toArray [.ref a, .ref s, .ref m]) h0 (Q8B Z a b0 b1 tb y0 yt h0) := by
  refine Con.mk hw pn8 (fun mid => ef8B mid a s m) (Go.old fun hle' => ?_)
  have hle := hle'.1
  refine Go.aloadN 1 rfl d8_0 rfl rfl ?_
  refine Go.aloadN 2 rfl d8_1 rfl rfl ?_
  refine Go.callS 5 rfl (C := B9) [.ref m] (rest := [.ref a]) 43 44 45 46 (c9 Z hw h0 m) d8_2 rfl rfl rfl rfl (by decide) pd9 rfl rfl rfl (W := 1) (Nat.le_of_ble_eq_true rfl) (by decide) (by decide) (by decide) (by decide) fun v101 h102 q103 => ?_
  obtain ⟨rfl, rfl⟩ := q103
  refine Go.castY 8 rfl 47 d8_5 rfl (own_ins hw 48 rfl hM) ?_
  refine Go.aloadN 9 rfl d8_8 rfl rfl ?_
  refine Go.iconst 10 rfl (0 : Int32) d8_9 rfl ?_
  refine Go.aloadN 11 rfl d8_10 rfl rfl ?_
  refine Go.alen 12 rfl (3 : Int32) d8_11 hA rfl ?_
  refine Go.callIW 15 rfl (C := B38) a [.ref m, .ref s, .int (0 : Int32), .int (3 : Int32)] (rest := []) 49 50 5 51 (c38B Z hw h0 a m s b0 b1 tb y0 yt g0 g1 g2 g3 g4 g5 ht hyt cs hS hcs hAs hHi hLo hfm hU hge hE hV hC hA hEs) d8_12 rfl rfl rfl rfl rfl rfl (by decide) pd38 rfl rfl rfl (W := 0) (Nat.le_of_ble_eq_true rfl) (by decide) (by decide) (by decide) (by decide) fun v104 h105 q106 => ?_
  obtain ⟨rfl, t, g, K, F1, F2, A⟩ := q106
  exact Go.retV d8_15 rfl (by decide) (by decide) ⟨rfl, t, g, K, F1, F2, A⟩
theorem ef7B (mid : MethodId) (s : Addr) : entryFrame mid (List.toArray [.ref s]) 1 = mkF mid 0 #[.val (.ref s)] [] := by first | (simp [entryFrame, mkF, argsToLocals, Value.category]; done) | rfl
def Q7B (Z : State) (b0 : Int32) (b1 : Int32) (tb : Int32) (y0 : Int32) (yt : Int32) (h0 : Heap) (v : Option Value) (h : Heap) : Prop := ∃ a t, v = some (.ref a) ∧ h0.size ≤ a ∧ h0.size ≤ t ∧ Keep h0 h [] ∧ Exa Z h a "java/lang/String" ∧ Fld Z h a "java/lang/String" "value" "[B" (.ref t) ∧ Fld Z h a "java/lang/String" "coder" "B" (.int 1) ∧ Ary Z h t .byte (IL [lo y0, hi y0, lo yt, hi yt])
set_option maxRecDepth 65536 in
set_option maxHeartbeats 40000000 in
theorem c7B (Z : State) (hw : Wd Z tables_1) (h0 : Heap) (s : Addr) (b0 : Int32) (b1 : Int32) (tb : Int32) (y0 : Int32) (yt : Int32) (g0 : b0 < 0) (g1 : ¬ (b0 &&& (254 : Int32)) = (194 : Int32)) (g2 : (b0 >>> ((5 : Int32) &&& 31)) = (-2 : Int32)) (g3 : ¬ (b0 &&& (30 : Int32)) = 0) (g4 : (b1 &&& (192 : Int32)) = (128 : Int32)) (g5 : ((b0 <<< ((6 : Int32) &&& 31)) ^^^ b1 ^^^ (3968 : Int32)).toUInt32.toUInt16.toUInt32.toInt32 = y0) (ht : ¬ tb < 0) (hyt : tb.toUInt32.toUInt16.toUInt32.toInt32 = yt) (cs : Int32) (hS : Sta Z Z.heap "java/lang/String" "COMPACT_STRINGS" "Z" (.int cs)) (hcs : ¬ cs = 0) (hAs : Sta Z Z.heap "java/lang/StringUTF16" "$assertionsDisabled" "Z" (.int 1)) (hHi : Sta Z Z.heap "java/lang/StringUTF16" "HI_BYTE_SHIFT" "I" (.int 0)) (hLo : Sta Z Z.heap "java/lang/StringUTF16" "LO_BYTE_SHIFT" "I" (.int 8)) (hfm : (Sta Z Z.heap "jdk/internal/util/Preconditions" "SIOOBE_FORMATTER" "Ljava/util/function/BiFunction;" .null) ∨ ∃ m, Sta Z Z.heap "jdk/internal/util/Preconditions" "SIOOBE_FORMATTER" "Ljava/util/function/BiFunction;" (.ref m)) (m : Addr) (hU : Sta Z Z.heap "sun/nio/cs/UTF_8" "INSTANCE" "Lsun/nio/cs/UTF_8;" (.ref m)) (hU8 : Sta Z Z.heap "java/nio/charset/StandardCharsets" "UTF_8" "Ljava/nio/charset/Charset;" (.ref m)) (hA : Ary Z h0 s .byte [.int b0, .int b1, .int tb]) (hEs : Exa Z h0 s "[B") (hM : Exa Z h0 m "sun/nio/cs/UTF_8") : Con Z B7 (List.toArray [.ref s]) h0 (Q7B Z b0 b1 tb y0 yt h0) := by
  refine Con.mk hw pn7 (fun mid => ef7B mid s) (Go.old fun hle' => ?_)
  have hle := hle'.1
  refine Go.newO 3 rfl 35 4 5 d7_0 rfl rfl rfl (by decide) (by decide) fun h102 a101 g103 z104 K105 E106 D107 => ?_
  refine Go.dup 4 rfl d7_3 rfl ?_
  refine Go.aloadN 5 rfl d7_4 rfl rfl ?_
  have F108 : Exa Z h102 s "[B" := (hEs.keep K105)
  refine Go.castY 8 rfl 36 d7_5 rfl (Ins.self F108) ?_
  refine Go.getS 11 rfl (v := .ref m) 38 d7_8 rfl hU8 ?_
  have F109 : Ary Z h102 s .byte [.int b0, .int b1, .int tb] := (hA.keep K105 nin0)
  have F110 : Exa Z h102 m "sun/nio/cs/UTF_8" := (hM.keep K105)
  refine Go.callI 14 rfl (C := B8) a101 [.ref s, .ref m] (rest := [.ref a101]) 40 41 5 42 (c8B Z hw h102 a101 s m b0 b1 tb y0 yt g0 g1 g2 g3 g4 g5 ht hyt cs hS hcs hAs hHi hLo hfm hU z104 E106 (D107 30 (Or.inr rfl) (ty := (.array .byte)) (by decide) : Fld Z h102 a101 "java/lang/String" "value" "[B" (.null)) (D107 28 (Or.inr rfl) (ty := .byte) (by decide) : Fld Z h102 a101 "java/lang/String" "coder" "B" (.int (0 : Int32))) F109 F108 F110) d7_11 rfl rfl rfl rfl rfl rfl (by decide) pd8 rfl rfl rfl (W := 1) (Nat.le_of_ble_eq_true rfl) (by decide) (by decide) (by decide) (by decide) fun v111 h112 q113 => ?_
  obtain ⟨rfl, t, g, K, F1, F2, A⟩ := q113
  have F114 : Exa Z h112 a101 "java/lang/String" := (E106.keep K)
  exact Go.retA d7_14 rfl rfl rfl (by decide) (by decide) ⟨a101, t, rfl, Nat.le_of_eq g103.symm, (by have := K105.1; omega), (((Keep.refl h0 []).trans K105 all0).trans K (allS (Or.inr (Nat.le_of_eq g103.symm)) all0)), F114, F1, F2, A⟩
theorem ef38E (mid : MethodId) (a : Addr) (m : Addr) (s : Addr) : entryFrame mid (List.toArray [.ref a, .ref m, .ref s, .int (0 : Int32), .int (2 : Int32)]) 11 = mkF mid 0 #[.val (.ref a), .val (.ref m), .val (.ref s), .val (.int (0 : Int32)), .val (.int (2 : Int32)), .unset, .unset, .unset, .unset, .unset, .unset] [] := by first | (simp [entryFrame, mkF, argsToLocals, Value.category]; done) | rfl
def Q38E (Z : State) (a : Addr) (b0 : Int32) (tb : Int32) (yt : Int32) (h0 : Heap) (v : Option Value) (h : Heap) : Prop := v = none ∧ ∃ t, h0.size ≤ t ∧ Keep h0 h [a] ∧ Fld Z h a "java/lang/String" "value" "[B" (.ref t) ∧ Fld Z h a "java/lang/String" "coder" "B" (.int 1) ∧ Ary Z h t .byte (IL [lo (65533 : Int32), hi (65533 : Int32), lo yt, hi yt])
set_option maxRecDepth 65536 in
set_option maxHeartbeats 40000000 in
theorem c38E (Z : State) (hw : Wd Z tables_1) (h0 : Heap) (a : Addr) (m : Addr) (s : Addr) (b0 : Int32) (tb : Int32) (yt : Int32) (g0 : b0 < 0) (g1 : ¬ (b0 &&& (254 : Int32)) = (194 : Int32)) (g2 : ¬ (b0 >>> ((5 : Int32) &&& 31)) = (-2 : Int32)) (g3 : ¬ (b0 >>> ((4 : Int32) &&& 31)) = (-2 : Int32)) (g4 : ¬ (b0 >>> ((3 : Int32) &&& 31)) = (-2 : Int32)) (ht : ¬ tb < 0) (hyt : tb.toUInt32.toUInt16.toUInt32.toInt32 = yt) (cs : Int32) (hS : Sta Z Z.heap "java/lang/String" "COMPACT_STRINGS" "Z" (.int cs)) (hcs : ¬ cs = 0) (hAs : Sta Z Z.heap "java/lang/StringUTF16" "$assertionsDisabled" "Z" (.int 1)) (hHi : Sta Z Z.heap "java/lang/StringUTF16" "HI_BYTE_SHIFT" "I" (.int 0)) (hLo : Sta Z Z.heap "java/lang/StringUTF16" "LO_BYTE_SHIFT" "I" (.int 8)) (hfm : (Sta Z Z.heap "jdk/internal/util/Preconditions" "SIOOBE_FORMATTER" "Ljava/util/function/BiFunction;" .null) ∨ ∃ m, Sta Z Z.heap "jdk/internal/util/Preconditions" "SIOOBE_FORMATTER" "Ljava/util/function/BiFunction;" (.ref m)) (hU : Sta Z Z.heap "sun/nio/cs/UTF_8" "INSTANCE" "Lsun/nio/cs/UTF_8;" (.ref m)) (hge : Z.heap.size ≤ a) (hE : Exa Z h0 a "java/lang/String") (hV : Fld Z h0 a "java/lang/String" "value" "[B" .null) (hC : Fld Z h0 a "java/lang/String" "coder" "B" (.int 0)) (hA : Ary Z h0 s .byte [.int b0, .int tb]) (hEs : Exa Z h0 s "[B") : ConW [(800, 813, 816, 202)] Z B38 (List.toArray [.ref a, .ref m, .ref s, .int (0 : Int32), .int (2 : Int32)]) h0 (Q38E Z a b0 tb yt h0) := by
  refine ConW.mk hw pn38 (fun mid => ef38E mid a m s) (Go.old fun hle' => ?_)
  have hle := hle'.1
  refine Go.aloadN 1 rfl d38_0 rfl rfl ?_
  refine Go.initO 4 rfl 13 14 15 d38_1 rfl rfl rfl rfl (by decide) (W := 0) (Nat.le_of_ble_eq_true rfl) (by decide) ?_
  refine Go.iload 6 rfl d38_4 rfl ?_
  refine Go.if_ne 30 9 d38_6 (by decide) rfl rfl (fun (b101 : ¬ (2 : Int32) = 0) => ?_) (fun (b101 : (2 : Int32) = 0) => ?_)
  · refine Go.aloadN 31 rfl d38_30 rfl rfl ?_
    refine Go.getS 34 rfl (v := .ref m) 52 d38_31 rfl hU ?_
    refine Go.acmp_ne 346 37 d38_34 (by decide) rfl rfl rfl rfl (fun (b102 : ¬ (.ref m : Value) = .ref m) => ?_) (fun (b102 : (.ref m : Value) = .ref m) => ?_)
    · exact absurd (show (.ref m : Value) = .ref m from rfl) b102
    · refine Go.getS 40 rfl (v := .int cs) 16 d38_37 rfl hS ?_
      refine Go.if_eq 292 43 d38_40 (by decide) rfl rfl (fun (b103 : cs = 0) => ?_) (fun (b103 : ¬ cs = 0) => ?_)
      · exact absurd b103 (show ¬ cs = 0 from hcs)
      · refine Go.aloadN 44 rfl d38_43 rfl rfl ?_
        refine Go.iloadN 45 rfl d38_44 rfl ?_
        refine Go.iload 47 rfl d38_45 rfl ?_
        refine Go.callS 50 rfl (C := B10) [.ref s, .int (0 : Int32), .int (2 : Int32)] (rest := []) 54 55 56 57 (c10n2 Z hw h0 s b0 tb g0 ht hA) d38_47 rfl rfl rfl rfl (by decide) pd10 rfl rfl rfl (W := 0) (Nat.le_of_ble_eq_true rfl) (by decide) (by decide) (by decide) (by decide) fun v104 h105 q106 => ?_
        obtain ⟨rfl, rfl⟩ := q106
        refine Go.istore 52 rfl d38_50 (Ls' := #[.val (.ref a), .val (.ref m), .val (.ref s), .val (.int (0 : Int32)), .val (.int (2 : Int32)), .val (.int (0 : Int32)), .unset, .unset, .unset, .unset, .unset]) rfl ?_
        refine Go.iload 54 rfl d38_52 rfl ?_
        refine Go.iload 56 rfl d38_54 rfl ?_
        refine Go.icmp_ne 78 59 d38_56 (by decide) rfl rfl (fun (b107 : ¬ (0 : Int32) = (2 : Int32)) => ?_) (fun (b107 : (0 : Int32) = (2 : Int32)) => ?_)
        · refine Go.aloadN 79 rfl d38_78 rfl rfl ?_
          refine Go.iloadN 80 rfl d38_79 rfl ?_
          refine Go.iloadN 81 rfl d38_80 rfl ?_
          refine Go.iload 83 rfl d38_81 rfl ?_
          refine Go.iadd 84 rfl d38_83 ?_
          refine Go.eqI (w := 2) (by decide) ?_
          refine Go.callS 87 rfl (C := B11) [.ref s, .int (0 : Int32), .int (2 : Int32)] (rest := []) 58 59 60 61 (c11 Z hw h0 s (2 : Int32) [.int b0, .int tb] rfl (Nat.le_of_ble_eq_true rfl) hA hEs) d38_84 rfl rfl rfl rfl (by decide) pd11 rfl rfl rfl (W := 0) (Nat.le_of_ble_eq_true rfl) (by decide) (by decide) (by decide) (by decide) fun v108 h109 q110 => ?_
          obtain ⟨u, rfl, gu, Ku, Au⟩ := q110
          have z111 : Z.heap.size ≤ u := Nat.le_trans hle gu
          refine Go.astore 89 rfl d38_87 rfl (Ls' := #[.val (.ref a), .val (.ref m), .val (.ref s), .val (.int (0 : Int32)), .val (.int (2 : Int32)), .val (.int (0 : Int32)), .val (.ref u), .unset, .unset, .unset, .unset]) rfl ?_
          refine Go.iload 91 rfl d38_89 rfl ?_
          refine Go.istore 93 rfl d38_91 (Ls' := #[.val (.ref a), .val (.ref m), .val (.ref s), .val (.int (0 : Int32)), .val (.int (2 : Int32)), .val (.int (0 : Int32)), .val (.ref u), .val (.int (0 : Int32)), .unset, .unset, .unset]) rfl ?_
          refine Go.iload 95 rfl d38_93 rfl ?_
          refine Go.iload 97 rfl d38_95 rfl ?_
          refine Go.icmp_ge 190 100 d38_97 (by decide) rfl rfl (fun (b112 : ¬ (0 : Int32) < (2 : Int32)) => ?_) (fun (b112 : (0 : Int32) < (2 : Int32)) => ?_)
          · exact absurd (show (0 : Int32) < (2 : Int32) from (by decide)) b112
          · refine Go.aload 102 rfl d38_100 rfl rfl ?_
            refine Go.iload 104 rfl d38_102 rfl ?_
            refine Go.iinc 107 rfl (1 : Int32) d38_104 rfl rfl (Ls' := #[.val (.ref a), .val (.ref m), .val (.ref s), .val (.int (0 : Int32)), .val (.int (2 : Int32)), .val (.int (0 : Int32)), .val (.ref u), .val (.int ((0 : Int32) + (1 : Int32))), .unset, .unset, .unset]) rfl ?_
            refine Go.baload 108 rfl b0 d38_107 Au 0 rfl rfl ?_
            refine Go.istore 110 rfl d38_108 (Ls' := #[.val (.ref a), .val (.ref m), .val (.ref s), .val (.int (0 : Int32)), .val (.int (2 : Int32)), .val (.int (0 : Int32)), .val (.ref u), .val (.int ((0 : Int32) + (1 : Int32))), .val (.int b0), .unset, .unset]) rfl ?_
            refine Go.iload 112 rfl d38_110 rfl ?_
            refine Go.if_lt 129 115 d38_112 (by decide) rfl rfl (fun (b113 : b0 < 0) => ?_) (fun (b113 : ¬ b0 < 0) => ?_)
            · refine Go.iload 131 rfl d38_129 rfl ?_
              refine Go.sipush 134 rfl (254 : Int32) d38_131 rfl ?_
              refine Go.iand 135 rfl d38_134 ?_
              refine Go.sipush 138 rfl (194 : Int32) d38_135 rfl ?_
              refine Go.icmp_ne 184 141 d38_138 (by decide) rfl rfl (fun (b114 : ¬ (b0 &&& (254 : Int32)) = (194 : Int32)) => ?_) (fun (b114 : (b0 &&& (254 : Int32)) = (194 : Int32)) => ?_)
              · refine Go.iinc 187 rfl (-1 : Int32) d38_184 rfl rfl (Ls' := #[.val (.ref a), .val (.ref m), .val (.ref s), .val (.int (0 : Int32)), .val (.int (2 : Int32)), .val (.int (0 : Int32)), .val (.ref u), .val (.int (((0 : Int32) + (1 : Int32)) + (-1 : Int32))), .val (.int b0), .unset, .unset]) rfl ?_
                refine Go.goto 190 d38_187 (by decide) (by decide) ?_
                refine Go.iload 192 rfl d38_190 rfl ?_
                refine Go.iload 194 rfl d38_192 rfl ?_
                refine Go.icmp_ne 226 197 d38_194 (by decide) rfl rfl (fun (b115 : ¬ (((0 : Int32) + (1 : Int32)) + (-1 : Int32)) = (2 : Int32)) => ?_) (fun (b115 : (((0 : Int32) + (1 : Int32)) + (-1 : Int32)) = (2 : Int32)) => ?_)
                · refine Go.iload 228 rfl d38_226 rfl ?_
                  refine Go.callS 231 rfl (C := B18) [.int (2 : Int32)] (rest := []) 114 99 19 100 (c18n2 Z hw h109) d38_228 rfl rfl rfl rfl (by decide) pd18 rfl rfl rfl (W := 0) (Nat.le_of_ble_eq_true rfl) (by decide) (by decide) (by decide) (by decide) fun v116 h117 q118 => ?_
                  obtain ⟨t, rfl, gt, Kt, At⟩ := q118
                  have z119 : Z.heap.size ≤ t := Nat.le_trans (Nat.le_trans hle Ku.1) gt
                  refine Go.astore 233 rfl d38_231 rfl (Ls' := #[.val (.ref a), .val (.ref m), .val (.ref s), .val (.int (0 : Int32)), .val (.int (2 : Int32)), .val (.int (0 : Int32)), .val (.ref u), .val (.int (((0 : Int32) + (1 : Int32)) + (-1 : Int32))), .val (.ref t), .unset, .unset]) rfl ?_
                  refine Go.aload 235 rfl d38_233 rfl rfl ?_
                  refine Go.iconst 236 rfl (0 : Int32) d38_235 rfl ?_
                  refine Go.aload 238 rfl d38_236 rfl rfl ?_
                  refine Go.iconst 239 rfl (0 : Int32) d38_238 rfl ?_
                  refine Go.iload 241 rfl d38_239 rfl ?_
                  refine Go.callS 244 rfl (C := B22) [.ref u, .int (0 : Int32), .ref t, .int (0 : Int32), .int (0 : Int32)] (rest := []) 115 116 78 117 (c22 Z hw h117 u t (IL [0, 0, 0, 0]) (4 : Int32) (2 : Int32) rfl (by decide) At hfm (by decide) (by decide)) d38_241 rfl rfl rfl rfl (by decide) pd22 rfl rfl rfl (W := 0) (Nat.le_of_ble_eq_true rfl) (by decide) (by decide) (by decide) (by decide) fun v120 h121 q122 => ?_
                  obtain ⟨rfl, rfl⟩ := q122
                  refine Go.aload 246 rfl d38_244 rfl rfl ?_
                  refine Go.iload 248 rfl d38_246 rfl ?_
                  refine Go.eqI (w := 0) (by decide) ?_
                  refine Go.iload 250 rfl d38_248 rfl ?_
                  refine Go.aload 252 rfl d38_250 rfl rfl ?_
                  refine Go.iload 254 rfl d38_252 rfl ?_
                  refine Go.iconst 255 rfl (1 : Int32) d38_254 rfl ?_
                  have F123 : Ary Z h117 u .byte [.int b0, .int tb] := (Au.keep Kt nin0)
                  have ne124 : u ≠ t := (show @Ne Nat u t from by have := ltN Au.lt; have := gt; omega)
                  refine Go.callS 258 rfl (C := B28) [.ref u, .int (0 : Int32), .int (2 : Int32), .ref t, .int (0 : Int32), .int (1 : Int32)] (rest := []) 135 136 5 137 (c28E Z hw h117 u t  yt b0 tb  g0 g1 g2 g3 g4 ht hyt hAs hHi hLo F123 At z119 ne124) d38_255 rfl rfl rfl rfl (by decide) pd28 rfl rfl rfl (W := 0) (Nat.le_of_ble_eq_true rfl) (by decide) (by decide) (by decide) (by decide) fun v125 h126 q127 => ?_
                  obtain ⟨rfl, Kd, Ad⟩ := q127
                  refine Go.istore 260 rfl d38_258 (Ls' := #[.val (.ref a), .val (.ref m), .val (.ref s), .val (.int (0 : Int32)), .val (.int (2 : Int32)), .val (.int (2 : Int32)), .val (.ref u), .val (.int (((0 : Int32) + (1 : Int32)) + (-1 : Int32))), .val (.ref t), .unset, .unset]) rfl ?_
                  refine Go.iload 262 rfl d38_260 rfl ?_
                  refine Go.iload 264 rfl d38_262 rfl ?_
                  refine Go.icmp_eq 278 267 d38_264 (by decide) rfl rfl (fun (b128 : (2 : Int32) = (2 : Int32)) => ?_) (fun (b128 : ¬ (2 : Int32) = (2 : Int32)) => ?_)
                  · refine Go.aloadN 279 rfl d38_278 rfl rfl ?_
                    refine Go.aload 281 rfl d38_279 rfl rfl ?_
                    have ne129 : a ≠ t := (show @Ne Nat a t from by have := ltN hE.lt; have := Ku.1; have := gt; omega)
                    have F130 : Fld Z h126 a "java/lang/String" "value" "[B" (.null) := (((hV.keep Ku nin0).keep Kt nin0).keep Kd (ninS ne129 nin0))
                    have F131 : Exa Z h126 a "java/lang/String" := (((hE.keep Ku).keep Kt).keep Kd)
                    refine Go.putF 284 rfl (v' := .ref t) (ty := (.array .byte)) 29 30 4 d38_281 rfl F130 F131 (Or.inr ⟨rfl, rfl, rfl⟩) rfl (by decide) rfl rfl hge fun h132 K133 W134 F135 => ?_
                    refine Go.aloadN 285 rfl d38_284 rfl rfl ?_
                    refine Go.iconst 286 rfl (1 : Int32) d38_285 rfl ?_
                    have F136 : Fld Z h132 a "java/lang/String" "coder" "B" (.int (0 : Int32)) := (Fld.oth hw (((hC.keep Ku nin0).keep Kt nin0).keep Kd (ninS ne129 nin0)) W134 28 30 (Or.inr rfl) (Or.inr rfl) (by decide) rfl rfl)
                    have F137 : Exa Z h132 a "java/lang/String" := (F131.keep K133)
                    refine Go.putF 289 rfl (v' := .int (1 : Int32)) (ty := .byte) 27 28 4 d38_286 rfl F136 F137 (Or.inr ⟨rfl, rfl, rfl⟩) rfl (by decide) rfl rfl hge fun h138 K139 W140 F141 => ?_
                    refine Go.goto 879 d38_289 (by decide) (by decide) ?_
                    have kc142 : Keep h0 h138 [a] := ((((((Keep.refl h0 [a]).trans Ku all0).trans Kt all0).trans Kd (allS (Or.inr (Nat.le_trans Ku.1 gt)) all0)).trans K133 (by simp)).trans K139 (by simp))
                    have F143 : Fld Z h138 a "java/lang/String" "value" "[B" (.ref t) := (Fld.oth hw F135 W140 30 28 (Or.inr rfl) (Or.inr rfl) (by decide) rfl rfl)
                    have F144 : Ary Z h138 t .byte (IL [lo (65533 : Int32), hi (65533 : Int32), lo yt, hi yt]) := ((Ad.keep K133 (ninS (Ne.symm ne129) nin0)).keep K139 (ninS (Ne.symm ne129) nin0))
                    exact Go.retV d38_879 rfl (by decide) (by decide) ⟨rfl, t, (by have := Ku.1; have := gt; omega), kc142, F143, F141, F144⟩
                  · exact absurd (show (2 : Int32) = (2 : Int32) from (by decide)) b128
                · exact absurd b115 (show ¬ (((0 : Int32) + (1 : Int32)) + (-1 : Int32)) = (2 : Int32) from (by decide))
              · exact absurd b114 (show ¬ (b0 &&& (254 : Int32)) = (194 : Int32) from g1)
            · exact absurd (show b0 < 0 from g0) b113
        · exact absurd b107 (show ¬ (0 : Int32) = (2 : Int32) from (by decide))
  · exact absurd b101 (show ¬ (2 : Int32) = 0 from (by decide))
theorem ef8E (mid : MethodId) (a : Addr) (s : Addr) (m : Addr) : entryFrame mid (List.toArray [.ref a, .ref s, .ref m]) 3 = mkF mid 0 #[.val (.ref a), .val (.ref s), .val (.ref m)] [] := by first | (simp [entryFrame, mkF, argsToLocals, Value.category]; done) | rfl
def Q8E (Z : State) (a : Addr) (b0 : Int32) (tb : Int32) (yt : Int32) (h0 : Heap) (v : Option Value) (h : Heap) : Prop := v = none ∧ ∃ t, h0.size ≤ t ∧ Keep h0 h [a] ∧ Fld Z h a "java/lang/String" "value" "[B" (.ref t) ∧ Fld Z h a "java/lang/String" "coder" "B" (.int 1) ∧ Ary Z h t .byte (IL [lo (65533 : Int32), hi (65533 : Int32), lo yt, hi yt])
set_option maxRecDepth 65536 in
set_option maxHeartbeats 40000000 in
theorem c8E (Z : State) (hw : Wd Z tables_1) (h0 : Heap) (a : Addr) (s : Addr) (m : Addr) (b0 : Int32) (tb : Int32) (yt : Int32) (g0 : b0 < 0) (g1 : ¬ (b0 &&& (254 : Int32)) = (194 : Int32)) (g2 : ¬ (b0 >>> ((5 : Int32) &&& 31)) = (-2 : Int32)) (g3 : ¬ (b0 >>> ((4 : Int32) &&& 31)) = (-2 : Int32)) (g4 : ¬ (b0 >>> ((3 : Int32) &&& 31)) = (-2 : Int32)) (ht : ¬ tb < 0) (hyt : tb.toUInt32.toUInt16.toUInt32.toInt32 = yt) (cs : Int32) (hS : Sta Z Z.heap "java/lang/String" "COMPACT_STRINGS" "Z" (.int cs)) (hcs : ¬ cs = 0) (hAs : Sta Z Z.heap "java/lang/StringUTF16" "$assertionsDisabled" "Z" (.int 1)) (hHi : Sta Z Z.heap "java/lang/StringUTF16" "HI_BYTE_SHIFT" "I" (.int 0)) (hLo : Sta Z Z.heap "java/lang/StringUTF16" "LO_BYTE_SHIFT" "I" (.int 8)) (hfm : (Sta Z Z.heap "jdk/internal/util/Preconditions" "SIOOBE_FORMATTER" "Ljava/util/function/BiFunction;" .null) ∨ ∃ m, Sta Z Z.heap "jdk/internal/util/Preconditions" "SIOOBE_FORMATTER" "Ljava/util/function/BiFunction;" (.ref m)) (hU : Sta Z Z.heap "sun/nio/cs/UTF_8" "INSTANCE" "Lsun/nio/cs/UTF_8;" (.ref m)) (hge : Z.heap.size ≤ a) (hE : Exa Z h0 a "java/lang/String") (hV : Fld Z h0 a "java/lang/String" "value" "[B" .null) (hC : Fld Z h0 a "java/lang/String" "coder" "B" (.int 0)) (hA : Ary Z h0 s .byte [.int b0, .int tb]) (hEs : Exa Z h0 s "[B") (hM : Exa Z h0 m "sun/nio/cs/UTF_8") : Con Z B8 (List.toArray [.ref a, .ref s, .ref m]) h0 (Q8E Z a b0 tb yt h0) := by
  refine Con.mk hw pn8 (fun mid => ef8E mid a s m) (Go.old fun hle' => ?_)
  have hle := hle'.1
  refine Go.aloadN 1 rfl d8_0 rfl rfl ?_
  refine Go.aloadN 2 rfl d8_1 rfl rfl ?_
  refine Go.callS 5 rfl (C := B9) [.ref m] (rest := [.ref a]) 43 44 45 46 (c9 Z hw h0 m) d8_2 rfl rfl rfl rfl (by decide) pd9 rfl rfl rfl (W := 1) (Nat.le_of_ble_eq_true rfl) (by decide) (by decide) (by decide) (by decide) fun v101 h102 q103 => ?_
  obtain ⟨rfl, rfl⟩ := q103
  refine Go.castY 8 rfl 47 d8_5 rfl (own_ins hw 48 rfl hM) ?_
  refine Go.aloadN 9 rfl d8_8 rfl rfl ?_
  refine Go.iconst 10 rfl (0 : Int32) d8_9 rfl ?_
  refine Go.aloadN 11 rfl d8_10 rfl rfl ?_
  refine Go.alen 12 rfl (2 : Int32) d8_11 hA rfl ?_
  refine Go.callIW 15 rfl (C := B38) a [.ref m, .ref s, .int (0 : Int32), .int (2 : Int32)] (rest := []) 49 50 5 51 (c38E Z hw h0 a m s b0 tb  yt g0 g1 g2 g3 g4 ht hyt cs hS hcs hAs hHi hLo hfm hU hge hE hV hC hA hEs) d8_12 rfl rfl rfl rfl rfl rfl (by decide) pd38 rfl rfl rfl (W := 0) (Nat.le_of_ble_eq_true rfl) (by decide) (by decide) (by decide) (by decide) fun v104 h105 q106 => ?_
  obtain ⟨rfl, t, g, K, F1, F2, A⟩ := q106
  exact Go.retV d8_15 rfl (by decide) (by decide) ⟨rfl, t, g, K, F1, F2, A⟩
theorem ef7E (mid : MethodId) (s : Addr) : entryFrame mid (List.toArray [.ref s]) 1 = mkF mid 0 #[.val (.ref s)] [] := by first | (simp [entryFrame, mkF, argsToLocals, Value.category]; done) | rfl
def Q7E (Z : State) (b0 : Int32) (tb : Int32) (yt : Int32) (h0 : Heap) (v : Option Value) (h : Heap) : Prop := ∃ a t, v = some (.ref a) ∧ h0.size ≤ a ∧ h0.size ≤ t ∧ Keep h0 h [] ∧ Exa Z h a "java/lang/String" ∧ Fld Z h a "java/lang/String" "value" "[B" (.ref t) ∧ Fld Z h a "java/lang/String" "coder" "B" (.int 1) ∧ Ary Z h t .byte (IL [lo (65533 : Int32), hi (65533 : Int32), lo yt, hi yt])
set_option maxRecDepth 65536 in
set_option maxHeartbeats 40000000 in
theorem c7E (Z : State) (hw : Wd Z tables_1) (h0 : Heap) (s : Addr) (b0 : Int32) (tb : Int32) (yt : Int32) (g0 : b0 < 0) (g1 : ¬ (b0 &&& (254 : Int32)) = (194 : Int32)) (g2 : ¬ (b0 >>> ((5 : Int32) &&& 31)) = (-2 : Int32)) (g3 : ¬ (b0 >>> ((4 : Int32) &&& 31)) = (-2 : Int32)) (g4 : ¬ (b0 >>> ((3 : Int32) &&& 31)) = (-2 : Int32)) (ht : ¬ tb < 0) (hyt : tb.toUInt32.toUInt16.toUInt32.toInt32 = yt) (cs : Int32) (hS : Sta Z Z.heap "java/lang/String" "COMPACT_STRINGS" "Z" (.int cs)) (hcs : ¬ cs = 0) (hAs : Sta Z Z.heap "java/lang/StringUTF16" "$assertionsDisabled" "Z" (.int 1)) (hHi : Sta Z Z.heap "java/lang/StringUTF16" "HI_BYTE_SHIFT" "I" (.int 0)) (hLo : Sta Z Z.heap "java/lang/StringUTF16" "LO_BYTE_SHIFT" "I" (.int 8)) (hfm : (Sta Z Z.heap "jdk/internal/util/Preconditions" "SIOOBE_FORMATTER" "Ljava/util/function/BiFunction;" .null) ∨ ∃ m, Sta Z Z.heap "jdk/internal/util/Preconditions" "SIOOBE_FORMATTER" "Ljava/util/function/BiFunction;" (.ref m)) (m : Addr) (hU : Sta Z Z.heap "sun/nio/cs/UTF_8" "INSTANCE" "Lsun/nio/cs/UTF_8;" (.ref m)) (hU8 : Sta Z Z.heap "java/nio/charset/StandardCharsets" "UTF_8" "Ljava/nio/charset/Charset;" (.ref m)) (hA : Ary Z h0 s .byte [.int b0, .int tb]) (hEs : Exa Z h0 s "[B") (hM : Exa Z h0 m "sun/nio/cs/UTF_8") : Con Z B7 (List.toArray [.ref s]) h0 (Q7E Z b0 tb yt h0) := by
  refine Con.mk hw pn7 (fun mid => ef7E mid s) (Go.old fun hle' => ?_)
  have hle := hle'.1
  refine Go.newO 3 rfl 35 4 5 d7_0 rfl rfl rfl (by decide) (by decide) fun h102 a101 g103 z104 K105 E106 D107 => ?_
  refine Go.dup 4 rfl d7_3 rfl ?_
  refine Go.aloadN 5 rfl d7_4 rfl rfl ?_
  have F108 : Exa Z h102 s "[B" := (hEs.keep K105)
  refine Go.castY 8 rfl 36 d7_5 rfl (Ins.self F108) ?_
  refine Go.getS 11 rfl (v := .ref m) 38 d7_8 rfl hU8 ?_
  have F109 : Ary Z h102 s .byte [.int b0, .int tb] := (hA.keep K105 nin0)
  have F110 : Exa Z h102 m "sun/nio/cs/UTF_8" := (hM.keep K105)
  refine Go.callI 14 rfl (C := B8) a101 [.ref s, .ref m] (rest := [.ref a101]) 40 41 5 42 (c8E Z hw h102 a101 s m b0 tb  yt g0 g1 g2 g3 g4 ht hyt cs hS hcs hAs hHi hLo hfm hU z104 E106 (D107 30 (Or.inr rfl) (ty := (.array .byte)) (by decide) : Fld Z h102 a101 "java/lang/String" "value" "[B" (.null)) (D107 28 (Or.inr rfl) (ty := .byte) (by decide) : Fld Z h102 a101 "java/lang/String" "coder" "B" (.int (0 : Int32))) F109 F108 F110) d7_11 rfl rfl rfl rfl rfl rfl (by decide) pd8 rfl rfl rfl (W := 1) (Nat.le_of_ble_eq_true rfl) (by decide) (by decide) (by decide) (by decide) fun v111 h112 q113 => ?_
  obtain ⟨rfl, t, g, K, F1, F2, A⟩ := q113
  have F114 : Exa Z h112 a101 "java/lang/String" := (E106.keep K)
  exact Go.retA d7_14 rfl rfl rfl (by decide) (by decide) ⟨a101, t, rfl, Nat.le_of_eq g103.symm, (by have := K105.1; omega), (((Keep.refl h0 []).trans K105 all0).trans K (allS (Or.inr (Nat.le_of_eq g103.symm)) all0)), F114, F1, F2, A⟩
theorem ef38L (mid : MethodId) (a : Addr) (m : Addr) (s : Addr) : entryFrame mid (List.toArray [.ref a, .ref m, .ref s, .int (0 : Int32), .int (3 : Int32)]) 11 = mkF mid 0 #[.val (.ref a), .val (.ref m), .val (.ref s), .val (.int (0 : Int32)), .val (.int (3 : Int32)), .unset, .unset, .unset, .unset, .unset, .unset] [] := by first | (simp [entryFrame, mkF, argsToLocals, Value.category]; done) | rfl
def Q38L (Z : State) (a : Addr) (b0 : Int32) (b1 : Int32) (tb : Int32) (y0 : Int32) (yt : Int32) (h0 : Heap) (v : Option Value) (h : Heap) : Prop := v = none ∧ ∃ t, h0.size ≤ t ∧ Keep h0 h [a] ∧ Fld Z h a "java/lang/String" "value" "[B" (.ref t) ∧ Fld Z h a "java/lang/String" "coder" "B" (.int 0) ∧ Ary Z h t .byte (IL [l1 y0, l1 tb])
set_option maxRecDepth 65536 in
set_option maxHeartbeats 40000000 in
theorem c38L (Z : State) (hw : Wd Z tables_1) (h0 : Heap) (a : Addr) (m : Addr) (s : Addr) (b0 : Int32) (b1 : Int32) (tb : Int32) (y0 : Int32) (yt : Int32) (g0 : b0 < 0) (g1 : (b0 &&& (254 : Int32)) = (194 : Int32)) (g2 : b1 < (-64 : Int32)) (g3 : ((b0 <<< ((6 : Int32) &&& 31)) ^^^ b1 ^^^ (3968 : Int32)).toUInt32.toUInt16.toUInt32.toInt32 = y0) (ht : ¬ tb < 0) (hyt : tb.toUInt32.toUInt16.toUInt32.toInt32 = yt) (cs : Int32) (hS : Sta Z Z.heap "java/lang/String" "COMPACT_STRINGS" "Z" (.int cs)) (hcs : ¬ cs = 0) (hAs : Sta Z Z.heap "java/lang/StringUTF16" "$assertionsDisabled" "Z" (.int 1)) (hHi : Sta Z Z.heap "java/lang/StringUTF16" "HI_BYTE_SHIFT" "I" (.int 0)) (hLo : Sta Z Z.heap "java/lang/StringUTF16" "LO_BYTE_SHIFT" "I" (.int 8)) (hfm : (Sta Z Z.heap "jdk/internal/util/Preconditions" "SIOOBE_FORMATTER" "Ljava/util/function/BiFunction;" .null) ∨ ∃ m, Sta Z Z.heap "jdk/internal/util/Preconditions" "SIOOBE_FORMATTER" "Ljava/util/function/BiFunction;" (.ref m)) (hU : Sta Z Z.heap "sun/nio/cs/UTF_8" "INSTANCE" "Lsun/nio/cs/UTF_8;" (.ref m)) (hge : Z.heap.size ≤ a) (hE : Exa Z h0 a "java/lang/String") (hV : Fld Z h0 a "java/lang/String" "value" "[B" .null) (hC : Fld Z h0 a "java/lang/String" "coder" "B" (.int 0)) (hA : Ary Z h0 s .byte [.int b0, .int b1, .int tb]) (hEs : Exa Z h0 s "[B") : ConW [(800, 813, 816, 202)] Z B38 (List.toArray [.ref a, .ref m, .ref s, .int (0 : Int32), .int (3 : Int32)]) h0 (Q38L Z a b0 b1 tb y0 yt h0) := by
  refine ConW.mk hw pn38 (fun mid => ef38L mid a m s) (Go.old fun hle' => ?_)
  have hle := hle'.1
  refine Go.aloadN 1 rfl d38_0 rfl rfl ?_
  refine Go.initO 4 rfl 13 14 15 d38_1 rfl rfl rfl rfl (by decide) (W := 0) (Nat.le_of_ble_eq_true rfl) (by decide) ?_
  refine Go.iload 6 rfl d38_4 rfl ?_
  refine Go.if_ne 30 9 d38_6 (by decide) rfl rfl (fun (b101 : ¬ (3 : Int32) = 0) => ?_) (fun (b101 : (3 : Int32) = 0) => ?_)
  · refine Go.aloadN 31 rfl d38_30 rfl rfl ?_
    refine Go.getS 34 rfl (v := .ref m) 52 d38_31 rfl hU ?_
    refine Go.acmp_ne 346 37 d38_34 (by decide) rfl rfl rfl rfl (fun (b102 : ¬ (.ref m : Value) = .ref m) => ?_) (fun (b102 : (.ref m : Value) = .ref m) => ?_)
    · exact absurd (show (.ref m : Value) = .ref m from rfl) b102
    · refine Go.getS 40 rfl (v := .int cs) 16 d38_37 rfl hS ?_
      refine Go.if_eq 292 43 d38_40 (by decide) rfl rfl (fun (b103 : cs = 0) => ?_) (fun (b103 : ¬ cs = 0) => ?_)
      · exact absurd b103 (show ¬ cs = 0 from hcs)
      · refine Go.aloadN 44 rfl d38_43 rfl rfl ?_
        refine Go.iloadN 45 rfl d38_44 rfl ?_
        refine Go.iload 47 rfl d38_45 rfl ?_
        refine Go.callS 50 rfl (C := B10) [.ref s, .int (0 : Int32), .int (3 : Int32)] (rest := []) 54 55 56 57 (c10n3 Z hw h0 s b0 b1 tb g0 ht hA) d38_47 rfl rfl rfl rfl (by decide) pd10 rfl rfl rfl (W := 0) (Nat.le_of_ble_eq_true rfl) (by decide) (by decide) (by decide) (by decide) fun v104 h105 q106 => ?_
        obtain ⟨rfl, rfl⟩ := q106
        refine Go.istore 52 rfl d38_50 (Ls' := #[.val (.ref a), .val (.ref m), .val (.ref s), .val (.int (0 : Int32)), .val (.int (3 : Int32)), .val (.int (0 : Int32)), .unset, .unset, .unset, .unset, .unset]) rfl ?_
        refine Go.iload 54 rfl d38_52 rfl ?_
        refine Go.iload 56 rfl d38_54 rfl ?_
        refine Go.icmp_ne 78 59 d38_56 (by decide) rfl rfl (fun (b107 : ¬ (0 : Int32) = (3 : Int32)) => ?_) (fun (b107 : (0 : Int32) = (3 : Int32)) => ?_)
        · refine Go.aloadN 79 rfl d38_78 rfl rfl ?_
          refine Go.iloadN 80 rfl d38_79 rfl ?_
          refine Go.iloadN 81 rfl d38_80 rfl ?_
          refine Go.iload 83 rfl d38_81 rfl ?_
          refine Go.iadd 84 rfl d38_83 ?_
          refine Go.eqI (w := 3) (by decide) ?_
          refine Go.callS 87 rfl (C := B11) [.ref s, .int (0 : Int32), .int (3 : Int32)] (rest := []) 58 59 60 61 (c11 Z hw h0 s (3 : Int32) [.int b0, .int b1, .int tb] rfl (Nat.le_of_ble_eq_true rfl) hA hEs) d38_84 rfl rfl rfl rfl (by decide) pd11 rfl rfl rfl (W := 0) (Nat.le_of_ble_eq_true rfl) (by decide) (by decide) (by decide) (by decide) fun v108 h109 q110 => ?_
          obtain ⟨u, rfl, gu, Ku, Au⟩ := q110
          have z111 : Z.heap.size ≤ u := Nat.le_trans hle gu
          refine Go.astore 89 rfl d38_87 rfl (Ls' := #[.val (.ref a), .val (.ref m), .val (.ref s), .val (.int (0 : Int32)), .val (.int (3 : Int32)), .val (.int (0 : Int32)), .val (.ref u), .unset, .unset, .unset, .unset]) rfl ?_
          refine Go.iload 91 rfl d38_89 rfl ?_
          refine Go.istore 93 rfl d38_91 (Ls' := #[.val (.ref a), .val (.ref m), .val (.ref s), .val (.int (0 : Int32)), .val (.int (3 : Int32)), .val (.int (0 : Int32)), .val (.ref u), .val (.int (0 : Int32)), .unset, .unset, .unset]) rfl ?_
          refine Go.iload 95 rfl d38_93 rfl ?_
          refine Go.iload 97 rfl d38_95 rfl ?_
          refine Go.icmp_ge 190 100 d38_97 (by decide) rfl rfl (fun (b112 : ¬ (0 : Int32) < (3 : Int32)) => ?_) (fun (b112 : (0 : Int32) < (3 : Int32)) => ?_)
          · exact absurd (show (0 : Int32) < (3 : Int32) from (by decide)) b112
          · refine Go.aload 102 rfl d38_100 rfl rfl ?_
            refine Go.iload 104 rfl d38_102 rfl ?_
            refine Go.iinc 107 rfl (1 : Int32) d38_104 rfl rfl (Ls' := #[.val (.ref a), .val (.ref m), .val (.ref s), .val (.int (0 : Int32)), .val (.int (3 : Int32)), .val (.int (0 : Int32)), .val (.ref u), .val (.int ((0 : Int32) + (1 : Int32))), .unset, .unset, .unset]) rfl ?_
            refine Go.baload 108 rfl b0 d38_107 Au 0 rfl rfl ?_
            refine Go.istore 110 rfl d38_108 (Ls' := #[.val (.ref a), .val (.ref m), .val (.ref s), .val (.int (0 : Int32)), .val (.int (3 : Int32)), .val (.int (0 : Int32)), .val (.ref u), .val (.int ((0 : Int32) + (1 : Int32))), .val (.int b0), .unset, .unset]) rfl ?_
            refine Go.iload 112 rfl d38_110 rfl ?_
            refine Go.if_lt 129 115 d38_112 (by decide) rfl rfl (fun (b113 : b0 < 0) => ?_) (fun (b113 : ¬ b0 < 0) => ?_)
            · refine Go.iload 131 rfl d38_129 rfl ?_
              refine Go.sipush 134 rfl (254 : Int32) d38_131 rfl ?_
              refine Go.iand 135 rfl d38_134 ?_
              refine Go.sipush 138 rfl (194 : Int32) d38_135 rfl ?_
              refine Go.icmp_ne 184 141 d38_138 (by decide) rfl rfl (fun (b114 : ¬ (b0 &&& (254 : Int32)) = (194 : Int32)) => ?_) (fun (b114 : (b0 &&& (254 : Int32)) = (194 : Int32)) => ?_)
              · exact absurd (show (b0 &&& (254 : Int32)) = (194 : Int32) from g1) b114
              · refine Go.iload 143 rfl d38_141 rfl ?_
                refine Go.iload 145 rfl d38_143 rfl ?_
                refine Go.icmp_ge 184 148 d38_145 (by decide) rfl rfl (fun (b115 : ¬ ((0 : Int32) + (1 : Int32)) < (3 : Int32)) => ?_) (fun (b115 : ((0 : Int32) + (1 : Int32)) < (3 : Int32)) => ?_)
                · exact absurd (show ((0 : Int32) + (1 : Int32)) < (3 : Int32) from (by decide)) b115
                · refine Go.aload 150 rfl d38_148 rfl rfl ?_
                  refine Go.iload 152 rfl d38_150 rfl ?_
                  refine Go.baload 153 rfl b1 d38_152 Au 1 rfl rfl ?_
                  refine Go.istore 155 rfl d38_153 (Ls' := #[.val (.ref a), .val (.ref m), .val (.ref s), .val (.int (0 : Int32)), .val (.int (3 : Int32)), .val (.int (0 : Int32)), .val (.ref u), .val (.int ((0 : Int32) + (1 : Int32))), .val (.int b0), .val (.int b1), .unset]) rfl ?_
                  refine Go.iload 157 rfl d38_155 rfl ?_
                  refine Go.bipush 159 rfl (-64 : Int32) d38_157 rfl ?_
                  refine Go.icmp_ge 184 162 d38_159 (by decide) rfl rfl (fun (b116 : ¬ b1 < (-64 : Int32)) => ?_) (fun (b116 : b1 < (-64 : Int32)) => ?_)
                  · exact absurd (show b1 < (-64 : Int32) from g2) b116
                  · refine Go.aload 164 rfl d38_162 rfl rfl ?_
                    refine Go.iload 166 rfl d38_164 rfl ?_
                    refine Go.iinc 169 rfl (1 : Int32) d38_166 rfl rfl (Ls' := #[.val (.ref a), .val (.ref m), .val (.ref s), .val (.int (0 : Int32)), .val (.int (3 : Int32)), .val (.int ((0 : Int32) + (1 : Int32))), .val (.ref u), .val (.int ((0 : Int32) + (1 : Int32))), .val (.int b0), .val (.int b1), .unset]) rfl ?_
                    refine Go.iload 171 rfl d38_169 rfl ?_
                    refine Go.iload 173 rfl d38_171 rfl ?_
                    refine Go.callS 176 rfl (C := B14) [.int b0, .int b1] (rest := [.int (0 : Int32), .ref u]) 80 81 5 82 (c14 Z hw h109 b0 b1 y0 g3) d38_173 rfl rfl rfl rfl (by decide) pd14 rfl rfl rfl (W := 2) (Nat.le_of_ble_eq_true rfl) (by decide) (by decide) (by decide) (by decide) fun v117 h118 q119 => ?_
                    obtain ⟨rfl, rfl⟩ := q119
                    refine Go.i2b 177 rfl d38_176 ?_
                    refine Go.stB 178 rfl d38_177 Au 0 rfl (Nat.le_of_ble_eq_true rfl) z111 fun h120 K121 A122 => ?_
                    have A123 : Ary Z h120 u .byte [.int (nar .byte y0.toInt8.toInt32), .int b1, .int tb] := A122
                    refine Go.iinc 181 rfl (1 : Int32) d38_178 rfl rfl (Ls' := #[.val (.ref a), .val (.ref m), .val (.ref s), .val (.int (0 : Int32)), .val (.int (3 : Int32)), .val (.int ((0 : Int32) + (1 : Int32))), .val (.ref u), .val (.int (((0 : Int32) + (1 : Int32)) + (1 : Int32))), .val (.int b0), .val (.int b1), .unset]) rfl ?_
                    refine Go.goto 93 d38_181 (by decide) (by decide) ?_
                    refine Go.iload 95 rfl d38_93 rfl ?_
                    refine Go.iload 97 rfl d38_95 rfl ?_
                    refine Go.icmp_ge 190 100 d38_97 (by decide) rfl rfl (fun (b124 : ¬ (((0 : Int32) + (1 : Int32)) + (1 : Int32)) < (3 : Int32)) => ?_) (fun (b124 : (((0 : Int32) + (1 : Int32)) + (1 : Int32)) < (3 : Int32)) => ?_)
                    · exact absurd (show (((0 : Int32) + (1 : Int32)) + (1 : Int32)) < (3 : Int32) from (by decide)) b124
                    · refine Go.aload 102 rfl d38_100 rfl rfl ?_
                      refine Go.iload 104 rfl d38_102 rfl ?_
                      refine Go.iinc 107 rfl (1 : Int32) d38_104 rfl rfl (Ls' := #[.val (.ref a), .val (.ref m), .val (.ref s), .val (.int (0 : Int32)), .val (.int (3 : Int32)), .val (.int ((0 : Int32) + (1 : Int32))), .val (.ref u), .val (.int ((((0 : Int32) + (1 : Int32)) + (1 : Int32)) + (1 : Int32))), .val (.int b0), .val (.int b1), .unset]) rfl ?_
                      refine Go.baload 108 rfl tb d38_107 A123 2 rfl rfl ?_
                      refine Go.istore 110 rfl d38_108 (Ls' := #[.val (.ref a), .val (.ref m), .val (.ref s), .val (.int (0 : Int32)), .val (.int (3 : Int32)), .val (.int ((0 : Int32) + (1 : Int32))), .val (.ref u), .val (.int ((((0 : Int32) + (1 : Int32)) + (1 : Int32)) + (1 : Int32))), .val (.int tb), .val (.int b1), .unset]) rfl ?_
                      refine Go.iload 112 rfl d38_110 rfl ?_
                      refine Go.if_lt 129 115 d38_112 (by decide) rfl rfl (fun (b125 : tb < 0) => ?_) (fun (b125 : ¬ tb < 0) => ?_)
                      · exact absurd b125 (show ¬ tb < 0 from ht)
                      · refine Go.aload 117 rfl d38_115 rfl rfl ?_
                        refine Go.iload 119 rfl d38_117 rfl ?_
                        refine Go.iinc 122 rfl (1 : Int32) d38_119 rfl rfl (Ls' := #[.val (.ref a), .val (.ref m), .val (.ref s), .val (.int (0 : Int32)), .val (.int (3 : Int32)), .val (.int (((0 : Int32) + (1 : Int32)) + (1 : Int32))), .val (.ref u), .val (.int ((((0 : Int32) + (1 : Int32)) + (1 : Int32)) + (1 : Int32))), .val (.int tb), .val (.int b1), .unset]) rfl ?_
                        refine Go.iload 124 rfl d38_122 rfl ?_
                        refine Go.i2b 125 rfl d38_124 ?_
                        refine Go.stB 126 rfl d38_125 A123 1 rfl (Nat.le_of_ble_eq_true rfl) z111 fun h126 K127 A128 => ?_
                        have A129 : Ary Z h126 u .byte [.int (nar .byte y0.toInt8.toInt32), .int (nar .byte tb.toInt8.toInt32), .int tb] := A128
                        refine Go.goto 93 d38_126 (by decide) (by decide) ?_
                        refine Go.iload 95 rfl d38_93 rfl ?_
                        refine Go.iload 97 rfl d38_95 rfl ?_
                        refine Go.icmp_ge 190 100 d38_97 (by decide) rfl rfl (fun (b130 : ¬ ((((0 : Int32) + (1 : Int32)) + (1 : Int32)) + (1 : Int32)) < (3 : Int32)) => ?_) (fun (b130 : ((((0 : Int32) + (1 : Int32)) + (1 : Int32)) + (1 : Int32)) < (3 : Int32)) => ?_)
                        · refine Go.iload 192 rfl d38_190 rfl ?_
                          refine Go.iload 194 rfl d38_192 rfl ?_
                          refine Go.icmp_ne 226 197 d38_194 (by decide) rfl rfl (fun (b131 : ¬ ((((0 : Int32) + (1 : Int32)) + (1 : Int32)) + (1 : Int32)) = (3 : Int32)) => ?_) (fun (b131 : ((((0 : Int32) + (1 : Int32)) + (1 : Int32)) + (1 : Int32)) = (3 : Int32)) => ?_)
                          · exact absurd (show ((((0 : Int32) + (1 : Int32)) + (1 : Int32)) + (1 : Int32)) = (3 : Int32) from (by decide)) b131
                          · refine Go.iload 199 rfl d38_197 rfl ?_
                            refine Go.aload 201 rfl d38_199 rfl rfl ?_
                            refine Go.alen 202 rfl (3 : Int32) d38_201 A129 rfl ?_
                            refine Go.icmp_eq 214 205 d38_202 (by decide) rfl rfl (fun (b132 : (((0 : Int32) + (1 : Int32)) + (1 : Int32)) = (3 : Int32)) => ?_) (fun (b132 : ¬ (((0 : Int32) + (1 : Int32)) + (1 : Int32)) = (3 : Int32)) => ?_)
                            · exact absurd b132 (show ¬ (((0 : Int32) + (1 : Int32)) + (1 : Int32)) = (3 : Int32) from (by decide))
                            · refine Go.aload 207 rfl d38_205 rfl rfl ?_
                              refine Go.iload 209 rfl d38_207 rfl ?_
                              refine Go.eqI (w := 2) (by decide) ?_
                              refine Go.callS 212 rfl (C := B15) [.ref u, .int (2 : Int32)] (rest := []) 83 84 60 85 (c15n2 Z hw h126 u [l1 y0, l1 tb, tb] (3 : Int32) rfl (by decide) (by decide) (Nat.le_of_ble_eq_true rfl) A129) d38_209 rfl rfl rfl rfl (by decide) pd15 rfl rfl rfl (W := 0) (Nat.le_of_ble_eq_true rfl) (by decide) (by decide) (by decide) (by decide) fun v133 h134 q135 => ?_
                              obtain ⟨t, rfl, gt, Kt, At⟩ := q135
                              have sz137 := (Nat.le_trans Ku.1 K121.1)
                              have sz138 := (Nat.le_trans sz137 K127.1)
                              have z136 : Z.heap.size ≤ t := Nat.le_trans (Nat.le_trans hle sz138) gt
                              refine Go.astore 214 rfl d38_212 rfl (Ls' := #[.val (.ref a), .val (.ref m), .val (.ref s), .val (.int (0 : Int32)), .val (.int (3 : Int32)), .val (.int (((0 : Int32) + (1 : Int32)) + (1 : Int32))), .val (.ref t), .val (.int ((((0 : Int32) + (1 : Int32)) + (1 : Int32)) + (1 : Int32))), .val (.int tb), .val (.int b1), .unset]) rfl ?_
                              refine Go.aloadN 215 rfl d38_214 rfl rfl ?_
                              refine Go.aload 217 rfl d38_215 rfl rfl ?_
                              have ne139 : a ≠ u := (show @Ne Nat a u from by have := ltN hE.lt; have := gu; omega)
                              have F140 : Fld Z h134 a "java/lang/String" "value" "[B" (.null) := ((((hV.keep Ku nin0).keep K121 (ninS ne139 nin0)).keep K127 (ninS ne139 nin0)).keep Kt nin0)
                              have F141 : Exa Z h134 a "java/lang/String" := ((((hE.keep Ku).keep K121).keep K127).keep Kt)
                              refine Go.putF 220 rfl (v' := .ref t) (ty := (.array .byte)) 29 30 4 d38_217 rfl F140 F141 (Or.inr ⟨rfl, rfl, rfl⟩) rfl (by decide) rfl rfl hge fun h142 K143 W144 F145 => ?_
                              refine Go.aloadN 221 rfl d38_220 rfl rfl ?_
                              refine Go.iconst 222 rfl (0 : Int32) d38_221 rfl ?_
                              have F146 : Fld Z h142 a "java/lang/String" "coder" "B" (.int (0 : Int32)) := (Fld.oth hw ((((hC.keep Ku nin0).keep K121 (ninS ne139 nin0)).keep K127 (ninS ne139 nin0)).keep Kt nin0) W144 28 30 (Or.inr rfl) (Or.inr rfl) (by decide) rfl rfl)
                              have F147 : Exa Z h142 a "java/lang/String" := (F141.keep K143)
                              refine Go.putF 225 rfl (v' := .int (0 : Int32)) (ty := .byte) 27 28 4 d38_222 rfl F146 F147 (Or.inr ⟨rfl, rfl, rfl⟩) rfl (by decide) rfl rfl hge fun h148 K149 W150 F151 => ?_
                              have kc152 : Keep h0 h148 [a] := (((((((Keep.refl h0 [a]).trans Ku all0).trans K121 (allS (Or.inr gu) all0)).trans K127 (allS (Or.inr gu) all0)).trans Kt all0).trans K143 (by simp)).trans K149 (by simp))
                              have F153 : Fld Z h148 a "java/lang/String" "value" "[B" (.ref t) := (Fld.oth hw F145 W150 30 28 (Or.inr rfl) (Or.inr rfl) (by decide) rfl rfl)
                              have ne154 : t ≠ a := (show @Ne Nat t a from by have := ltN hE.lt; have := Ku.1; have := K121.1; have := K127.1; have := gt; omega)
                              have F155 : Ary Z h148 t .byte (IL [l1 y0, l1 tb]) := ((At.keep K143 (ninS ne154 nin0)).keep K149 (ninS ne154 nin0))
                              exact Go.retV d38_225 rfl (by decide) (by decide) ⟨rfl, t, (by have := Ku.1; have := K121.1; have := K127.1; have := gt; omega), kc152, F153, F151, F155⟩
                        · exact absurd b130 (show ¬ ((((0 : Int32) + (1 : Int32)) + (1 : Int32)) + (1 : Int32)) < (3 : Int32) from (by decide))
            · exact absurd (show b0 < 0 from g0) b113
        · exact absurd b107 (show ¬ (0 : Int32) = (3 : Int32) from (by decide))
  · exact absurd b101 (show ¬ (3 : Int32) = 0 from (by decide))
theorem ef8L (mid : MethodId) (a : Addr) (s : Addr) (m : Addr) : entryFrame mid (List.toArray [.ref a, .ref s, .ref m]) 3 = mkF mid 0 #[.val (.ref a), .val (.ref s), .val (.ref m)] [] := by first | (simp [entryFrame, mkF, argsToLocals, Value.category]; done) | rfl
def Q8L (Z : State) (a : Addr) (b0 : Int32) (b1 : Int32) (tb : Int32) (y0 : Int32) (yt : Int32) (h0 : Heap) (v : Option Value) (h : Heap) : Prop := v = none ∧ ∃ t, h0.size ≤ t ∧ Keep h0 h [a] ∧ Fld Z h a "java/lang/String" "value" "[B" (.ref t) ∧ Fld Z h a "java/lang/String" "coder" "B" (.int 0) ∧ Ary Z h t .byte (IL [l1 y0, l1 tb])
set_option maxRecDepth 65536 in
set_option maxHeartbeats 40000000 in
theorem c8L (Z : State) (hw : Wd Z tables_1) (h0 : Heap) (a : Addr) (s : Addr) (m : Addr) (b0 : Int32) (b1 : Int32) (tb : Int32) (y0 : Int32) (yt : Int32) (g0 : b0 < 0) (g1 : (b0 &&& (254 : Int32)) = (194 : Int32)) (g2 : b1 < (-64 : Int32)) (g3 : ((b0 <<< ((6 : Int32) &&& 31)) ^^^ b1 ^^^ (3968 : Int32)).toUInt32.toUInt16.toUInt32.toInt32 = y0) (ht : ¬ tb < 0) (hyt : tb.toUInt32.toUInt16.toUInt32.toInt32 = yt) (cs : Int32) (hS : Sta Z Z.heap "java/lang/String" "COMPACT_STRINGS" "Z" (.int cs)) (hcs : ¬ cs = 0) (hAs : Sta Z Z.heap "java/lang/StringUTF16" "$assertionsDisabled" "Z" (.int 1)) (hHi : Sta Z Z.heap "java/lang/StringUTF16" "HI_BYTE_SHIFT" "I" (.int 0)) (hLo : Sta Z Z.heap "java/lang/StringUTF16" "LO_BYTE_SHIFT" "I" (.int 8)) (hfm : (Sta Z Z.heap "jdk/internal/util/Preconditions" "SIOOBE_FORMATTER" "Ljava/util/function/BiFunction;" .null) ∨ ∃ m, Sta Z Z.heap "jdk/internal/util/Preconditions" "SIOOBE_FORMATTER" "Ljava/util/function/BiFunction;" (.ref m)) (hU : Sta Z Z.heap "sun/nio/cs/UTF_8" "INSTANCE" "Lsun/nio/cs/UTF_8;" (.ref m)) (hge : Z.heap.size ≤ a) (hE : Exa Z h0 a "java/lang/String") (hV : Fld Z h0 a "java/lang/String" "value" "[B" .null) (hC : Fld Z h0 a "java/lang/String" "coder" "B" (.int 0)) (hA : Ary Z h0 s .byte [.int b0, .int b1, .int tb]) (hEs : Exa Z h0 s "[B") (hM : Exa Z h0 m "sun/nio/cs/UTF_8") : Con Z B8 (List.toArray [.ref a, .ref s, .ref m]) h0 (Q8L Z a b0 b1 tb y0 yt h0) := by
  refine Con.mk hw pn8 (fun mid => ef8L mid a s m) (Go.old fun hle' => ?_)
  have hle := hle'.1
  refine Go.aloadN 1 rfl d8_0 rfl rfl ?_
  refine Go.aloadN 2 rfl d8_1 rfl rfl ?_
  refine Go.callS 5 rfl (C := B9) [.ref m] (rest := [.ref a]) 43 44 45 46 (c9 Z hw h0 m) d8_2 rfl rfl rfl rfl (by decide) pd9 rfl rfl rfl (W := 1) (Nat.le_of_ble_eq_true rfl) (by decide) (by decide) (by decide) (by decide) fun v101 h102 q103 => ?_
  obtain ⟨rfl, rfl⟩ := q103
  refine Go.castY 8 rfl 47 d8_5 rfl (own_ins hw 48 rfl hM) ?_
  refine Go.aloadN 9 rfl d8_8 rfl rfl ?_
  refine Go.iconst 10 rfl (0 : Int32) d8_9 rfl ?_
  refine Go.aloadN 11 rfl d8_10 rfl rfl ?_
  refine Go.alen 12 rfl (3 : Int32) d8_11 hA rfl ?_
  refine Go.callIW 15 rfl (C := B38) a [.ref m, .ref s, .int (0 : Int32), .int (3 : Int32)] (rest := []) 49 50 5 51 (c38L Z hw h0 a m s b0 b1 tb y0 yt g0 g1 g2 g3 ht hyt cs hS hcs hAs hHi hLo hfm hU hge hE hV hC hA hEs) d8_12 rfl rfl rfl rfl rfl rfl (by decide) pd38 rfl rfl rfl (W := 0) (Nat.le_of_ble_eq_true rfl) (by decide) (by decide) (by decide) (by decide) fun v104 h105 q106 => ?_
  obtain ⟨rfl, t, g, K, F1, F2, A⟩ := q106
  exact Go.retV d8_15 rfl (by decide) (by decide) ⟨rfl, t, g, K, F1, F2, A⟩
theorem ef7L (mid : MethodId) (s : Addr) : entryFrame mid (List.toArray [.ref s]) 1 = mkF mid 0 #[.val (.ref s)] [] := by first | (simp [entryFrame, mkF, argsToLocals, Value.category]; done) | rfl
def Q7L (Z : State) (b0 : Int32) (b1 : Int32) (tb : Int32) (y0 : Int32) (yt : Int32) (h0 : Heap) (v : Option Value) (h : Heap) : Prop := ∃ a t, v = some (.ref a) ∧ h0.size ≤ a ∧ h0.size ≤ t ∧ Keep h0 h [] ∧ Exa Z h a "java/lang/String" ∧ Fld Z h a "java/lang/String" "value" "[B" (.ref t) ∧ Fld Z h a "java/lang/String" "coder" "B" (.int 0) ∧ Ary Z h t .byte (IL [l1 y0, l1 tb])
set_option maxRecDepth 65536 in
set_option maxHeartbeats 40000000 in
theorem c7L (Z : State) (hw : Wd Z tables_1) (h0 : Heap) (s : Addr) (b0 : Int32) (b1 : Int32) (tb : Int32) (y0 : Int32) (yt : Int32) (g0 : b0 < 0) (g1 : (b0 &&& (254 : Int32)) = (194 : Int32)) (g2 : b1 < (-64 : Int32)) (g3 : ((b0 <<< ((6 : Int32) &&& 31)) ^^^ b1 ^^^ (3968 : Int32)).toUInt32.toUInt16.toUInt32.toInt32 = y0) (ht : ¬ tb < 0) (hyt : tb.toUInt32.toUInt16.toUInt32.toInt32 = yt) (cs : Int32) (hS : Sta Z Z.heap "java/lang/String" "COMPACT_STRINGS" "Z" (.int cs)) (hcs : ¬ cs = 0) (hAs : Sta Z Z.heap "java/lang/StringUTF16" "$assertionsDisabled" "Z" (.int 1)) (hHi : Sta Z Z.heap "java/lang/StringUTF16" "HI_BYTE_SHIFT" "I" (.int 0)) (hLo : Sta Z Z.heap "java/lang/StringUTF16" "LO_BYTE_SHIFT" "I" (.int 8)) (hfm : (Sta Z Z.heap "jdk/internal/util/Preconditions" "SIOOBE_FORMATTER" "Ljava/util/function/BiFunction;" .null) ∨ ∃ m, Sta Z Z.heap "jdk/internal/util/Preconditions" "SIOOBE_FORMATTER" "Ljava/util/function/BiFunction;" (.ref m)) (m : Addr) (hU : Sta Z Z.heap "sun/nio/cs/UTF_8" "INSTANCE" "Lsun/nio/cs/UTF_8;" (.ref m)) (hU8 : Sta Z Z.heap "java/nio/charset/StandardCharsets" "UTF_8" "Ljava/nio/charset/Charset;" (.ref m)) (hA : Ary Z h0 s .byte [.int b0, .int b1, .int tb]) (hEs : Exa Z h0 s "[B") (hM : Exa Z h0 m "sun/nio/cs/UTF_8") : Con Z B7 (List.toArray [.ref s]) h0 (Q7L Z b0 b1 tb y0 yt h0) := by
  refine Con.mk hw pn7 (fun mid => ef7L mid s) (Go.old fun hle' => ?_)
  have hle := hle'.1
  refine Go.newO 3 rfl 35 4 5 d7_0 rfl rfl rfl (by decide) (by decide) fun h102 a101 g103 z104 K105 E106 D107 => ?_
  refine Go.dup 4 rfl d7_3 rfl ?_
  refine Go.aloadN 5 rfl d7_4 rfl rfl ?_
  have F108 : Exa Z h102 s "[B" := (hEs.keep K105)
  refine Go.castY 8 rfl 36 d7_5 rfl (Ins.self F108) ?_
  refine Go.getS 11 rfl (v := .ref m) 38 d7_8 rfl hU8 ?_
  have F109 : Ary Z h102 s .byte [.int b0, .int b1, .int tb] := (hA.keep K105 nin0)
  have F110 : Exa Z h102 m "sun/nio/cs/UTF_8" := (hM.keep K105)
  refine Go.callI 14 rfl (C := B8) a101 [.ref s, .ref m] (rest := [.ref a101]) 40 41 5 42 (c8L Z hw h102 a101 s m b0 b1 tb y0 yt g0 g1 g2 g3 ht hyt cs hS hcs hAs hHi hLo hfm hU z104 E106 (D107 30 (Or.inr rfl) (ty := (.array .byte)) (by decide) : Fld Z h102 a101 "java/lang/String" "value" "[B" (.null)) (D107 28 (Or.inr rfl) (ty := .byte) (by decide) : Fld Z h102 a101 "java/lang/String" "coder" "B" (.int (0 : Int32))) F109 F108 F110) d7_11 rfl rfl rfl rfl rfl rfl (by decide) pd8 rfl rfl rfl (W := 1) (Nat.le_of_ble_eq_true rfl) (by decide) (by decide) (by decide) (by decide) fun v111 h112 q113 => ?_
  obtain ⟨rfl, t, g, K, F1, F2, A⟩ := q113
  have F114 : Exa Z h112 a101 "java/lang/String" := (E106.keep K)
  exact Go.retA d7_14 rfl rfl rfl (by decide) (by decide) ⟨a101, t, rfl, Nat.le_of_eq g103.symm, (by have := K105.1; omega), (((Keep.refl h0 []).trans K105 all0).trans K (allS (Or.inr (Nat.le_of_eq g103.symm)) all0)), F114, F1, F2, A⟩
theorem ef38A (mid : MethodId) (a : Addr) (m : Addr) (s : Addr) : entryFrame mid (List.toArray [.ref a, .ref m, .ref s, .int (0 : Int32), .int (2 : Int32)]) 11 = mkF mid 0 #[.val (.ref a), .val (.ref m), .val (.ref s), .val (.int (0 : Int32)), .val (.int (2 : Int32)), .unset, .unset, .unset, .unset, .unset, .unset] [] := by first | (simp [entryFrame, mkF, argsToLocals, Value.category]; done) | rfl
def Q38A (Z : State) (a : Addr) (b0 : Int32) (tb : Int32) (yt : Int32) (h0 : Heap) (v : Option Value) (h : Heap) : Prop := v = none ∧ ∃ t, h0.size ≤ t ∧ Keep h0 h [a] ∧ Fld Z h a "java/lang/String" "value" "[B" (.ref t) ∧ Fld Z h a "java/lang/String" "coder" "B" (.int 0) ∧ Ary Z h t .byte (IL [b0, tb])
set_option maxRecDepth 65536 in
set_option maxHeartbeats 40000000 in
theorem c38A (Z : State) (hw : Wd Z tables_1) (h0 : Heap) (a : Addr) (m : Addr) (s : Addr) (b0 : Int32) (tb : Int32) (yt : Int32) (g0 : ¬ b0 < 0) (ht : ¬ tb < 0) (hyt : tb.toUInt32.toUInt16.toUInt32.toInt32 = yt) (cs : Int32) (hS : Sta Z Z.heap "java/lang/String" "COMPACT_STRINGS" "Z" (.int cs)) (hcs : ¬ cs = 0) (hAs : Sta Z Z.heap "java/lang/StringUTF16" "$assertionsDisabled" "Z" (.int 1)) (hHi : Sta Z Z.heap "java/lang/StringUTF16" "HI_BYTE_SHIFT" "I" (.int 0)) (hLo : Sta Z Z.heap "java/lang/StringUTF16" "LO_BYTE_SHIFT" "I" (.int 8)) (hfm : (Sta Z Z.heap "jdk/internal/util/Preconditions" "SIOOBE_FORMATTER" "Ljava/util/function/BiFunction;" .null) ∨ ∃ m, Sta Z Z.heap "jdk/internal/util/Preconditions" "SIOOBE_FORMATTER" "Ljava/util/function/BiFunction;" (.ref m)) (hU : Sta Z Z.heap "sun/nio/cs/UTF_8" "INSTANCE" "Lsun/nio/cs/UTF_8;" (.ref m)) (hge : Z.heap.size ≤ a) (hE : Exa Z h0 a "java/lang/String") (hV : Fld Z h0 a "java/lang/String" "value" "[B" .null) (hC : Fld Z h0 a "java/lang/String" "coder" "B" (.int 0)) (hA : Ary Z h0 s .byte [.int b0, .int tb]) (hEs : Exa Z h0 s "[B") : ConW [(800, 813, 816, 202)] Z B38 (List.toArray [.ref a, .ref m, .ref s, .int (0 : Int32), .int (2 : Int32)]) h0 (Q38A Z a b0 tb yt h0) := by
  refine ConW.mk hw pn38 (fun mid => ef38A mid a m s) (Go.old fun hle' => ?_)
  have hle := hle'.1
  refine Go.aloadN 1 rfl d38_0 rfl rfl ?_
  refine Go.initO 4 rfl 13 14 15 d38_1 rfl rfl rfl rfl (by decide) (W := 0) (Nat.le_of_ble_eq_true rfl) (by decide) ?_
  refine Go.iload 6 rfl d38_4 rfl ?_
  refine Go.if_ne 30 9 d38_6 (by decide) rfl rfl (fun (b101 : ¬ (2 : Int32) = 0) => ?_) (fun (b101 : (2 : Int32) = 0) => ?_)
  · refine Go.aloadN 31 rfl d38_30 rfl rfl ?_
    refine Go.getS 34 rfl (v := .ref m) 52 d38_31 rfl hU ?_
    refine Go.acmp_ne 346 37 d38_34 (by decide) rfl rfl rfl rfl (fun (b102 : ¬ (.ref m : Value) = .ref m) => ?_) (fun (b102 : (.ref m : Value) = .ref m) => ?_)
    · exact absurd (show (.ref m : Value) = .ref m from rfl) b102
    · refine Go.getS 40 rfl (v := .int cs) 16 d38_37 rfl hS ?_
      refine Go.if_eq 292 43 d38_40 (by decide) rfl rfl (fun (b103 : cs = 0) => ?_) (fun (b103 : ¬ cs = 0) => ?_)
      · exact absurd b103 (show ¬ cs = 0 from hcs)
      · refine Go.aloadN 44 rfl d38_43 rfl rfl ?_
        refine Go.iloadN 45 rfl d38_44 rfl ?_
        refine Go.iload 47 rfl d38_45 rfl ?_
        refine Go.callS 50 rfl (C := B10) [.ref s, .int (0 : Int32), .int (2 : Int32)] (rest := []) 54 55 56 57 (c10n2a Z hw h0 s b0 tb g0 ht hA) d38_47 rfl rfl rfl rfl (by decide) pd10 rfl rfl rfl (W := 0) (Nat.le_of_ble_eq_true rfl) (by decide) (by decide) (by decide) (by decide) fun v104 h105 q106 => ?_
        obtain ⟨rfl, rfl⟩ := q106
        refine Go.istore 52 rfl d38_50 (Ls' := #[.val (.ref a), .val (.ref m), .val (.ref s), .val (.int (0 : Int32)), .val (.int (2 : Int32)), .val (.int (2 : Int32)), .unset, .unset, .unset, .unset, .unset]) rfl ?_
        refine Go.iload 54 rfl d38_52 rfl ?_
        refine Go.iload 56 rfl d38_54 rfl ?_
        refine Go.icmp_ne 78 59 d38_56 (by decide) rfl rfl (fun (b107 : ¬ (2 : Int32) = (2 : Int32)) => ?_) (fun (b107 : (2 : Int32) = (2 : Int32)) => ?_)
        · exact absurd (show (2 : Int32) = (2 : Int32) from (by decide)) b107
        · refine Go.aloadN 60 rfl d38_59 rfl rfl ?_
          refine Go.aloadN 61 rfl d38_60 rfl rfl ?_
          refine Go.iloadN 62 rfl d38_61 rfl ?_
          refine Go.iloadN 63 rfl d38_62 rfl ?_
          refine Go.iload 65 rfl d38_63 rfl ?_
          refine Go.iadd 66 rfl d38_65 ?_
          refine Go.eqI (w := 2) (by decide) ?_
          refine Go.callS 69 rfl (C := B11) [.ref s, .int (0 : Int32), .int (2 : Int32)] (rest := [.ref a]) 58 59 60 61 (c11 Z hw h0 s (2 : Int32) [.int b0, .int tb] rfl (Nat.le_of_ble_eq_true rfl) hA hEs) d38_66 rfl rfl rfl rfl (by decide) pd11 rfl rfl rfl (W := 1) (Nat.le_of_ble_eq_true rfl) (by decide) (by decide) (by decide) (by decide) fun v108 h109 q110 => ?_
          obtain ⟨u, rfl, gu, Ku, Au⟩ := q110
          have z111 : Z.heap.size ≤ u := Nat.le_trans hle gu
          have F112 : Fld Z h109 a "java/lang/String" "value" "[B" (.null) := (hV.keep Ku nin0)
          have F113 : Exa Z h109 a "java/lang/String" := (hE.keep Ku)
          refine Go.putF 72 rfl (v' := .ref u) (ty := (.array .byte)) 29 30 4 d38_69 rfl F112 F113 (Or.inr ⟨rfl, rfl, rfl⟩) rfl (by decide) rfl rfl hge fun h114 K115 W116 F117 => ?_
          refine Go.aloadN 73 rfl d38_72 rfl rfl ?_
          refine Go.iconst 74 rfl (0 : Int32) d38_73 rfl ?_
          have F118 : Fld Z h114 a "java/lang/String" "coder" "B" (.int (0 : Int32)) := (Fld.oth hw (hC.keep Ku nin0) W116 28 30 (Or.inr rfl) (Or.inr rfl) (by decide) rfl rfl)
          have F119 : Exa Z h114 a "java/lang/String" := (F113.keep K115)
          refine Go.putF 77 rfl (v' := .int (0 : Int32)) (ty := .byte) 27 28 4 d38_74 rfl F118 F119 (Or.inr ⟨rfl, rfl, rfl⟩) rfl (by decide) rfl rfl hge fun h120 K121 W122 F123 => ?_
          have kc124 : Keep h0 h120 [a] := ((((Keep.refl h0 [a]).trans Ku all0).trans K115 (by simp)).trans K121 (by simp))
          have F125 : Fld Z h120 a "java/lang/String" "value" "[B" (.ref u) := (Fld.oth hw F117 W122 30 28 (Or.inr rfl) (Or.inr rfl) (by decide) rfl rfl)
          have ne126 : u ≠ a := (show @Ne Nat u a from by have := ltN hE.lt; have := gu; omega)
          have F127 : Ary Z h120 u .byte [.int b0, .int tb] := ((Au.keep K115 (ninS ne126 nin0)).keep K121 (ninS ne126 nin0))
          exact Go.retV d38_77 rfl (by decide) (by decide) ⟨rfl, u, (by skip; have := gu; omega), kc124, F125, F123, F127⟩
  · exact absurd b101 (show ¬ (2 : Int32) = 0 from (by decide))
theorem ef8A (mid : MethodId) (a : Addr) (s : Addr) (m : Addr) : entryFrame mid (List.toArray [.ref a, .ref s, .ref m]) 3 = mkF mid 0 #[.val (.ref a), .val (.ref s), .val (.ref m)] [] := by first | (simp [entryFrame, mkF, argsToLocals, Value.category]; done) | rfl
def Q8A (Z : State) (a : Addr) (b0 : Int32) (tb : Int32) (yt : Int32) (h0 : Heap) (v : Option Value) (h : Heap) : Prop := v = none ∧ ∃ t, h0.size ≤ t ∧ Keep h0 h [a] ∧ Fld Z h a "java/lang/String" "value" "[B" (.ref t) ∧ Fld Z h a "java/lang/String" "coder" "B" (.int 0) ∧ Ary Z h t .byte (IL [b0, tb])
set_option maxRecDepth 65536 in
set_option maxHeartbeats 40000000 in
theorem c8A (Z : State) (hw : Wd Z tables_1) (h0 : Heap) (a : Addr) (s : Addr) (m : Addr) (b0 : Int32) (tb : Int32) (yt : Int32) (g0 : ¬ b0 < 0) (ht : ¬ tb < 0) (hyt : tb.toUInt32.toUInt16.toUInt32.toInt32 = yt) (cs : Int32) (hS : Sta Z Z.heap "java/lang/String" "COMPACT_STRINGS" "Z" (.int cs)) (hcs : ¬ cs = 0) (hAs : Sta Z Z.heap "java/lang/StringUTF16" "$assertionsDisabled" "Z" (.int 1)) (hHi : Sta Z Z.heap "java/lang/StringUTF16" "HI_BYTE_SHIFT" "I" (.int 0)) (hLo : Sta Z Z.heap "java/lang/StringUTF16" "LO_BYTE_SHIFT" "I" (.int 8)) (hfm : (Sta Z Z.heap "jdk/internal/util/Preconditions" "SIOOBE_FORMATTER" "Ljava/util/function/BiFunction;" .null) ∨ ∃ m, Sta Z Z.heap "jdk/internal/util/Preconditions" "SIOOBE_FORMATTER" "Ljava/util/function/BiFunction;" (.ref m)) (hU : Sta Z Z.heap "sun/nio/cs/UTF_8" "INSTANCE" "Lsun/nio/cs/UTF_8;" (.ref m)) (hge : Z.heap.size ≤ a) (hE : Exa Z h0 a "java/lang/String") (hV : Fld Z h0 a "java/lang/String" "value" "[B" .null) (hC : Fld Z h0 a "java/lang/String" "coder" "B" (.int 0)) (hA : Ary Z h0 s .byte [.int b0, .int tb]) (hEs : Exa Z h0 s "[B") (hM : Exa Z h0 m "sun/nio/cs/UTF_8") : Con Z B8 (List.toArray [.ref a, .ref s, .ref m]) h0 (Q8A Z a b0 tb yt h0) := by
  refine Con.mk hw pn8 (fun mid => ef8A mid a s m) (Go.old fun hle' => ?_)
  have hle := hle'.1
  refine Go.aloadN 1 rfl d8_0 rfl rfl ?_
  refine Go.aloadN 2 rfl d8_1 rfl rfl ?_
  refine Go.callS 5 rfl (C := B9) [.ref m] (rest := [.ref a]) 43 44 45 46 (c9 Z hw h0 m) d8_2 rfl rfl rfl rfl (by decide) pd9 rfl rfl rfl (W := 1) (Nat.le_of_ble_eq_true rfl) (by decide) (by decide) (by decide) (by decide) fun v101 h102 q103 => ?_
  obtain ⟨rfl, rfl⟩ := q103
  refine Go.castY 8 rfl 47 d8_5 rfl (own_ins hw 48 rfl hM) ?_
  refine Go.aloadN 9 rfl d8_8 rfl rfl ?_
  refine Go.iconst 10 rfl (0 : Int32) d8_9 rfl ?_
  refine Go.aloadN 11 rfl d8_10 rfl rfl ?_
  refine Go.alen 12 rfl (2 : Int32) d8_11 hA rfl ?_
  refine Go.callIW 15 rfl (C := B38) a [.ref m, .ref s, .int (0 : Int32), .int (2 : Int32)] (rest := []) 49 50 5 51 (c38A Z hw h0 a m s b0 tb  yt g0 ht hyt cs hS hcs hAs hHi hLo hfm hU hge hE hV hC hA hEs) d8_12 rfl rfl rfl rfl rfl rfl (by decide) pd38 rfl rfl rfl (W := 0) (Nat.le_of_ble_eq_true rfl) (by decide) (by decide) (by decide) (by decide) fun v104 h105 q106 => ?_
  obtain ⟨rfl, t, g, K, F1, F2, A⟩ := q106
  exact Go.retV d8_15 rfl (by decide) (by decide) ⟨rfl, t, g, K, F1, F2, A⟩
theorem ef7A (mid : MethodId) (s : Addr) : entryFrame mid (List.toArray [.ref s]) 1 = mkF mid 0 #[.val (.ref s)] [] := by first | (simp [entryFrame, mkF, argsToLocals, Value.category]; done) | rfl
def Q7A (Z : State) (b0 : Int32) (tb : Int32) (yt : Int32) (h0 : Heap) (v : Option Value) (h : Heap) : Prop := ∃ a t, v = some (.ref a) ∧ h0.size ≤ a ∧ h0.size ≤ t ∧ Keep h0 h [] ∧ Exa Z h a "java/lang/String" ∧ Fld Z h a "java/lang/String" "value" "[B" (.ref t) ∧ Fld Z h a "java/lang/String" "coder" "B" (.int 0) ∧ Ary Z h t .byte (IL [b0, tb])
set_option maxRecDepth 65536 in
set_option maxHeartbeats 40000000 in
theorem c7A (Z : State) (hw : Wd Z tables_1) (h0 : Heap) (s : Addr) (b0 : Int32) (tb : Int32) (yt : Int32) (g0 : ¬ b0 < 0) (ht : ¬ tb < 0) (hyt : tb.toUInt32.toUInt16.toUInt32.toInt32 = yt) (cs : Int32) (hS : Sta Z Z.heap "java/lang/String" "COMPACT_STRINGS" "Z" (.int cs)) (hcs : ¬ cs = 0) (hAs : Sta Z Z.heap "java/lang/StringUTF16" "$assertionsDisabled" "Z" (.int 1)) (hHi : Sta Z Z.heap "java/lang/StringUTF16" "HI_BYTE_SHIFT" "I" (.int 0)) (hLo : Sta Z Z.heap "java/lang/StringUTF16" "LO_BYTE_SHIFT" "I" (.int 8)) (hfm : (Sta Z Z.heap "jdk/internal/util/Preconditions" "SIOOBE_FORMATTER" "Ljava/util/function/BiFunction;" .null) ∨ ∃ m, Sta Z Z.heap "jdk/internal/util/Preconditions" "SIOOBE_FORMATTER" "Ljava/util/function/BiFunction;" (.ref m)) (m : Addr) (hU : Sta Z Z.heap "sun/nio/cs/UTF_8" "INSTANCE" "Lsun/nio/cs/UTF_8;" (.ref m)) (hU8 : Sta Z Z.heap "java/nio/charset/StandardCharsets" "UTF_8" "Ljava/nio/charset/Charset;" (.ref m)) (hA : Ary Z h0 s .byte [.int b0, .int tb]) (hEs : Exa Z h0 s "[B") (hM : Exa Z h0 m "sun/nio/cs/UTF_8") : Con Z B7 (List.toArray [.ref s]) h0 (Q7A Z b0 tb yt h0) := by
  refine Con.mk hw pn7 (fun mid => ef7A mid s) (Go.old fun hle' => ?_)
  have hle := hle'.1
  refine Go.newO 3 rfl 35 4 5 d7_0 rfl rfl rfl (by decide) (by decide) fun h102 a101 g103 z104 K105 E106 D107 => ?_
  refine Go.dup 4 rfl d7_3 rfl ?_
  refine Go.aloadN 5 rfl d7_4 rfl rfl ?_
  have F108 : Exa Z h102 s "[B" := (hEs.keep K105)
  refine Go.castY 8 rfl 36 d7_5 rfl (Ins.self F108) ?_
  refine Go.getS 11 rfl (v := .ref m) 38 d7_8 rfl hU8 ?_
  have F109 : Ary Z h102 s .byte [.int b0, .int tb] := (hA.keep K105 nin0)
  have F110 : Exa Z h102 m "sun/nio/cs/UTF_8" := (hM.keep K105)
  refine Go.callI 14 rfl (C := B8) a101 [.ref s, .ref m] (rest := [.ref a101]) 40 41 5 42 (c8A Z hw h102 a101 s m b0 tb  yt g0 ht hyt cs hS hcs hAs hHi hLo hfm hU z104 E106 (D107 30 (Or.inr rfl) (ty := (.array .byte)) (by decide) : Fld Z h102 a101 "java/lang/String" "value" "[B" (.null)) (D107 28 (Or.inr rfl) (ty := .byte) (by decide) : Fld Z h102 a101 "java/lang/String" "coder" "B" (.int (0 : Int32))) F109 F108 F110) d7_11 rfl rfl rfl rfl rfl rfl (by decide) pd8 rfl rfl rfl (W := 1) (Nat.le_of_ble_eq_true rfl) (by decide) (by decide) (by decide) (by decide) fun v111 h112 q113 => ?_
  obtain ⟨rfl, t, g, K, F1, F2, A⟩ := q113
  have F114 : Exa Z h112 a101 "java/lang/String" := (E106.keep K)
  exact Go.retA d7_14 rfl rfl rfl (by decide) (by decide) ⟨a101, t, rfl, Nat.le_of_eq g103.symm, (by have := K105.1; omega), (((Keep.refl h0 []).trans K105 all0).trans K (allS (Or.inr (Nat.le_of_eq g103.symm)) all0)), F114, F1, F2, A⟩
theorem d13_0 : decode jdk_43_method_13_code 0 = .ok (.aload_n 0, 1) := by decide +kernel
theorem d13_1 : decode jdk_43_method_13_code 1 = .ok (.arraylength, 1) := by decide +kernel
theorem d13_2 : decode jdk_43_method_13_code 2 = .ok (.aload_n 1, 1) := by decide +kernel
theorem d13_3 : decode jdk_43_method_13_code 3 = .ok (.arraylength, 1) := by decide +kernel
theorem d13_4 : decode jdk_43_method_13_code 4 = .ok (.if_icmp .ne 30, 3) := by decide +kernel
theorem d13_7 : decode jdk_43_method_13_code 7 = .ok (.iconst 0, 1) := by decide +kernel
theorem d13_8 : decode jdk_43_method_13_code 8 = .ok (.istore_n 2, 1) := by decide +kernel
theorem d13_9 : decode jdk_43_method_13_code 9 = .ok (.iload_n 2, 1) := by decide +kernel
theorem d13_10 : decode jdk_43_method_13_code 10 = .ok (.aload_n 0, 1) := by decide +kernel
theorem d13_11 : decode jdk_43_method_13_code 11 = .ok (.arraylength, 1) := by decide +kernel
theorem d13_12 : decode jdk_43_method_13_code 12 = .ok (.if_icmp .ge 20, 3) := by decide +kernel
theorem d13_15 : decode jdk_43_method_13_code 15 = .ok (.aload_n 0, 1) := by decide +kernel
theorem d13_16 : decode jdk_43_method_13_code 16 = .ok (.iload_n 2, 1) := by decide +kernel
theorem d13_17 : decode jdk_43_method_13_code 17 = .ok (.baload, 1) := by decide +kernel
theorem d13_18 : decode jdk_43_method_13_code 18 = .ok (.aload_n 1, 1) := by decide +kernel
theorem d13_19 : decode jdk_43_method_13_code 19 = .ok (.iload_n 2, 1) := by decide +kernel
theorem d13_20 : decode jdk_43_method_13_code 20 = .ok (.baload, 1) := by decide +kernel
theorem d13_21 : decode jdk_43_method_13_code 21 = .ok (.if_icmp .eq 5, 3) := by decide +kernel
theorem d13_26 : decode jdk_43_method_13_code 26 = .ok (.iinc 2 1, 3) := by decide +kernel
theorem d13_29 : decode jdk_43_method_13_code 29 = .ok (.goto (-20), 3) := by decide +kernel
theorem d13_32 : decode jdk_43_method_13_code 32 = .ok (.iconst 1, 1) := by decide +kernel
theorem d13_33 : decode jdk_43_method_13_code 33 = .ok (.ireturn, 1) := by decide +kernel
theorem pd13 : parseMethodDescriptor "([B[B)Z" = some ⟨[(.array .byte), (.array .byte)], some .boolean⟩ := by decide +kernel
theorem pn13 : plainFor (⟨"java/lang/StringLatin1", "equals", "([B[B)Z"⟩ : MethodName) = true := by first | (refine plainFor_of_name ?_; simp [plainName, overriddenIn]; done) | (refine plainFor_of_name ?_; decide +kernel) | decide +kernel
abbrev B13 : Bd := ((⟨"java/lang/StringLatin1", "equals", "([B[B)Z"⟩ : MethodName), jdk_43_method_13_code, 3, (some .boolean), ({ frames := 0, cells := 0, slots := 0, locals := 0 } : Room), tables_1)
theorem ef13n6 (mid : MethodId) (t : Addr) (u : Addr) : entryFrame mid (List.toArray [.ref t, .ref u]) 3 = mkF mid 0 #[.val (.ref t), .val (.ref u), .unset] [] := by first | (simp [entryFrame, mkF, argsToLocals, Value.category]; done) | rfl
def Q13n6 (h0 : Heap) (v : Option Value) (h : Heap) : Prop := v = some (.int 1) ∧ h0 = h
set_option maxRecDepth 65536 in
set_option maxHeartbeats 40000000 in
theorem c13n6 (Z : State) (hw : Wd Z tables_1) (h0 : Heap) (t : Addr) (u : Addr)  (z0 : Int32) (z1 : Int32) (z2 : Int32) (z3 : Int32) (z4 : Int32) (z5 : Int32) (hA : Ary Z h0 t .byte [.int z0, .int z1, .int z2, .int z3, .int z4, .int z5]) (hB : Ary Z h0 u .byte [.int z0, .int z1, .int z2, .int z3, .int z4, .int z5]) : Con Z B13 (List.toArray [.ref t, .ref u]) h0 (Q13n6 h0) := by
  refine Con.mk hw pn13 (fun mid => ef13n6 mid t u) (Go.old fun hle' => ?_)
  have hle := hle'.1
  refine Go.aloadN 1 rfl d13_0 rfl rfl ?_
  refine Go.alen 2 rfl (6 : Int32) d13_1 hA rfl ?_
  refine Go.aloadN 3 rfl d13_2 rfl rfl ?_
  refine Go.alen 4 rfl (6 : Int32) d13_3 hB rfl ?_
  refine Go.icmp_ne 34 7 d13_4 (by decide) rfl rfl (fun (b101 : ¬ (6 : Int32) = (6 : Int32)) => ?_) (fun (b101 : (6 : Int32) = (6 : Int32)) => ?_)
  · exact absurd (show (6 : Int32) = (6 : Int32) from (by decide)) b101
  · refine Go.iconst 8 rfl (0 : Int32) d13_7 rfl ?_
    refine Go.istoreN 9 rfl d13_8 (Ls' := #[.val (.ref t), .val (.ref u), .val (.int (0 : Int32))]) rfl ?_
    refine Go.iloadN 10 rfl d13_9 rfl ?_
    refine Go.aloadN 11 rfl d13_10 rfl rfl ?_
    refine Go.alen 12 rfl (6 : Int32) d13_11 hA rfl ?_
    refine Go.icmp_ge 32 15 d13_12 (by decide) rfl rfl (fun (b102 : ¬ (0 : Int32) < (6 : Int32)) => ?_) (fun (b102 : (0 : Int32) < (6 : Int32)) => ?_)
    · exact absurd (show (0 : Int32) < (6 : Int32) from (by decide)) b102
    · refine Go.aloadN 16 rfl d13_15 rfl rfl ?_
      refine Go.iloadN 17 rfl d13_16 rfl ?_
      refine Go.baload 18 rfl z0 d13_17 hA 0 rfl rfl ?_
      refine Go.aloadN 19 rfl d13_18 rfl rfl ?_
      refine Go.iloadN 20 rfl d13_19 rfl ?_
      refine Go.baload 21 rfl z0 d13_20 hB 0 rfl rfl ?_
      refine Go.icmp_eq 26 24 d13_21 (by decide) rfl rfl (fun (b103 : z0 = z0) => ?_) (fun (b103 : ¬ z0 = z0) => ?_)
      · refine Go.iinc 29 rfl (1 : Int32) d13_26 rfl rfl (Ls' := #[.val (.ref t), .val (.ref u), .val (.int ((0 : Int32) + (1 : Int32)))]) rfl ?_
        refine Go.goto 9 d13_29 (by decide) (by decide) ?_
        refine Go.iloadN 10 rfl d13_9 rfl ?_
        refine Go.aloadN 11 rfl d13_10 rfl rfl ?_
        refine Go.alen 12 rfl (6 : Int32) d13_11 hA rfl ?_
        refine Go.icmp_ge 32 15 d13_12 (by decide) rfl rfl (fun (b104 : ¬ ((0 : Int32) + (1 : Int32)) < (6 : Int32)) => ?_) (fun (b104 : ((0 : Int32) + (1 : Int32)) < (6 : Int32)) => ?_)
        · exact absurd (show ((0 : Int32) + (1 : Int32)) < (6 : Int32) from (by decide)) b104
        · refine Go.aloadN 16 rfl d13_15 rfl rfl ?_
          refine Go.iloadN 17 rfl d13_16 rfl ?_
          refine Go.baload 18 rfl z1 d13_17 hA 1 rfl rfl ?_
          refine Go.aloadN 19 rfl d13_18 rfl rfl ?_
          refine Go.iloadN 20 rfl d13_19 rfl ?_
          refine Go.baload 21 rfl z1 d13_20 hB 1 rfl rfl ?_
          refine Go.icmp_eq 26 24 d13_21 (by decide) rfl rfl (fun (b105 : z1 = z1) => ?_) (fun (b105 : ¬ z1 = z1) => ?_)
          · refine Go.iinc 29 rfl (1 : Int32) d13_26 rfl rfl (Ls' := #[.val (.ref t), .val (.ref u), .val (.int (((0 : Int32) + (1 : Int32)) + (1 : Int32)))]) rfl ?_
            refine Go.goto 9 d13_29 (by decide) (by decide) ?_
            refine Go.iloadN 10 rfl d13_9 rfl ?_
            refine Go.aloadN 11 rfl d13_10 rfl rfl ?_
            refine Go.alen 12 rfl (6 : Int32) d13_11 hA rfl ?_
            refine Go.icmp_ge 32 15 d13_12 (by decide) rfl rfl (fun (b106 : ¬ (((0 : Int32) + (1 : Int32)) + (1 : Int32)) < (6 : Int32)) => ?_) (fun (b106 : (((0 : Int32) + (1 : Int32)) + (1 : Int32)) < (6 : Int32)) => ?_)
            · exact absurd (show (((0 : Int32) + (1 : Int32)) + (1 : Int32)) < (6 : Int32) from (by decide)) b106
            · refine Go.aloadN 16 rfl d13_15 rfl rfl ?_
              refine Go.iloadN 17 rfl d13_16 rfl ?_
              refine Go.baload 18 rfl z2 d13_17 hA 2 rfl rfl ?_
              refine Go.aloadN 19 rfl d13_18 rfl rfl ?_
              refine Go.iloadN 20 rfl d13_19 rfl ?_
              refine Go.baload 21 rfl z2 d13_20 hB 2 rfl rfl ?_
              refine Go.icmp_eq 26 24 d13_21 (by decide) rfl rfl (fun (b107 : z2 = z2) => ?_) (fun (b107 : ¬ z2 = z2) => ?_)
              · refine Go.iinc 29 rfl (1 : Int32) d13_26 rfl rfl (Ls' := #[.val (.ref t), .val (.ref u), .val (.int ((((0 : Int32) + (1 : Int32)) + (1 : Int32)) + (1 : Int32)))]) rfl ?_
                refine Go.goto 9 d13_29 (by decide) (by decide) ?_
                refine Go.iloadN 10 rfl d13_9 rfl ?_
                refine Go.aloadN 11 rfl d13_10 rfl rfl ?_
                refine Go.alen 12 rfl (6 : Int32) d13_11 hA rfl ?_
                refine Go.icmp_ge 32 15 d13_12 (by decide) rfl rfl (fun (b108 : ¬ ((((0 : Int32) + (1 : Int32)) + (1 : Int32)) + (1 : Int32)) < (6 : Int32)) => ?_) (fun (b108 : ((((0 : Int32) + (1 : Int32)) + (1 : Int32)) + (1 : Int32)) < (6 : Int32)) => ?_)
                · exact absurd (show ((((0 : Int32) + (1 : Int32)) + (1 : Int32)) + (1 : Int32)) < (6 : Int32) from (by decide)) b108
                · refine Go.aloadN 16 rfl d13_15 rfl rfl ?_
                  refine Go.iloadN 17 rfl d13_16 rfl ?_
                  refine Go.baload 18 rfl z3 d13_17 hA 3 rfl rfl ?_
                  refine Go.aloadN 19 rfl d13_18 rfl rfl ?_
                  refine Go.iloadN 20 rfl d13_19 rfl ?_
                  refine Go.baload 21 rfl z3 d13_20 hB 3 rfl rfl ?_
                  refine Go.icmp_eq 26 24 d13_21 (by decide) rfl rfl (fun (b109 : z3 = z3) => ?_) (fun (b109 : ¬ z3 = z3) => ?_)
                  · refine Go.iinc 29 rfl (1 : Int32) d13_26 rfl rfl (Ls' := #[.val (.ref t), .val (.ref u), .val (.int (((((0 : Int32) + (1 : Int32)) + (1 : Int32)) + (1 : Int32)) + (1 : Int32)))]) rfl ?_
                    refine Go.goto 9 d13_29 (by decide) (by decide) ?_
                    refine Go.iloadN 10 rfl d13_9 rfl ?_
                    refine Go.aloadN 11 rfl d13_10 rfl rfl ?_
                    refine Go.alen 12 rfl (6 : Int32) d13_11 hA rfl ?_
                    refine Go.icmp_ge 32 15 d13_12 (by decide) rfl rfl (fun (b110 : ¬ (((((0 : Int32) + (1 : Int32)) + (1 : Int32)) + (1 : Int32)) + (1 : Int32)) < (6 : Int32)) => ?_) (fun (b110 : (((((0 : Int32) + (1 : Int32)) + (1 : Int32)) + (1 : Int32)) + (1 : Int32)) < (6 : Int32)) => ?_)
                    · exact absurd (show (((((0 : Int32) + (1 : Int32)) + (1 : Int32)) + (1 : Int32)) + (1 : Int32)) < (6 : Int32) from (by decide)) b110
                    · refine Go.aloadN 16 rfl d13_15 rfl rfl ?_
                      refine Go.iloadN 17 rfl d13_16 rfl ?_
                      refine Go.baload 18 rfl z4 d13_17 hA 4 rfl rfl ?_
                      refine Go.aloadN 19 rfl d13_18 rfl rfl ?_
                      refine Go.iloadN 20 rfl d13_19 rfl ?_
                      refine Go.baload 21 rfl z4 d13_20 hB 4 rfl rfl ?_
                      refine Go.icmp_eq 26 24 d13_21 (by decide) rfl rfl (fun (b111 : z4 = z4) => ?_) (fun (b111 : ¬ z4 = z4) => ?_)
                      · refine Go.iinc 29 rfl (1 : Int32) d13_26 rfl rfl (Ls' := #[.val (.ref t), .val (.ref u), .val (.int ((((((0 : Int32) + (1 : Int32)) + (1 : Int32)) + (1 : Int32)) + (1 : Int32)) + (1 : Int32)))]) rfl ?_
                        refine Go.goto 9 d13_29 (by decide) (by decide) ?_
                        refine Go.iloadN 10 rfl d13_9 rfl ?_
                        refine Go.aloadN 11 rfl d13_10 rfl rfl ?_
                        refine Go.alen 12 rfl (6 : Int32) d13_11 hA rfl ?_
                        refine Go.icmp_ge 32 15 d13_12 (by decide) rfl rfl (fun (b112 : ¬ ((((((0 : Int32) + (1 : Int32)) + (1 : Int32)) + (1 : Int32)) + (1 : Int32)) + (1 : Int32)) < (6 : Int32)) => ?_) (fun (b112 : ((((((0 : Int32) + (1 : Int32)) + (1 : Int32)) + (1 : Int32)) + (1 : Int32)) + (1 : Int32)) < (6 : Int32)) => ?_)
                        · exact absurd (show ((((((0 : Int32) + (1 : Int32)) + (1 : Int32)) + (1 : Int32)) + (1 : Int32)) + (1 : Int32)) < (6 : Int32) from (by decide)) b112
                        · refine Go.aloadN 16 rfl d13_15 rfl rfl ?_
                          refine Go.iloadN 17 rfl d13_16 rfl ?_
                          refine Go.baload 18 rfl z5 d13_17 hA 5 rfl rfl ?_
                          refine Go.aloadN 19 rfl d13_18 rfl rfl ?_
                          refine Go.iloadN 20 rfl d13_19 rfl ?_
                          refine Go.baload 21 rfl z5 d13_20 hB 5 rfl rfl ?_
                          refine Go.icmp_eq 26 24 d13_21 (by decide) rfl rfl (fun (b113 : z5 = z5) => ?_) (fun (b113 : ¬ z5 = z5) => ?_)
                          · refine Go.iinc 29 rfl (1 : Int32) d13_26 rfl rfl (Ls' := #[.val (.ref t), .val (.ref u), .val (.int (((((((0 : Int32) + (1 : Int32)) + (1 : Int32)) + (1 : Int32)) + (1 : Int32)) + (1 : Int32)) + (1 : Int32)))]) rfl ?_
                            refine Go.goto 9 d13_29 (by decide) (by decide) ?_
                            refine Go.iloadN 10 rfl d13_9 rfl ?_
                            refine Go.aloadN 11 rfl d13_10 rfl rfl ?_
                            refine Go.alen 12 rfl (6 : Int32) d13_11 hA rfl ?_
                            refine Go.icmp_ge 32 15 d13_12 (by decide) rfl rfl (fun (b114 : ¬ (((((((0 : Int32) + (1 : Int32)) + (1 : Int32)) + (1 : Int32)) + (1 : Int32)) + (1 : Int32)) + (1 : Int32)) < (6 : Int32)) => ?_) (fun (b114 : (((((((0 : Int32) + (1 : Int32)) + (1 : Int32)) + (1 : Int32)) + (1 : Int32)) + (1 : Int32)) + (1 : Int32)) < (6 : Int32)) => ?_)
                            · refine Go.iconst 33 rfl (1 : Int32) d13_32 rfl ?_
                              exact Go.retN (t := .boolean) (z' := 1) d13_33 rfl (by decide) (by decide) (by decide) (by decide) ⟨rfl, rfl⟩
                            · exact absurd b114 (show ¬ (((((((0 : Int32) + (1 : Int32)) + (1 : Int32)) + (1 : Int32)) + (1 : Int32)) + (1 : Int32)) + (1 : Int32)) < (6 : Int32) from (by decide))
                          · exact absurd (show z5 = z5 from rfl) b113
                      · exact absurd (show z4 = z4 from rfl) b111
                  · exact absurd (show z3 = z3 from rfl) b109
              · exact absurd (show z2 = z2 from rfl) b107
          · exact absurd (show z1 = z1 from rfl) b105
      · exact absurd (show z0 = z0 from rfl) b103
theorem d12_0 : decode jdk_42_method_66_code 0 = .ok (.aload_n 0, 1) := by decide +kernel
theorem d12_1 : decode jdk_42_method_66_code 1 = .ok (.aload_n 1, 1) := by decide +kernel
theorem d12_2 : decode jdk_42_method_66_code 2 = .ok (.if_acmp .ne 5, 3) := by decide +kernel
theorem d12_5 : decode jdk_42_method_66_code 5 = .ok (.iconst 1, 1) := by decide +kernel
theorem d12_6 : decode jdk_42_method_66_code 6 = .ok (.ireturn, 1) := by decide +kernel
theorem d12_7 : decode jdk_42_method_66_code 7 = .ok (.aload_n 1, 1) := by decide +kernel
theorem d12_8 : decode jdk_42_method_66_code 8 = .ok (.instanceof 10, 3) := by decide +kernel
theorem d12_11 : decode jdk_42_method_66_code 11 = .ok (.ifCond .eq 43, 3) := by decide +kernel
theorem d12_14 : decode jdk_42_method_66_code 14 = .ok (.aload_n 1, 1) := by decide +kernel
theorem d12_15 : decode jdk_42_method_66_code 15 = .ok (.checkcast 10, 3) := by decide +kernel
theorem d12_18 : decode jdk_42_method_66_code 18 = .ok (.astore_n 2, 1) := by decide +kernel
theorem d12_19 : decode jdk_42_method_66_code 19 = .ok (.getstatic 38, 3) := by decide +kernel
theorem d12_22 : decode jdk_42_method_66_code 22 = .ok (.ifCond .eq 14, 3) := by decide +kernel
theorem d12_25 : decode jdk_42_method_66_code 25 = .ok (.aload_n 0, 1) := by decide +kernel
theorem d12_26 : decode jdk_42_method_66_code 26 = .ok (.getfield 15, 3) := by decide +kernel
theorem d12_29 : decode jdk_42_method_66_code 29 = .ok (.aload_n 2, 1) := by decide +kernel
theorem d12_30 : decode jdk_42_method_66_code 30 = .ok (.getfield 15, 3) := by decide +kernel
theorem d12_33 : decode jdk_42_method_66_code 33 = .ok (.if_icmp .ne 21, 3) := by decide +kernel
theorem d12_36 : decode jdk_42_method_66_code 36 = .ok (.aload_n 0, 1) := by decide +kernel
theorem d12_37 : decode jdk_42_method_66_code 37 = .ok (.getfield 9, 3) := by decide +kernel
theorem d12_40 : decode jdk_42_method_66_code 40 = .ok (.aload_n 2, 1) := by decide +kernel
theorem d12_41 : decode jdk_42_method_66_code 41 = .ok (.getfield 9, 3) := by decide +kernel
theorem d12_44 : decode jdk_42_method_66_code 44 = .ok (.invokestatic 541, 3) := by decide +kernel
theorem d12_47 : decode jdk_42_method_66_code 47 = .ok (.ifCond .eq 7, 3) := by decide +kernel
theorem d12_50 : decode jdk_42_method_66_code 50 = .ok (.iconst 1, 1) := by decide +kernel
theorem d12_51 : decode jdk_42_method_66_code 51 = .ok (.goto 4, 3) := by decide +kernel
theorem d12_55 : decode jdk_42_method_66_code 55 = .ok (.ireturn, 1) := by decide +kernel
theorem pd12 : parseMethodDescriptor "(Ljava/lang/Object;)Z" = some ⟨[(.object "java/lang/Object")], some .boolean⟩ := by decide +kernel
theorem pn12 : plainFor (⟨"java/lang/String", "equals", "(Ljava/lang/Object;)Z"⟩ : MethodName) = true := by first | (refine plainFor_of_name ?_; simp [plainName, overriddenIn]; done) | (refine plainFor_of_name ?_; decide +kernel) | decide +kernel
abbrev B12 : Bd := ((⟨"java/lang/String", "equals", "(Ljava/lang/Object;)Z"⟩ : MethodName), jdk_42_method_66_code, 3, (some .boolean), ({ frames := 1, cells := 0, slots := 0, locals := 14 } : Room), tables_1)
theorem ef12n6 (mid : MethodId) (a : Addr) (b : Addr) : entryFrame mid (List.toArray [.ref a, .ref b]) 3 = mkF mid 0 #[.val (.ref a), .val (.ref b), .unset] [] := by first | (simp [entryFrame, mkF, argsToLocals, Value.category]; done) | rfl
def Q12n6 (h0 : Heap) (v : Option Value) (h : Heap) : Prop := v = some (.int 1) ∧ h0 = h
set_option maxRecDepth 65536 in
set_option maxHeartbeats 40000000 in
theorem c12n6 (Z : State) (hw : Wd Z tables_1) (h0 : Heap) (a : Addr) (b : Addr)  (t : Addr) (u : Addr) (z0 : Int32) (z1 : Int32) (z2 : Int32) (z3 : Int32) (z4 : Int32) (z5 : Int32) (cs : Int32) (hS : Sta Z Z.heap "java/lang/String" "COMPACT_STRINGS" "Z" (.int cs)) (hcs : ¬ cs = 0) (hE : Exa Z h0 b "java/lang/String") (hV : Fld Z h0 a "java/lang/String" "value" "[B" (.ref t)) (hC : Fld Z h0 a "java/lang/String" "coder" "B" (.int 1)) (hV2 : Fld Z h0 b "java/lang/String" "value" "[B" (.ref u)) (hC2 : Fld Z h0 b "java/lang/String" "coder" "B" (.int 1)) (hA : Ary Z h0 t .byte [.int z0, .int z1, .int z2, .int z3, .int z4, .int z5]) (hB : Ary Z h0 u .byte [.int z0, .int z1, .int z2, .int z3, .int z4, .int z5]) : Con Z B12 (List.toArray [.ref a, .ref b]) h0 (Q12n6 h0) := by
  refine Con.mk hw pn12 (fun mid => ef12n6 mid a b) (Go.old fun hle' => ?_)
  have hle := hle'.1
  refine Go.aloadN 1 rfl d12_0 rfl rfl ?_
  refine Go.aloadN 2 rfl d12_1 rfl rfl ?_
  refine Go.acmp_ne 7 5 d12_2 (by decide) rfl rfl rfl rfl (fun (b101 : ¬ (.ref a : Value) = .ref b) => ?_) (fun (b101 : (.ref a : Value) = .ref b) => ?_)
  · refine Go.aloadN 8 rfl d12_7 rfl rfl ?_
    refine Go.instY 11 rfl 75 d12_8 rfl (Ins.self hE) ?_
    refine Go.if_eq 54 14 d12_11 (by decide) rfl rfl (fun (b102 : (1 : Int32) = 0) => ?_) (fun (b102 : ¬ (1 : Int32) = 0) => ?_)
    · exact absurd b102 (show ¬ (1 : Int32) = 0 from (by decide))
    · refine Go.aloadN 15 rfl d12_14 rfl rfl ?_
      refine Go.castY 18 rfl 75 d12_15 rfl (Ins.self hE) ?_
      refine Go.astoreN 19 rfl d12_18 rfl (Ls' := #[.val (.ref a), .val (.ref b), .val (.ref b)]) rfl ?_
      refine Go.getS 22 rfl (v := .int cs) 16 d12_19 rfl hS ?_
      refine Go.if_eq 36 25 d12_22 (by decide) rfl rfl (fun (b103 : cs = 0) => ?_) (fun (b103 : ¬ cs = 0) => ?_)
      · exact absurd b103 (show ¬ cs = 0 from hcs)
      · refine Go.aloadN 26 rfl d12_25 rfl rfl ?_
        refine Go.getF 29 rfl (v := .int (1 : Int32)) 27 d12_26 rfl hC ?_
        refine Go.aloadN 30 rfl d12_29 rfl rfl ?_
        refine Go.getF 33 rfl (v := .int (1 : Int32)) 27 d12_30 rfl hC2 ?_
        refine Go.icmp_ne 54 36 d12_33 (by decide) rfl rfl (fun (b104 : ¬ (1 : Int32) = (1 : Int32)) => ?_) (fun (b104 : (1 : Int32) = (1 : Int32)) => ?_)
        · exact absurd (show (1 : Int32) = (1 : Int32) from (by decide)) b104
        · refine Go.aloadN 37 rfl d12_36 rfl rfl ?_
          refine Go.getF 40 rfl (v := .ref t) 29 d12_37 rfl hV ?_
          refine Go.aloadN 41 rfl d12_40 rfl rfl ?_
          refine Go.getF 44 rfl (v := .ref u) 29 d12_41 rfl hV2 ?_
          refine Go.callS 47 rfl (C := B13) [.ref t, .ref u] (rest := []) 76 77 78 79 (c13n6 Z hw h0 t u z0 z1 z2 z3 z4 z5 hA hB) d12_44 rfl rfl rfl rfl (by decide) pd13 rfl rfl rfl (W := 0) (Nat.le_of_ble_eq_true rfl) (by decide) (by decide) (by decide) (by decide) fun v105 h106 q107 => ?_
          obtain ⟨rfl, rfl⟩ := q107
          refine Go.if_eq 54 50 d12_47 (by decide) rfl rfl (fun (b108 : (1 : Int32) = 0) => ?_) (fun (b108 : ¬ (1 : Int32) = 0) => ?_)
          · exact absurd b108 (show ¬ (1 : Int32) = 0 from (by decide))
          · refine Go.iconst 51 rfl (1 : Int32) d12_50 rfl ?_
            refine Go.goto 55 d12_51 (by decide) (by decide) ?_
            exact Go.retN (t := .boolean) (z' := 1) d12_55 rfl (by decide) (by decide) (by decide) (by decide) ⟨rfl, rfl⟩
  · refine Go.iconst 6 rfl (1 : Int32) d12_5 rfl ?_
    exact Go.retN (t := .boolean) (z' := 1) d12_6 rfl (by decide) (by decide) (by decide) (by decide) ⟨rfl, rfl⟩
theorem ef13n4 (mid : MethodId) (t : Addr) (u : Addr) : entryFrame mid (List.toArray [.ref t, .ref u]) 3 = mkF mid 0 #[.val (.ref t), .val (.ref u), .unset] [] := by first | (simp [entryFrame, mkF, argsToLocals, Value.category]; done) | rfl
def Q13n4 (h0 : Heap) (v : Option Value) (h : Heap) : Prop := v = some (.int 1) ∧ h0 = h
set_option maxRecDepth 65536 in
set_option maxHeartbeats 40000000 in
theorem c13n4 (Z : State) (hw : Wd Z tables_1) (h0 : Heap) (t : Addr) (u : Addr)  (z0 : Int32) (z1 : Int32) (z2 : Int32) (z3 : Int32) (hA : Ary Z h0 t .byte [.int z0, .int z1, .int z2, .int z3]) (hB : Ary Z h0 u .byte [.int z0, .int z1, .int z2, .int z3]) : Con Z B13 (List.toArray [.ref t, .ref u]) h0 (Q13n4 h0) := by
  refine Con.mk hw pn13 (fun mid => ef13n4 mid t u) (Go.old fun hle' => ?_)
  have hle := hle'.1
  refine Go.aloadN 1 rfl d13_0 rfl rfl ?_
  refine Go.alen 2 rfl (4 : Int32) d13_1 hA rfl ?_
  refine Go.aloadN 3 rfl d13_2 rfl rfl ?_
  refine Go.alen 4 rfl (4 : Int32) d13_3 hB rfl ?_
  refine Go.icmp_ne 34 7 d13_4 (by decide) rfl rfl (fun (b101 : ¬ (4 : Int32) = (4 : Int32)) => ?_) (fun (b101 : (4 : Int32) = (4 : Int32)) => ?_)
  · exact absurd (show (4 : Int32) = (4 : Int32) from (by decide)) b101
  · refine Go.iconst 8 rfl (0 : Int32) d13_7 rfl ?_
    refine Go.istoreN 9 rfl d13_8 (Ls' := #[.val (.ref t), .val (.ref u), .val (.int (0 : Int32))]) rfl ?_
    refine Go.iloadN 10 rfl d13_9 rfl ?_
    refine Go.aloadN 11 rfl d13_10 rfl rfl ?_
    refine Go.alen 12 rfl (4 : Int32) d13_11 hA rfl ?_
    refine Go.icmp_ge 32 15 d13_12 (by decide) rfl rfl (fun (b102 : ¬ (0 : Int32) < (4 : Int32)) => ?_) (fun (b102 : (0 : Int32) < (4 : Int32)) => ?_)
    · exact absurd (show (0 : Int32) < (4 : Int32) from (by decide)) b102
    · refine Go.aloadN 16 rfl d13_15 rfl rfl ?_
      refine Go.iloadN 17 rfl d13_16 rfl ?_
      refine Go.baload 18 rfl z0 d13_17 hA 0 rfl rfl ?_
      refine Go.aloadN 19 rfl d13_18 rfl rfl ?_
      refine Go.iloadN 20 rfl d13_19 rfl ?_
      refine Go.baload 21 rfl z0 d13_20 hB 0 rfl rfl ?_
      refine Go.icmp_eq 26 24 d13_21 (by decide) rfl rfl (fun (b103 : z0 = z0) => ?_) (fun (b103 : ¬ z0 = z0) => ?_)
      · refine Go.iinc 29 rfl (1 : Int32) d13_26 rfl rfl (Ls' := #[.val (.ref t), .val (.ref u), .val (.int ((0 : Int32) + (1 : Int32)))]) rfl ?_
        refine Go.goto 9 d13_29 (by decide) (by decide) ?_
        refine Go.iloadN 10 rfl d13_9 rfl ?_
        refine Go.aloadN 11 rfl d13_10 rfl rfl ?_
        refine Go.alen 12 rfl (4 : Int32) d13_11 hA rfl ?_
        refine Go.icmp_ge 32 15 d13_12 (by decide) rfl rfl (fun (b104 : ¬ ((0 : Int32) + (1 : Int32)) < (4 : Int32)) => ?_) (fun (b104 : ((0 : Int32) + (1 : Int32)) < (4 : Int32)) => ?_)
        · exact absurd (show ((0 : Int32) + (1 : Int32)) < (4 : Int32) from (by decide)) b104
        · refine Go.aloadN 16 rfl d13_15 rfl rfl ?_
          refine Go.iloadN 17 rfl d13_16 rfl ?_
          refine Go.baload 18 rfl z1 d13_17 hA 1 rfl rfl ?_
          refine Go.aloadN 19 rfl d13_18 rfl rfl ?_
          refine Go.iloadN 20 rfl d13_19 rfl ?_
          refine Go.baload 21 rfl z1 d13_20 hB 1 rfl rfl ?_
          refine Go.icmp_eq 26 24 d13_21 (by decide) rfl rfl (fun (b105 : z1 = z1) => ?_) (fun (b105 : ¬ z1 = z1) => ?_)
          · refine Go.iinc 29 rfl (1 : Int32) d13_26 rfl rfl (Ls' := #[.val (.ref t), .val (.ref u), .val (.int (((0 : Int32) + (1 : Int32)) + (1 : Int32)))]) rfl ?_
            refine Go.goto 9 d13_29 (by decide) (by decide) ?_
            refine Go.iloadN 10 rfl d13_9 rfl ?_
            refine Go.aloadN 11 rfl d13_10 rfl rfl ?_
            refine Go.alen 12 rfl (4 : Int32) d13_11 hA rfl ?_
            refine Go.icmp_ge 32 15 d13_12 (by decide) rfl rfl (fun (b106 : ¬ (((0 : Int32) + (1 : Int32)) + (1 : Int32)) < (4 : Int32)) => ?_) (fun (b106 : (((0 : Int32) + (1 : Int32)) + (1 : Int32)) < (4 : Int32)) => ?_)
            · exact absurd (show (((0 : Int32) + (1 : Int32)) + (1 : Int32)) < (4 : Int32) from (by decide)) b106
            · refine Go.aloadN 16 rfl d13_15 rfl rfl ?_
              refine Go.iloadN 17 rfl d13_16 rfl ?_
              refine Go.baload 18 rfl z2 d13_17 hA 2 rfl rfl ?_
              refine Go.aloadN 19 rfl d13_18 rfl rfl ?_
              refine Go.iloadN 20 rfl d13_19 rfl ?_
              refine Go.baload 21 rfl z2 d13_20 hB 2 rfl rfl ?_
              refine Go.icmp_eq 26 24 d13_21 (by decide) rfl rfl (fun (b107 : z2 = z2) => ?_) (fun (b107 : ¬ z2 = z2) => ?_)
              · refine Go.iinc 29 rfl (1 : Int32) d13_26 rfl rfl (Ls' := #[.val (.ref t), .val (.ref u), .val (.int ((((0 : Int32) + (1 : Int32)) + (1 : Int32)) + (1 : Int32)))]) rfl ?_
                refine Go.goto 9 d13_29 (by decide) (by decide) ?_
                refine Go.iloadN 10 rfl d13_9 rfl ?_
                refine Go.aloadN 11 rfl d13_10 rfl rfl ?_
                refine Go.alen 12 rfl (4 : Int32) d13_11 hA rfl ?_
                refine Go.icmp_ge 32 15 d13_12 (by decide) rfl rfl (fun (b108 : ¬ ((((0 : Int32) + (1 : Int32)) + (1 : Int32)) + (1 : Int32)) < (4 : Int32)) => ?_) (fun (b108 : ((((0 : Int32) + (1 : Int32)) + (1 : Int32)) + (1 : Int32)) < (4 : Int32)) => ?_)
                · exact absurd (show ((((0 : Int32) + (1 : Int32)) + (1 : Int32)) + (1 : Int32)) < (4 : Int32) from (by decide)) b108
                · refine Go.aloadN 16 rfl d13_15 rfl rfl ?_
                  refine Go.iloadN 17 rfl d13_16 rfl ?_
                  refine Go.baload 18 rfl z3 d13_17 hA 3 rfl rfl ?_
                  refine Go.aloadN 19 rfl d13_18 rfl rfl ?_
                  refine Go.iloadN 20 rfl d13_19 rfl ?_
                  refine Go.baload 21 rfl z3 d13_20 hB 3 rfl rfl ?_
                  refine Go.icmp_eq 26 24 d13_21 (by decide) rfl rfl (fun (b109 : z3 = z3) => ?_) (fun (b109 : ¬ z3 = z3) => ?_)
                  · refine Go.iinc 29 rfl (1 : Int32) d13_26 rfl rfl (Ls' := #[.val (.ref t), .val (.ref u), .val (.int (((((0 : Int32) + (1 : Int32)) + (1 : Int32)) + (1 : Int32)) + (1 : Int32)))]) rfl ?_
                    refine Go.goto 9 d13_29 (by decide) (by decide) ?_
                    refine Go.iloadN 10 rfl d13_9 rfl ?_
                    refine Go.aloadN 11 rfl d13_10 rfl rfl ?_
                    refine Go.alen 12 rfl (4 : Int32) d13_11 hA rfl ?_
                    refine Go.icmp_ge 32 15 d13_12 (by decide) rfl rfl (fun (b110 : ¬ (((((0 : Int32) + (1 : Int32)) + (1 : Int32)) + (1 : Int32)) + (1 : Int32)) < (4 : Int32)) => ?_) (fun (b110 : (((((0 : Int32) + (1 : Int32)) + (1 : Int32)) + (1 : Int32)) + (1 : Int32)) < (4 : Int32)) => ?_)
                    · refine Go.iconst 33 rfl (1 : Int32) d13_32 rfl ?_
                      exact Go.retN (t := .boolean) (z' := 1) d13_33 rfl (by decide) (by decide) (by decide) (by decide) ⟨rfl, rfl⟩
                    · exact absurd b110 (show ¬ (((((0 : Int32) + (1 : Int32)) + (1 : Int32)) + (1 : Int32)) + (1 : Int32)) < (4 : Int32) from (by decide))
                  · exact absurd (show z3 = z3 from rfl) b109
              · exact absurd (show z2 = z2 from rfl) b107
          · exact absurd (show z1 = z1 from rfl) b105
      · exact absurd (show z0 = z0 from rfl) b103
theorem ef12n4 (mid : MethodId) (a : Addr) (b : Addr) : entryFrame mid (List.toArray [.ref a, .ref b]) 3 = mkF mid 0 #[.val (.ref a), .val (.ref b), .unset] [] := by first | (simp [entryFrame, mkF, argsToLocals, Value.category]; done) | rfl
def Q12n4 (h0 : Heap) (v : Option Value) (h : Heap) : Prop := v = some (.int 1) ∧ h0 = h
set_option maxRecDepth 65536 in
set_option maxHeartbeats 40000000 in
theorem c12n4 (Z : State) (hw : Wd Z tables_1) (h0 : Heap) (a : Addr) (b : Addr)  (t : Addr) (u : Addr) (z0 : Int32) (z1 : Int32) (z2 : Int32) (z3 : Int32) (cs : Int32) (hS : Sta Z Z.heap "java/lang/String" "COMPACT_STRINGS" "Z" (.int cs)) (hcs : ¬ cs = 0) (hE : Exa Z h0 b "java/lang/String") (hV : Fld Z h0 a "java/lang/String" "value" "[B" (.ref t)) (hC : Fld Z h0 a "java/lang/String" "coder" "B" (.int 1)) (hV2 : Fld Z h0 b "java/lang/String" "value" "[B" (.ref u)) (hC2 : Fld Z h0 b "java/lang/String" "coder" "B" (.int 1)) (hA : Ary Z h0 t .byte [.int z0, .int z1, .int z2, .int z3]) (hB : Ary Z h0 u .byte [.int z0, .int z1, .int z2, .int z3]) : Con Z B12 (List.toArray [.ref a, .ref b]) h0 (Q12n4 h0) := by
  refine Con.mk hw pn12 (fun mid => ef12n4 mid a b) (Go.old fun hle' => ?_)
  have hle := hle'.1
  refine Go.aloadN 1 rfl d12_0 rfl rfl ?_
  refine Go.aloadN 2 rfl d12_1 rfl rfl ?_
  refine Go.acmp_ne 7 5 d12_2 (by decide) rfl rfl rfl rfl (fun (b101 : ¬ (.ref a : Value) = .ref b) => ?_) (fun (b101 : (.ref a : Value) = .ref b) => ?_)
  · refine Go.aloadN 8 rfl d12_7 rfl rfl ?_
    refine Go.instY 11 rfl 75 d12_8 rfl (Ins.self hE) ?_
    refine Go.if_eq 54 14 d12_11 (by decide) rfl rfl (fun (b102 : (1 : Int32) = 0) => ?_) (fun (b102 : ¬ (1 : Int32) = 0) => ?_)
    · exact absurd b102 (show ¬ (1 : Int32) = 0 from (by decide))
    · refine Go.aloadN 15 rfl d12_14 rfl rfl ?_
      refine Go.castY 18 rfl 75 d12_15 rfl (Ins.self hE) ?_
      refine Go.astoreN 19 rfl d12_18 rfl (Ls' := #[.val (.ref a), .val (.ref b), .val (.ref b)]) rfl ?_
      refine Go.getS 22 rfl (v := .int cs) 16 d12_19 rfl hS ?_
      refine Go.if_eq 36 25 d12_22 (by decide) rfl rfl (fun (b103 : cs = 0) => ?_) (fun (b103 : ¬ cs = 0) => ?_)
      · exact absurd b103 (show ¬ cs = 0 from hcs)
      · refine Go.aloadN 26 rfl d12_25 rfl rfl ?_
        refine Go.getF 29 rfl (v := .int (1 : Int32)) 27 d12_26 rfl hC ?_
        refine Go.aloadN 30 rfl d12_29 rfl rfl ?_
        refine Go.getF 33 rfl (v := .int (1 : Int32)) 27 d12_30 rfl hC2 ?_
        refine Go.icmp_ne 54 36 d12_33 (by decide) rfl rfl (fun (b104 : ¬ (1 : Int32) = (1 : Int32)) => ?_) (fun (b104 : (1 : Int32) = (1 : Int32)) => ?_)
        · exact absurd (show (1 : Int32) = (1 : Int32) from (by decide)) b104
        · refine Go.aloadN 37 rfl d12_36 rfl rfl ?_
          refine Go.getF 40 rfl (v := .ref t) 29 d12_37 rfl hV ?_
          refine Go.aloadN 41 rfl d12_40 rfl rfl ?_
          refine Go.getF 44 rfl (v := .ref u) 29 d12_41 rfl hV2 ?_
          refine Go.callS 47 rfl (C := B13) [.ref t, .ref u] (rest := []) 76 77 78 79 (c13n4 Z hw h0 t u z0 z1 z2 z3 hA hB) d12_44 rfl rfl rfl rfl (by decide) pd13 rfl rfl rfl (W := 0) (Nat.le_of_ble_eq_true rfl) (by decide) (by decide) (by decide) (by decide) fun v105 h106 q107 => ?_
          obtain ⟨rfl, rfl⟩ := q107
          refine Go.if_eq 54 50 d12_47 (by decide) rfl rfl (fun (b108 : (1 : Int32) = 0) => ?_) (fun (b108 : ¬ (1 : Int32) = 0) => ?_)
          · exact absurd b108 (show ¬ (1 : Int32) = 0 from (by decide))
          · refine Go.iconst 51 rfl (1 : Int32) d12_50 rfl ?_
            refine Go.goto 55 d12_51 (by decide) (by decide) ?_
            exact Go.retN (t := .boolean) (z' := 1) d12_55 rfl (by decide) (by decide) (by decide) (by decide) ⟨rfl, rfl⟩
  · refine Go.iconst 6 rfl (1 : Int32) d12_5 rfl ?_
    exact Go.retN (t := .boolean) (z' := 1) d12_6 rfl (by decide) (by decide) (by decide) (by decide) ⟨rfl, rfl⟩
theorem ef13n2 (mid : MethodId) (t : Addr) (u : Addr) : entryFrame mid (List.toArray [.ref t, .ref u]) 3 = mkF mid 0 #[.val (.ref t), .val (.ref u), .unset] [] := by first | (simp [entryFrame, mkF, argsToLocals, Value.category]; done) | rfl
def Q13n2 (h0 : Heap) (v : Option Value) (h : Heap) : Prop := v = some (.int 1) ∧ h0 = h
set_option maxRecDepth 65536 in
set_option maxHeartbeats 40000000 in
theorem c13n2 (Z : State) (hw : Wd Z tables_1) (h0 : Heap) (t : Addr) (u : Addr)  (z0 : Int32) (z1 : Int32) (hA : Ary Z h0 t .byte [.int z0, .int z1]) (hB : Ary Z h0 u .byte [.int z0, .int z1]) : Con Z B13 (List.toArray [.ref t, .ref u]) h0 (Q13n2 h0) := by
  refine Con.mk hw pn13 (fun mid => ef13n2 mid t u) (Go.old fun hle' => ?_)
  have hle := hle'.1
  refine Go.aloadN 1 rfl d13_0 rfl rfl ?_
  refine Go.alen 2 rfl (2 : Int32) d13_1 hA rfl ?_
  refine Go.aloadN 3 rfl d13_2 rfl rfl ?_
  refine Go.alen 4 rfl (2 : Int32) d13_3 hB rfl ?_
  refine Go.icmp_ne 34 7 d13_4 (by decide) rfl rfl (fun (b101 : ¬ (2 : Int32) = (2 : Int32)) => ?_) (fun (b101 : (2 : Int32) = (2 : Int32)) => ?_)
  · exact absurd (show (2 : Int32) = (2 : Int32) from (by decide)) b101
  · refine Go.iconst 8 rfl (0 : Int32) d13_7 rfl ?_
    refine Go.istoreN 9 rfl d13_8 (Ls' := #[.val (.ref t), .val (.ref u), .val (.int (0 : Int32))]) rfl ?_
    refine Go.iloadN 10 rfl d13_9 rfl ?_
    refine Go.aloadN 11 rfl d13_10 rfl rfl ?_
    refine Go.alen 12 rfl (2 : Int32) d13_11 hA rfl ?_
    refine Go.icmp_ge 32 15 d13_12 (by decide) rfl rfl (fun (b102 : ¬ (0 : Int32) < (2 : Int32)) => ?_) (fun (b102 : (0 : Int32) < (2 : Int32)) => ?_)
    · exact absurd (show (0 : Int32) < (2 : Int32) from (by decide)) b102
    · refine Go.aloadN 16 rfl d13_15 rfl rfl ?_
      refine Go.iloadN 17 rfl d13_16 rfl ?_
      refine Go.baload 18 rfl z0 d13_17 hA 0 rfl rfl ?_
      refine Go.aloadN 19 rfl d13_18 rfl rfl ?_
      refine Go.iloadN 20 rfl d13_19 rfl ?_
      refine Go.baload 21 rfl z0 d13_20 hB 0 rfl rfl ?_
      refine Go.icmp_eq 26 24 d13_21 (by decide) rfl rfl (fun (b103 : z0 = z0) => ?_) (fun (b103 : ¬ z0 = z0) => ?_)
      · refine Go.iinc 29 rfl (1 : Int32) d13_26 rfl rfl (Ls' := #[.val (.ref t), .val (.ref u), .val (.int ((0 : Int32) + (1 : Int32)))]) rfl ?_
        refine Go.goto 9 d13_29 (by decide) (by decide) ?_
        refine Go.iloadN 10 rfl d13_9 rfl ?_
        refine Go.aloadN 11 rfl d13_10 rfl rfl ?_
        refine Go.alen 12 rfl (2 : Int32) d13_11 hA rfl ?_
        refine Go.icmp_ge 32 15 d13_12 (by decide) rfl rfl (fun (b104 : ¬ ((0 : Int32) + (1 : Int32)) < (2 : Int32)) => ?_) (fun (b104 : ((0 : Int32) + (1 : Int32)) < (2 : Int32)) => ?_)
        · exact absurd (show ((0 : Int32) + (1 : Int32)) < (2 : Int32) from (by decide)) b104
        · refine Go.aloadN 16 rfl d13_15 rfl rfl ?_
          refine Go.iloadN 17 rfl d13_16 rfl ?_
          refine Go.baload 18 rfl z1 d13_17 hA 1 rfl rfl ?_
          refine Go.aloadN 19 rfl d13_18 rfl rfl ?_
          refine Go.iloadN 20 rfl d13_19 rfl ?_
          refine Go.baload 21 rfl z1 d13_20 hB 1 rfl rfl ?_
          refine Go.icmp_eq 26 24 d13_21 (by decide) rfl rfl (fun (b105 : z1 = z1) => ?_) (fun (b105 : ¬ z1 = z1) => ?_)
          · refine Go.iinc 29 rfl (1 : Int32) d13_26 rfl rfl (Ls' := #[.val (.ref t), .val (.ref u), .val (.int (((0 : Int32) + (1 : Int32)) + (1 : Int32)))]) rfl ?_
            refine Go.goto 9 d13_29 (by decide) (by decide) ?_
            refine Go.iloadN 10 rfl d13_9 rfl ?_
            refine Go.aloadN 11 rfl d13_10 rfl rfl ?_
            refine Go.alen 12 rfl (2 : Int32) d13_11 hA rfl ?_
            refine Go.icmp_ge 32 15 d13_12 (by decide) rfl rfl (fun (b106 : ¬ (((0 : Int32) + (1 : Int32)) + (1 : Int32)) < (2 : Int32)) => ?_) (fun (b106 : (((0 : Int32) + (1 : Int32)) + (1 : Int32)) < (2 : Int32)) => ?_)
            · refine Go.iconst 33 rfl (1 : Int32) d13_32 rfl ?_
              exact Go.retN (t := .boolean) (z' := 1) d13_33 rfl (by decide) (by decide) (by decide) (by decide) ⟨rfl, rfl⟩
            · exact absurd b106 (show ¬ (((0 : Int32) + (1 : Int32)) + (1 : Int32)) < (2 : Int32) from (by decide))
          · exact absurd (show z1 = z1 from rfl) b105
      · exact absurd (show z0 = z0 from rfl) b103
theorem ef12n2 (mid : MethodId) (a : Addr) (b : Addr) : entryFrame mid (List.toArray [.ref a, .ref b]) 3 = mkF mid 0 #[.val (.ref a), .val (.ref b), .unset] [] := by first | (simp [entryFrame, mkF, argsToLocals, Value.category]; done) | rfl
def Q12n2 (h0 : Heap) (v : Option Value) (h : Heap) : Prop := v = some (.int 1) ∧ h0 = h
set_option maxRecDepth 65536 in
set_option maxHeartbeats 40000000 in
theorem c12n2 (Z : State) (hw : Wd Z tables_1) (h0 : Heap) (a : Addr) (b : Addr)  (t : Addr) (u : Addr) (z0 : Int32) (z1 : Int32) (cs : Int32) (hS : Sta Z Z.heap "java/lang/String" "COMPACT_STRINGS" "Z" (.int cs)) (hcs : ¬ cs = 0) (hE : Exa Z h0 b "java/lang/String") (hV : Fld Z h0 a "java/lang/String" "value" "[B" (.ref t)) (hC : Fld Z h0 a "java/lang/String" "coder" "B" (.int 0)) (hV2 : Fld Z h0 b "java/lang/String" "value" "[B" (.ref u)) (hC2 : Fld Z h0 b "java/lang/String" "coder" "B" (.int 0)) (hA : Ary Z h0 t .byte [.int z0, .int z1]) (hB : Ary Z h0 u .byte [.int z0, .int z1]) : Con Z B12 (List.toArray [.ref a, .ref b]) h0 (Q12n2 h0) := by
  refine Con.mk hw pn12 (fun mid => ef12n2 mid a b) (Go.old fun hle' => ?_)
  have hle := hle'.1
  refine Go.aloadN 1 rfl d12_0 rfl rfl ?_
  refine Go.aloadN 2 rfl d12_1 rfl rfl ?_
  refine Go.acmp_ne 7 5 d12_2 (by decide) rfl rfl rfl rfl (fun (b101 : ¬ (.ref a : Value) = .ref b) => ?_) (fun (b101 : (.ref a : Value) = .ref b) => ?_)
  · refine Go.aloadN 8 rfl d12_7 rfl rfl ?_
    refine Go.instY 11 rfl 75 d12_8 rfl (Ins.self hE) ?_
    refine Go.if_eq 54 14 d12_11 (by decide) rfl rfl (fun (b102 : (1 : Int32) = 0) => ?_) (fun (b102 : ¬ (1 : Int32) = 0) => ?_)
    · exact absurd b102 (show ¬ (1 : Int32) = 0 from (by decide))
    · refine Go.aloadN 15 rfl d12_14 rfl rfl ?_
      refine Go.castY 18 rfl 75 d12_15 rfl (Ins.self hE) ?_
      refine Go.astoreN 19 rfl d12_18 rfl (Ls' := #[.val (.ref a), .val (.ref b), .val (.ref b)]) rfl ?_
      refine Go.getS 22 rfl (v := .int cs) 16 d12_19 rfl hS ?_
      refine Go.if_eq 36 25 d12_22 (by decide) rfl rfl (fun (b103 : cs = 0) => ?_) (fun (b103 : ¬ cs = 0) => ?_)
      · exact absurd b103 (show ¬ cs = 0 from hcs)
      · refine Go.aloadN 26 rfl d12_25 rfl rfl ?_
        refine Go.getF 29 rfl (v := .int (0 : Int32)) 27 d12_26 rfl hC ?_
        refine Go.aloadN 30 rfl d12_29 rfl rfl ?_
        refine Go.getF 33 rfl (v := .int (0 : Int32)) 27 d12_30 rfl hC2 ?_
        refine Go.icmp_ne 54 36 d12_33 (by decide) rfl rfl (fun (b104 : ¬ (0 : Int32) = (0 : Int32)) => ?_) (fun (b104 : (0 : Int32) = (0 : Int32)) => ?_)
        · exact absurd (show (0 : Int32) = (0 : Int32) from (by decide)) b104
        · refine Go.aloadN 37 rfl d12_36 rfl rfl ?_
          refine Go.getF 40 rfl (v := .ref t) 29 d12_37 rfl hV ?_
          refine Go.aloadN 41 rfl d12_40 rfl rfl ?_
          refine Go.getF 44 rfl (v := .ref u) 29 d12_41 rfl hV2 ?_
          refine Go.callS 47 rfl (C := B13) [.ref t, .ref u] (rest := []) 76 77 78 79 (c13n2 Z hw h0 t u z0 z1 hA hB) d12_44 rfl rfl rfl rfl (by decide) pd13 rfl rfl rfl (W := 0) (Nat.le_of_ble_eq_true rfl) (by decide) (by decide) (by decide) (by decide) fun v105 h106 q107 => ?_
          obtain ⟨rfl, rfl⟩ := q107
          refine Go.if_eq 54 50 d12_47 (by decide) rfl rfl (fun (b108 : (1 : Int32) = 0) => ?_) (fun (b108 : ¬ (1 : Int32) = 0) => ?_)
          · exact absurd b108 (show ¬ (1 : Int32) = 0 from (by decide))
          · refine Go.iconst 51 rfl (1 : Int32) d12_50 rfl ?_
            refine Go.goto 55 d12_51 (by decide) (by decide) ?_
            exact Go.retN (t := .boolean) (z' := 1) d12_55 rfl (by decide) (by decide) (by decide) (by decide) ⟨rfl, rfl⟩
  · refine Go.iconst 6 rfl (1 : Int32) d12_5 rfl ?_
    exact Go.retN (t := .boolean) (z' := 1) d12_6 rfl (by decide) (by decide) (by decide) (by decide) ⟨rfl, rfl⟩
theorem pn0 : plainFor (⟨"com/example/umweg/umweg/redis/RepliesTextPinLaw", "law", "(III)Z"⟩ : MethodName) = true := by first | (refine plainFor_of_name ?_; simp [plainName, overriddenIn]; done) | (refine plainFor_of_name ?_; decide +kernel) | decide +kernel
abbrev B0 : Bd := (x, code, maxLocals, ret, room_1, tables_1)
theorem ef0 (mid : MethodId) (p0 : Int32) (p1 : Int32) (p2 : Int32) : entryFrame mid (List.toArray [.int p0, .int p1, .int p2]) maxLocals = mkF mid 0 #[.val (.int p0), .val (.int p1), .val (.int p2), .unset, .unset, .unset, .unset, .unset, .unset, .unset, .unset] [] := by first | (simp [entryFrame, mkF, argsToLocals, Value.category, maxLocals]; done) | rfl
def Q0  (v : Option Value) (h : Heap) : Prop := v = some (.int 1)
set_option maxRecDepth 65536 in
set_option maxHeartbeats 40000000 in
theorem c0 (Z : State) (hw : Wd Z tables_1) (h0 : Heap) (p0 : Int32) (p1 : Int32) (p2 : Int32)  (cs : Int32) (hS : Sta Z Z.heap "java/lang/String" "COMPACT_STRINGS" "Z" (.int cs)) (hcs : ¬ cs = 0) (hAs : Sta Z Z.heap "java/lang/StringUTF16" "$assertionsDisabled" "Z" (.int 1)) (hHi : Sta Z Z.heap "java/lang/StringUTF16" "HI_BYTE_SHIFT" "I" (.int 0)) (hLo : Sta Z Z.heap "java/lang/StringUTF16" "LO_BYTE_SHIFT" "I" (.int 8)) (hfm : (Sta Z Z.heap "jdk/internal/util/Preconditions" "SIOOBE_FORMATTER" "Ljava/util/function/BiFunction;" .null) ∨ ∃ m, Sta Z Z.heap "jdk/internal/util/Preconditions" "SIOOBE_FORMATTER" "Ljava/util/function/BiFunction;" (.ref m)) (m : Addr) (hU : Sta Z Z.heap "sun/nio/cs/UTF_8" "INSTANCE" "Lsun/nio/cs/UTF_8;" (.ref m)) (hU8 : Sta Z Z.heap "java/nio/charset/StandardCharsets" "UTF_8" "Ljava/nio/charset/Charset;" (.ref m)) (hM : Exa Z h0 m "sun/nio/cs/UTF_8") : Con Z B0 (List.toArray [.int p0, .int p1, .int p2]) h0 (Q0 ) := by
  refine Con.mk hw pn0 (fun mid => ef0 mid p0 p1 p2) (Go.old fun hle' => ?_)
  have hle := hle'.1
  refine Go.iloadN 1 rfl at_0 rfl ?_
  refine Go.ldcI 3 rfl (v := (2147483647 : Int32)) 0 at_1 rfl ?_
  refine Go.iand 4 rfl at_3 ?_
  refine Go.iconst 5 rfl (5 : Int32) at_4 rfl ?_
  refine Go.irem 6 rfl at_5 (by decide) ?_
  refine Go.nameI fun v101 hv101 => ?_
  refine Go.istoreN 7 rfl at_6 (Ls' := #[.val (.int p0), .val (.int p1), .val (.int p2), .val (.int v101), .unset, .unset, .unset, .unset, .unset, .unset, .unset]) rfl ?_
  refine Go.iloadN 8 rfl at_7 rfl ?_
  refine Go.ldcI 10 rfl (v := (2147483647 : Int32)) 0 at_8 rfl ?_
  refine Go.iand 11 rfl at_10 ?_
  refine Go.nameI fun v102 hv102 => ?_
  refine Go.istore 13 rfl at_11 (Ls' := #[.val (.int p0), .val (.int p1), .val (.int p2), .val (.int v101), .val (.int v102), .unset, .unset, .unset, .unset, .unset, .unset]) rfl ?_
  refine Go.iloadN 14 rfl at_13 rfl ?_
  refine Go.bipush 16 rfl (127 : Int32) at_14 rfl ?_
  refine Go.iand 17 rfl at_16 ?_
  refine Go.i2c 18 rfl at_17 ?_
  refine Go.nameI fun v103 hv103 => ?_
  refine Go.istore 20 rfl at_18 (Ls' := #[.val (.int p0), .val (.int p1), .val (.int p2), .val (.int v101), .val (.int v102), .val (.int v103), .unset, .unset, .unset, .unset, .unset]) rfl ?_
  refine Go.iloadN 21 rfl at_20 rfl ?_
  refine Go.bipush 23 rfl (127 : Int32) at_21 rfl ?_
  refine Go.iand 24 rfl at_23 ?_
  refine Go.i2b 25 rfl at_24 ?_
  refine Go.nameI fun v104 hv104 => ?_
  refine Go.istore 27 rfl at_25 (Ls' := #[.val (.int p0), .val (.int p1), .val (.int p2), .val (.int v101), .val (.int v102), .val (.int v103), .val (.int v104), .unset, .unset, .unset, .unset]) rfl ?_
  refine Go.iloadN 28 rfl at_27 rfl ?_
  have hr0 := own_r hv102
  obtain ⟨ht, hyt, htl, htb1, htb2⟩ := own_t (own_r7 rfl) hv103 hv104
  have hxt := own_ch hv103
  refine Go.if_ne 72 31 at_28 (by decide) rfl rfl (fun (b105 : ¬ v101 = 0) => ?_) (fun (b105 : v101 = 0) => ?_)
  · refine Go.iloadN 73 rfl at_72 rfl ?_
    refine Go.iconst 74 rfl (1 : Int32) at_73 rfl ?_
    refine Go.icmp_ne 144 77 at_74 (by decide) rfl rfl (fun (b106 : ¬ v101 = (1 : Int32)) => ?_) (fun (b106 : v101 = (1 : Int32)) => ?_)
    · refine Go.iloadN 145 rfl at_144 rfl ?_
      refine Go.iconst 146 rfl (2 : Int32) at_145 rfl ?_
      refine Go.icmp_ne 253 149 at_146 (by decide) rfl rfl (fun (b107 : ¬ v101 = (2 : Int32)) => ?_) (fun (b107 : v101 = (2 : Int32)) => ?_)
      · refine Go.iloadN 254 rfl at_253 rfl ?_
        refine Go.iconst 255 rfl (3 : Int32) at_254 rfl ?_
        refine Go.icmp_ne 381 258 at_255 (by decide) rfl rfl (fun (b108 : ¬ v101 = (3 : Int32)) => ?_) (fun (b108 : v101 = (3 : Int32)) => ?_)
        · refine Go.iload 383 rfl at_381 rfl ?_
          refine Go.bipush 385 rfl (72 : Int32) at_383 rfl ?_
          refine Go.irem 386 rfl at_385 (by decide) ?_
          refine Go.nameI fun v570 hv570 => ?_
          refine Go.istore 388 rfl at_386 (Ls' := #[.val (.int p0), .val (.int p1), .val (.int p2), .val (.int v101), .val (.int v102), .val (.int v103), .val (.int v104), .unset, .unset, .val (.int v570), .unset]) rfl ?_
          refine Go.iload 390 rfl at_388 rfl ?_
          refine Go.bipush 392 rfl (64 : Int32) at_390 rfl ?_
          have hs0 := own_rE hr0 hv570
          refine Go.joinI (pcJ := 413) (LsJ := #[.val (.int p0), .val (.int p1), .val (.int p2), .val (.int v101), .val (.int v102), .val (.int v103), .val (.int v104), .unset, .unset, .val (.int v570), .unset]) (stJ := []) (fun v => (128 ≤ v.toInt ∧ v.toInt < 192) ∨ (248 ≤ v.toInt ∧ v.toInt < 256)) (fun J => ?_) (fun cE hcE => ?_)
          · refine Go.icmp_ge 404 395 at_392 (by decide) rfl rfl (fun (b571 : ¬ v570 < (64 : Int32)) => ?_) (fun (b571 : v570 < (64 : Int32)) => ?_)
            · refine Go.sipush 407 rfl (248 : Int32) at_404 rfl ?_
              refine Go.iload 409 rfl at_407 rfl ?_
              refine Go.bipush 411 rfl (64 : Int32) at_409 rfl ?_
              refine Go.isub 412 rfl at_411 ?_
              refine Go.iadd 413 rfl at_412 ?_
              exact J _ (own_rE2 hs0 b571)
            · refine Go.sipush 398 rfl (128 : Int32) at_395 rfl ?_
              refine Go.iload 400 rfl at_398 rfl ?_
              refine Go.iadd 401 rfl at_400 ?_
              refine Go.goto 413 at_401 (by decide) (by decide) ?_
              exact J _ (own_rE1 hs0 b571)
          · refine Go.istore 415 rfl at_413 (Ls' := #[.val (.int p0), .val (.int p1), .val (.int p2), .val (.int v101), .val (.int v102), .val (.int v103), .val (.int v104), .unset, .unset, .val (.int v570), .val (.int cE)]) rfl ?_
            refine Go.iconst 416 rfl (2 : Int32) at_415 rfl ?_
            refine Go.newA 418 rfl 1 2 2 at_416 rfl rfl (by decide) (by decide) (by decide) (by decide) fun h573 a572 g574 z575 K576 A577 E578 => ?_
            have A579 : Ary Z h573 a572 .byte [.int 0, .int 0] := A577
            refine Go.dup 419 rfl at_418 rfl ?_
            refine Go.iconst 420 rfl (0 : Int32) at_419 rfl ?_
            refine Go.iload 422 rfl at_420 rfl ?_
            refine Go.i2b 423 rfl at_422 ?_
            refine Go.nameI fun v580 hv580 => ?_
            refine Go.stB 424 rfl at_423 A579 0 rfl (Nat.le_of_ble_eq_true rfl) z575 fun h581 K582 A583 => ?_
            have A584 : Ary Z h581 a572 .byte [.int (nar .byte v580), .int 0] := A583
            refine Go.dup 425 rfl at_424 rfl ?_
            refine Go.iconst 426 rfl (1 : Int32) at_425 rfl ?_
            refine Go.iload 428 rfl at_426 rfl ?_
            refine Go.stB 429 rfl at_428 A584 1 rfl (Nat.le_of_ble_eq_true rfl) z575 fun h585 K586 A587 => ?_
            have A588 : Ary Z h585 a572 .byte [.int (nar .byte v580), .int (nar .byte v104)] := A587
            refine Go.astore 431 rfl at_429 rfl (Ls' := #[.val (.int p0), .val (.int p1), .val (.int p2), .val (.int v101), .val (.int v102), .val (.int v103), .val (.int v104), .val (.ref a572), .unset, .val (.int v570), .val (.int cE)]) rfl ?_
            refine Go.iconst 432 rfl (2 : Int32) at_431 rfl ?_
            refine Go.newA 434 rfl 2 2 2 at_432 rfl rfl (by decide) (by decide) (by decide) (by decide) fun h590 a589 g591 z592 K593 A594 E595 => ?_
            have A596 : Ary Z h590 a589 .char [.int 0, .int 0] := A594
            refine Go.dup 435 rfl at_434 rfl ?_
            refine Go.iconst 436 rfl (0 : Int32) at_435 rfl ?_
            refine Go.ldcI 438 rfl (v := (65533 : Int32)) 94 at_436 rfl ?_
            refine Go.stC 439 rfl at_438 A596 0 rfl (Nat.le_of_ble_eq_true rfl) z592 fun h597 K598 A599 => ?_
            have A600 : Ary Z h597 a589 .char [.int (nar .char (65533 : Int32)), .int 0] := A599
            refine Go.dup 440 rfl at_439 rfl ?_
            refine Go.iconst 441 rfl (1 : Int32) at_440 rfl ?_
            refine Go.iload 443 rfl at_441 rfl ?_
            refine Go.stC 444 rfl at_443 A600 1 rfl (Nat.le_of_ble_eq_true rfl) z592 fun h601 K602 A603 => ?_
            have A604 : Ary Z h601 a589 .char [.int (nar .char (65533 : Int32)), .int (nar .char v103)] := A603
            refine Go.astore 446 rfl at_444 rfl (Ls' := #[.val (.int p0), .val (.int p1), .val (.int p2), .val (.int v101), .val (.int v102), .val (.int v103), .val (.int v104), .val (.ref a572), .val (.ref a589), .val (.int v570), .val (.int cE)]) rfl ?_
            obtain ⟨f1, f2, f3, f4, f5⟩ := own_fE hcE hv580
            have hx0 : Ch (65533 : Int32) := ⟨by decide, by decide⟩
            refine Go.newO 449 rfl 3 4 5 at_446 rfl rfl rfl (by decide) (by decide) fun h606 a605 g607 z608 K609 E610 D611 => ?_
            refine Go.dup 450 rfl at_449 rfl ?_
            refine Go.aload 452 rfl at_450 rfl rfl ?_
            have F612 : Ary Z h606 a589 .char [.int (nar .char (65533 : Int32)), .int (nar .char v103)] := (A604.keep K609 nin0)
            have A613 : Ary Z h606 a589 .char [.int (65533 : Int32), .int v103] := by have q := F612; simpa only [own_nc hx0, own_nc hxt] using q
            refine Go.callI 455 rfl (C := B1) a605 [.ref a589] (rest := [.ref a605]) 6 7 5 8 (c1n2 Z hw h606 a605 a589 (65533 : Int32) v103 cs hS hcs hAs hHi hLo z608 E610 (D611 30 (Or.inr rfl) (ty := (.array .byte)) (by decide) : Fld Z h606 a605 "java/lang/String" "value" "[B" (.null)) (D611 28 (Or.inr rfl) (ty := .byte) (by decide) : Fld Z h606 a605 "java/lang/String" "coder" "B" (.int (0 : Int32))) A613 hx0 hxt) at_452 rfl rfl rfl rfl rfl rfl (by decide) pd1 rfl rfl rfl (W := 1) (Nat.le_of_ble_eq_true rfl) (by decide) (by decide) (by decide) (by decide) fun v614 h615 q616 => ?_
            obtain ⟨rfl, t617, g618, K619, F620, D621⟩ := q616
            have sz623 := (Nat.le_trans K576.1 K582.1)
            have sz624 := (Nat.le_trans sz623 K586.1)
            have sz625 := (Nat.le_trans sz624 K593.1)
            have sz626 := (Nat.le_trans sz625 K598.1)
            have sz627 := (Nat.le_trans sz626 K602.1)
            have sz628 := (Nat.le_trans sz627 K609.1)
            have z622 : Z.heap.size ≤ t617 := Nat.le_trans (Nat.le_trans hle sz628) g618
            rcases D621 with ⟨-, lg0, lg1, -⟩ | ⟨C629, -, A630⟩; · exact absurd (show (255 : Int32) < (65533 : Int32) by decide) lg0
            refine Go.aload 457 rfl at_455 rfl rfl ?_
            have ne631 : a572 ≠ a589 := (show @Ne Nat a572 a589 from by have := ltN A588.lt; have := g591; omega)
            have ne632 : a572 ≠ a605 := (show @Ne Nat a572 a605 from by have := ltN A588.lt; have := K593.1; have := K598.1; have := K602.1; have := g607; omega)
            have F633 : Ary Z h615 a572 .byte [.int (nar .byte v580), .int (nar .byte v104)] := (((((A588.keep K593 nin0).keep K598 (ninS ne631 nin0)).keep K602 (ninS ne631 nin0)).keep K609 nin0).keep K619 (ninS ne632 nin0))
            have A634 : Ary Z h615 a572 .byte [.int v580, .int v104] := by have q := F633; simpa only [own_nb hv580, own_nb hv104] using q
            have F635 : Exa Z h615 a572 "[B" := (((((((E578.keep K582).keep K586).keep K593).keep K598).keep K602).keep K609).keep K619)
            have F636 : Exa Z h615 m "sun/nio/cs/UTF_8" := ((((((((hM.keep K576).keep K582).keep K586).keep K593).keep K598).keep K602).keep K609).keep K619)
            refine Go.callS 460 rfl (C := B7) [.ref a572] (rest := [.ref a605]) 31 32 33 34 (c7E Z hw h615 a572 v580 v104  v103 f1 f2 f3 f4 f5 ht hyt cs hS hcs hAs hHi hLo hfm m hU hU8 A634 F635 F636) at_457 rfl rfl rfl rfl (by decide) pd7 rfl rfl rfl (W := 1) (Nat.le_of_ble_eq_true rfl) (by decide) (by decide) (by decide) (by decide) fun v637 h638 q639 => ?_
            obtain ⟨a640, t641, rfl, g642, g643, K644, E645, F646, F647, A648⟩ := q639
            have sz650 := (Nat.le_trans sz628 K619.1)
            have z649 : Z.heap.size ≤ a640 := Nat.le_trans (Nat.le_trans hle sz650) g642
            have z651 : Z.heap.size ≤ t641 := Nat.le_trans (Nat.le_trans hle sz650) g643
            have F652 : Ary Z h638 t617 .byte (IL [lo (65533 : Int32), hi (65533 : Int32), lo v103, hi v103]) := (A630.keep K644 nin0)
            have F654 : Fld Z h638 a605 "java/lang/String" "value" "[B" (.ref t617) := (F620.keep K644 nin0)
            have F655 : Fld Z h638 a605 "java/lang/String" "coder" "B" (.int (1 : Int32)) := (C629.keep K644 nin0)
            have F659 : Exa Z h638 a605 "java/lang/String" := ((E610.keep K619).keep K644)
            refine Go.callV 463 rfl (C := B12) a605 [.ref a640] (rest := []) 70 71 73 72 5 74 (c12n4 Z hw h638 a605 a640 t617 t641 (lo (65533 : Int32)) (hi (65533 : Int32)) (lo v103) (hi v103) cs hS hcs E645 F654 F655 F646 F647 F652 A648) F659 at_460 rfl rfl rfl rfl rfl rfl (by decide) pd12 rfl rfl rfl (W := 0) (Nat.le_of_ble_eq_true rfl) (by decide) (by decide) (by decide) (by decide) fun v656 h657 q658 => ?_
            obtain ⟨rfl, rfl⟩ := q658
            exact Go.retN (t := .boolean) (z' := 1) at_463 rfl (by decide) (by decide) (by decide) (by decide) rfl
        · refine Go.ldcI 260 rfl (v := (65536 : Int32)) 140 at_258 rfl ?_
          refine Go.iload 262 rfl at_260 rfl ?_
          refine Go.ldcI 264 rfl (v := (1048576 : Int32)) 141 at_262 rfl ?_
          refine Go.irem 265 rfl at_264 (by decide) ?_
          refine Go.iadd 266 rfl at_265 ?_
          refine Go.nameI fun v455 hv455 => ?_
          refine Go.istore 268 rfl at_266 (Ls' := #[.val (.int p0), .val (.int p1), .val (.int p2), .val (.int v101), .val (.int v102), .val (.int v103), .val (.int v104), .unset, .unset, .val (.int v455), .unset]) rfl ?_
          refine Go.iconst 269 rfl (5 : Int32) at_268 rfl ?_
          refine Go.newA 271 rfl 1 5 5 at_269 rfl rfl (by decide) (by decide) (by decide) (by decide) fun h457 a456 g458 z459 K460 A461 E462 => ?_
          have A463 : Ary Z h457 a456 .byte [.int 0, .int 0, .int 0, .int 0, .int 0] := A461
          refine Go.dup 272 rfl at_271 rfl ?_
          refine Go.iconst 273 rfl (0 : Int32) at_272 rfl ?_
          refine Go.sipush 276 rfl (240 : Int32) at_273 rfl ?_
          refine Go.iload 278 rfl at_276 rfl ?_
          refine Go.bipush 280 rfl (18 : Int32) at_278 rfl ?_
          refine Go.ishr 281 rfl at_280 ?_
          refine Go.ior 282 rfl at_281 ?_
          refine Go.i2b 283 rfl at_282 ?_
          refine Go.nameI fun v464 hv464 => ?_
          refine Go.stB 284 rfl at_283 A463 0 rfl (Nat.le_of_ble_eq_true rfl) z459 fun h465 K466 A467 => ?_
          have A468 : Ary Z h465 a456 .byte [.int (nar .byte v464), .int 0, .int 0, .int 0, .int 0] := A467
          refine Go.dup 285 rfl at_284 rfl ?_
          refine Go.iconst 286 rfl (1 : Int32) at_285 rfl ?_
          refine Go.sipush 289 rfl (128 : Int32) at_286 rfl ?_
          refine Go.iload 291 rfl at_289 rfl ?_
          refine Go.bipush 293 rfl (12 : Int32) at_291 rfl ?_
          refine Go.ishr 294 rfl at_293 ?_
          refine Go.bipush 296 rfl (63 : Int32) at_294 rfl ?_
          refine Go.iand 297 rfl at_296 ?_
          refine Go.ior 298 rfl at_297 ?_
          refine Go.i2b 299 rfl at_298 ?_
          refine Go.nameI fun v469 hv469 => ?_
          refine Go.stB 300 rfl at_299 A468 1 rfl (Nat.le_of_ble_eq_true rfl) z459 fun h470 K471 A472 => ?_
          have A473 : Ary Z h470 a456 .byte [.int (nar .byte v464), .int (nar .byte v469), .int 0, .int 0, .int 0] := A472
          refine Go.dup 301 rfl at_300 rfl ?_
          refine Go.iconst 302 rfl (2 : Int32) at_301 rfl ?_
          refine Go.sipush 305 rfl (128 : Int32) at_302 rfl ?_
          refine Go.iload 307 rfl at_305 rfl ?_
          refine Go.bipush 309 rfl (6 : Int32) at_307 rfl ?_
          refine Go.ishr 310 rfl at_309 ?_
          refine Go.bipush 312 rfl (63 : Int32) at_310 rfl ?_
          refine Go.iand 313 rfl at_312 ?_
          refine Go.ior 314 rfl at_313 ?_
          refine Go.i2b 315 rfl at_314 ?_
          refine Go.nameI fun v474 hv474 => ?_
          refine Go.stB 316 rfl at_315 A473 2 rfl (Nat.le_of_ble_eq_true rfl) z459 fun h475 K476 A477 => ?_
          have A478 : Ary Z h475 a456 .byte [.int (nar .byte v464), .int (nar .byte v469), .int (nar .byte v474), .int 0, .int 0] := A477
          refine Go.dup 317 rfl at_316 rfl ?_
          refine Go.iconst 318 rfl (3 : Int32) at_317 rfl ?_
          refine Go.sipush 321 rfl (128 : Int32) at_318 rfl ?_
          refine Go.iload 323 rfl at_321 rfl ?_
          refine Go.bipush 325 rfl (63 : Int32) at_323 rfl ?_
          refine Go.iand 326 rfl at_325 ?_
          refine Go.ior 327 rfl at_326 ?_
          refine Go.i2b 328 rfl at_327 ?_
          refine Go.nameI fun v479 hv479 => ?_
          refine Go.stB 329 rfl at_328 A478 3 rfl (Nat.le_of_ble_eq_true rfl) z459 fun h480 K481 A482 => ?_
          have A483 : Ary Z h480 a456 .byte [.int (nar .byte v464), .int (nar .byte v469), .int (nar .byte v474), .int (nar .byte v479), .int 0] := A482
          refine Go.dup 330 rfl at_329 rfl ?_
          refine Go.iconst 331 rfl (4 : Int32) at_330 rfl ?_
          refine Go.iload 333 rfl at_331 rfl ?_
          refine Go.stB 334 rfl at_333 A483 4 rfl (Nat.le_of_ble_eq_true rfl) z459 fun h484 K485 A486 => ?_
          have A487 : Ary Z h484 a456 .byte [.int (nar .byte v464), .int (nar .byte v469), .int (nar .byte v474), .int (nar .byte v479), .int (nar .byte v104)] := A486
          refine Go.astore 336 rfl at_334 rfl (Ls' := #[.val (.int p0), .val (.int p1), .val (.int p2), .val (.int v101), .val (.int v102), .val (.int v103), .val (.int v104), .val (.ref a456), .unset, .val (.int v455), .unset]) rfl ?_
          refine Go.iload 338 rfl at_336 rfl ?_
          refine Go.ldcI 340 rfl (v := (65536 : Int32)) 140 at_338 rfl ?_
          refine Go.isub 341 rfl at_340 ?_
          refine Go.nameI fun v488 hv488 => ?_
          refine Go.istore 343 rfl at_341 (Ls' := #[.val (.int p0), .val (.int p1), .val (.int p2), .val (.int v101), .val (.int v102), .val (.int v103), .val (.int v104), .val (.ref a456), .unset, .val (.int v455), .val (.int v488)]) rfl ?_
          refine Go.iconst 344 rfl (3 : Int32) at_343 rfl ?_
          refine Go.newA 346 rfl 2 3 3 at_344 rfl rfl (by decide) (by decide) (by decide) (by decide) fun h490 a489 g491 z492 K493 A494 E495 => ?_
          have A496 : Ary Z h490 a489 .char [.int 0, .int 0, .int 0] := A494
          refine Go.dup 347 rfl at_346 rfl ?_
          refine Go.iconst 348 rfl (0 : Int32) at_347 rfl ?_
          refine Go.ldcI 350 rfl (v := (55296 : Int32)) 142 at_348 rfl ?_
          refine Go.iload 352 rfl at_350 rfl ?_
          refine Go.bipush 354 rfl (10 : Int32) at_352 rfl ?_
          refine Go.ishr 355 rfl at_354 ?_
          refine Go.iadd 356 rfl at_355 ?_
          refine Go.i2c 357 rfl at_356 ?_
          refine Go.nameI fun v497 hv497 => ?_
          refine Go.stC 358 rfl at_357 A496 0 rfl (Nat.le_of_ble_eq_true rfl) z492 fun h498 K499 A500 => ?_
          have A501 : Ary Z h498 a489 .char [.int (nar .char v497), .int 0, .int 0] := A500
          refine Go.dup 359 rfl at_358 rfl ?_
          refine Go.iconst 360 rfl (1 : Int32) at_359 rfl ?_
          refine Go.ldcI 362 rfl (v := (56320 : Int32)) 143 at_360 rfl ?_
          refine Go.iload 364 rfl at_362 rfl ?_
          refine Go.sipush 367 rfl (1023 : Int32) at_364 rfl ?_
          refine Go.iand 368 rfl at_367 ?_
          refine Go.iadd 369 rfl at_368 ?_
          refine Go.i2c 370 rfl at_369 ?_
          refine Go.nameI fun v502 hv502 => ?_
          refine Go.stC 371 rfl at_370 A501 1 rfl (Nat.le_of_ble_eq_true rfl) z492 fun h503 K504 A505 => ?_
          have A506 : Ary Z h503 a489 .char [.int (nar .char v497), .int (nar .char v502), .int 0] := A505
          refine Go.dup 372 rfl at_371 rfl ?_
          refine Go.iconst 373 rfl (2 : Int32) at_372 rfl ?_
          refine Go.iload 375 rfl at_373 rfl ?_
          refine Go.stC 376 rfl at_375 A506 2 rfl (Nat.le_of_ble_eq_true rfl) z492 fun h507 K508 A509 => ?_
          have A510 : Ary Z h507 a489 .char [.int (nar .char v497), .int (nar .char v502), .int (nar .char v103)] := A509
          refine Go.astore 378 rfl at_376 rfl (Ls' := #[.val (.int p0), .val (.int p1), .val (.int p2), .val (.int v101), .val (.int v102), .val (.int v103), .val (.int v104), .val (.ref a456), .val (.ref a489), .val (.int v455), .val (.int v488)]) rfl ?_
          refine Go.goto 446 at_378 (by decide) (by decide) ?_
          obtain ⟨f1, f2, f3, f4, f5, f6, f7, f8, f9, f10, f11, f12, f13, f14⟩ := own_fD (own_rD hr0 hv455) hv464 hv469 hv474 hv479 hv488 hv497 hv502
          have hx0 := own_ch hv497
          have hx1 := own_ch hv502
          refine Go.newO 449 rfl 3 4 5 at_446 rfl rfl rfl (by decide) (by decide) fun h512 a511 g513 z514 K515 E516 D517 => ?_
          refine Go.dup 450 rfl at_449 rfl ?_
          refine Go.aload 452 rfl at_450 rfl rfl ?_
          have F518 : Ary Z h512 a489 .char [.int (nar .char v497), .int (nar .char v502), .int (nar .char v103)] := (A510.keep K515 nin0)
          have A519 : Ary Z h512 a489 .char [.int v497, .int v502, .int v103] := by have q := F518; simpa only [own_nc hx0, own_nc hx1, own_nc hxt] using q
          refine Go.callI 455 rfl (C := B1) a511 [.ref a489] (rest := [.ref a511]) 6 7 5 8 (c1n3 Z hw h512 a511 a489 v497 v502 v103 cs hS hcs hAs hHi hLo z514 E516 (D517 30 (Or.inr rfl) (ty := (.array .byte)) (by decide) : Fld Z h512 a511 "java/lang/String" "value" "[B" (.null)) (D517 28 (Or.inr rfl) (ty := .byte) (by decide) : Fld Z h512 a511 "java/lang/String" "coder" "B" (.int (0 : Int32))) A519 hx0 hx1 hxt) at_452 rfl rfl rfl rfl rfl rfl (by decide) pd1 rfl rfl rfl (W := 1) (Nat.le_of_ble_eq_true rfl) (by decide) (by decide) (by decide) (by decide) fun v520 h521 q522 => ?_
          obtain ⟨rfl, t523, g524, K525, F526, D527⟩ := q522
          have sz529 := (Nat.le_trans K460.1 K466.1)
          have sz530 := (Nat.le_trans sz529 K471.1)
          have sz531 := (Nat.le_trans sz530 K476.1)
          have sz532 := (Nat.le_trans sz531 K481.1)
          have sz533 := (Nat.le_trans sz532 K485.1)
          have sz534 := (Nat.le_trans sz533 K493.1)
          have sz535 := (Nat.le_trans sz534 K499.1)
          have sz536 := (Nat.le_trans sz535 K504.1)
          have sz537 := (Nat.le_trans sz536 K508.1)
          have sz538 := (Nat.le_trans sz537 K515.1)
          have z528 : Z.heap.size ≤ t523 := Nat.le_trans (Nat.le_trans hle sz538) g524
          rcases D527 with ⟨-, lg0, lg1, lg2, -⟩ | ⟨C539, -, A540⟩; · exact absurd f14 lg0
          refine Go.aload 457 rfl at_455 rfl rfl ?_
          have ne541 : a456 ≠ a489 := (show @Ne Nat a456 a489 from by have := ltN A487.lt; have := g491; omega)
          have ne542 : a456 ≠ a511 := (show @Ne Nat a456 a511 from by have := ltN A487.lt; have := K493.1; have := K499.1; have := K504.1; have := K508.1; have := g513; omega)
          have F543 : Ary Z h521 a456 .byte [.int (nar .byte v464), .int (nar .byte v469), .int (nar .byte v474), .int (nar .byte v479), .int (nar .byte v104)] := ((((((A487.keep K493 nin0).keep K499 (ninS ne541 nin0)).keep K504 (ninS ne541 nin0)).keep K508 (ninS ne541 nin0)).keep K515 nin0).keep K525 (ninS ne542 nin0))
          have A544 : Ary Z h521 a456 .byte [.int v464, .int v469, .int v474, .int v479, .int v104] := by have q := F543; simpa only [own_nb hv464, own_nb hv469, own_nb hv474, own_nb hv479, own_nb hv104] using q
          have F545 : Exa Z h521 a456 "[B" := (((((((((((E462.keep K466).keep K471).keep K476).keep K481).keep K485).keep K493).keep K499).keep K504).keep K508).keep K515).keep K525)
          have F546 : Exa Z h521 m "sun/nio/cs/UTF_8" := ((((((((((((hM.keep K460).keep K466).keep K471).keep K476).keep K481).keep K485).keep K493).keep K499).keep K504).keep K508).keep K515).keep K525)
          refine Go.callS 460 rfl (C := B7) [.ref a456] (rest := [.ref a511]) 31 32 33 34 (c7D Z hw h521 a456 v464 v469 v474 v479 v104 v497 v502 v103 v455 f1 f2 f3 f4 f5 f6 f7 f8 f9 f10 f11 f12 f13 ht hyt cs hS hcs hAs hHi hLo hfm m hU hU8 A544 F545 F546) at_457 rfl rfl rfl rfl (by decide) pd7 rfl rfl rfl (W := 1) (Nat.le_of_ble_eq_true rfl) (by decide) (by decide) (by decide) (by decide) fun v547 h548 q549 => ?_
          obtain ⟨a550, t551, rfl, g552, g553, K554, E555, F556, F557, A558⟩ := q549
          have sz560 := (Nat.le_trans sz538 K525.1)
          have z559 : Z.heap.size ≤ a550 := Nat.le_trans (Nat.le_trans hle sz560) g552
          have z561 : Z.heap.size ≤ t551 := Nat.le_trans (Nat.le_trans hle sz560) g553
          have F562 : Ary Z h548 t523 .byte (IL [lo v497, hi v497, lo v502, hi v502, lo v103, hi v103]) := (A540.keep K554 nin0)
          have F564 : Fld Z h548 a511 "java/lang/String" "value" "[B" (.ref t523) := (F526.keep K554 nin0)
          have F565 : Fld Z h548 a511 "java/lang/String" "coder" "B" (.int (1 : Int32)) := (C539.keep K554 nin0)
          have F569 : Exa Z h548 a511 "java/lang/String" := ((E516.keep K525).keep K554)
          refine Go.callV 463 rfl (C := B12) a511 [.ref a550] (rest := []) 70 71 73 72 5 74 (c12n6 Z hw h548 a511 a550 t523 t551 (lo v497) (hi v497) (lo v502) (hi v502) (lo v103) (hi v103) cs hS hcs E555 F564 F565 F556 F557 F562 A558) F569 at_460 rfl rfl rfl rfl rfl rfl (by decide) pd12 rfl rfl rfl (W := 0) (Nat.le_of_ble_eq_true rfl) (by decide) (by decide) (by decide) (by decide) fun v566 h567 q568 => ?_
          obtain ⟨rfl, rfl⟩ := q568
          exact Go.retN (t := .boolean) (z' := 1) at_463 rfl (by decide) (by decide) (by decide) (by decide) rfl
      · refine Go.iload 151 rfl at_149 rfl ?_
        refine Go.ldcI 153 rfl (v := (61440 : Int32)) 168 at_151 rfl ?_
        refine Go.irem 154 rfl at_153 (by decide) ?_
        refine Go.nameI fun v352 hv352 => ?_
        refine Go.istore 156 rfl at_154 (Ls' := #[.val (.int p0), .val (.int p1), .val (.int p2), .val (.int v101), .val (.int v102), .val (.int v103), .val (.int v104), .unset, .unset, .val (.int v352), .unset]) rfl ?_
        refine Go.iload 158 rfl at_156 rfl ?_
        refine Go.ldcI 160 rfl (v := (53248 : Int32)) 169 at_158 rfl ?_
        have hs0 := own_rC hr0 hv352
        refine Go.joinI (pcJ := 180) (LsJ := #[.val (.int p0), .val (.int p1), .val (.int p2), .val (.int v101), .val (.int v102), .val (.int v103), .val (.int v104), .unset, .unset, .val (.int v352), .unset]) (stJ := []) (fun v => (2048 ≤ v.toInt ∧ v.toInt < 55296) ∨ (57344 ≤ v.toInt ∧ v.toInt < 65536)) (fun J => ?_) (fun cC hcC => ?_)
        · refine Go.icmp_ge 172 163 at_160 (by decide) rfl rfl (fun (b353 : ¬ v352 < (53248 : Int32)) => ?_) (fun (b353 : v352 < (53248 : Int32)) => ?_)
          · refine Go.ldcI 174 rfl (v := (57344 : Int32)) 181 at_172 rfl ?_
            refine Go.iload 176 rfl at_174 rfl ?_
            refine Go.ldcI 178 rfl (v := (53248 : Int32)) 169 at_176 rfl ?_
            refine Go.isub 179 rfl at_178 ?_
            refine Go.iadd 180 rfl at_179 ?_
            exact J _ (own_rC2 hs0 b353)
          · refine Go.sipush 166 rfl (2048 : Int32) at_163 rfl ?_
            refine Go.iload 168 rfl at_166 rfl ?_
            refine Go.iadd 169 rfl at_168 ?_
            refine Go.goto 180 at_169 (by decide) (by decide) ?_
            exact J _ (own_rC1 hs0 b353)
        · refine Go.istore 182 rfl at_180 (Ls' := #[.val (.int p0), .val (.int p1), .val (.int p2), .val (.int v101), .val (.int v102), .val (.int v103), .val (.int v104), .unset, .unset, .val (.int v352), .val (.int cC)]) rfl ?_
          refine Go.iconst 183 rfl (4 : Int32) at_182 rfl ?_
          refine Go.newA 185 rfl 1 4 4 at_183 rfl rfl (by decide) (by decide) (by decide) (by decide) fun h355 a354 g356 z357 K358 A359 E360 => ?_
          have A361 : Ary Z h355 a354 .byte [.int 0, .int 0, .int 0, .int 0] := A359
          refine Go.dup 186 rfl at_185 rfl ?_
          refine Go.iconst 187 rfl (0 : Int32) at_186 rfl ?_
          refine Go.sipush 190 rfl (224 : Int32) at_187 rfl ?_
          refine Go.iload 192 rfl at_190 rfl ?_
          refine Go.bipush 194 rfl (12 : Int32) at_192 rfl ?_
          refine Go.ishr 195 rfl at_194 ?_
          refine Go.ior 196 rfl at_195 ?_
          refine Go.i2b 197 rfl at_196 ?_
          refine Go.nameI fun v362 hv362 => ?_
          refine Go.stB 198 rfl at_197 A361 0 rfl (Nat.le_of_ble_eq_true rfl) z357 fun h363 K364 A365 => ?_
          have A366 : Ary Z h363 a354 .byte [.int (nar .byte v362), .int 0, .int 0, .int 0] := A365
          refine Go.dup 199 rfl at_198 rfl ?_
          refine Go.iconst 200 rfl (1 : Int32) at_199 rfl ?_
          refine Go.sipush 203 rfl (128 : Int32) at_200 rfl ?_
          refine Go.iload 205 rfl at_203 rfl ?_
          refine Go.bipush 207 rfl (6 : Int32) at_205 rfl ?_
          refine Go.ishr 208 rfl at_207 ?_
          refine Go.bipush 210 rfl (63 : Int32) at_208 rfl ?_
          refine Go.iand 211 rfl at_210 ?_
          refine Go.ior 212 rfl at_211 ?_
          refine Go.i2b 213 rfl at_212 ?_
          refine Go.nameI fun v367 hv367 => ?_
          refine Go.stB 214 rfl at_213 A366 1 rfl (Nat.le_of_ble_eq_true rfl) z357 fun h368 K369 A370 => ?_
          have A371 : Ary Z h368 a354 .byte [.int (nar .byte v362), .int (nar .byte v367), .int 0, .int 0] := A370
          refine Go.dup 215 rfl at_214 rfl ?_
          refine Go.iconst 216 rfl (2 : Int32) at_215 rfl ?_
          refine Go.sipush 219 rfl (128 : Int32) at_216 rfl ?_
          refine Go.iload 221 rfl at_219 rfl ?_
          refine Go.bipush 223 rfl (63 : Int32) at_221 rfl ?_
          refine Go.iand 224 rfl at_223 ?_
          refine Go.ior 225 rfl at_224 ?_
          refine Go.i2b 226 rfl at_225 ?_
          refine Go.nameI fun v372 hv372 => ?_
          refine Go.stB 227 rfl at_226 A371 2 rfl (Nat.le_of_ble_eq_true rfl) z357 fun h373 K374 A375 => ?_
          have A376 : Ary Z h373 a354 .byte [.int (nar .byte v362), .int (nar .byte v367), .int (nar .byte v372), .int 0] := A375
          refine Go.dup 228 rfl at_227 rfl ?_
          refine Go.iconst 229 rfl (3 : Int32) at_228 rfl ?_
          refine Go.iload 231 rfl at_229 rfl ?_
          refine Go.stB 232 rfl at_231 A376 3 rfl (Nat.le_of_ble_eq_true rfl) z357 fun h377 K378 A379 => ?_
          have A380 : Ary Z h377 a354 .byte [.int (nar .byte v362), .int (nar .byte v367), .int (nar .byte v372), .int (nar .byte v104)] := A379
          refine Go.astore 234 rfl at_232 rfl (Ls' := #[.val (.int p0), .val (.int p1), .val (.int p2), .val (.int v101), .val (.int v102), .val (.int v103), .val (.int v104), .val (.ref a354), .unset, .val (.int v352), .val (.int cC)]) rfl ?_
          refine Go.iconst 235 rfl (2 : Int32) at_234 rfl ?_
          refine Go.newA 237 rfl 2 2 2 at_235 rfl rfl (by decide) (by decide) (by decide) (by decide) fun h382 a381 g383 z384 K385 A386 E387 => ?_
          have A388 : Ary Z h382 a381 .char [.int 0, .int 0] := A386
          refine Go.dup 238 rfl at_237 rfl ?_
          refine Go.iconst 239 rfl (0 : Int32) at_238 rfl ?_
          refine Go.iload 241 rfl at_239 rfl ?_
          refine Go.i2c 242 rfl at_241 ?_
          refine Go.nameI fun v389 hv389 => ?_
          refine Go.stC 243 rfl at_242 A388 0 rfl (Nat.le_of_ble_eq_true rfl) z384 fun h390 K391 A392 => ?_
          have A393 : Ary Z h390 a381 .char [.int (nar .char v389), .int 0] := A392
          refine Go.dup 244 rfl at_243 rfl ?_
          refine Go.iconst 245 rfl (1 : Int32) at_244 rfl ?_
          refine Go.iload 247 rfl at_245 rfl ?_
          refine Go.stC 248 rfl at_247 A393 1 rfl (Nat.le_of_ble_eq_true rfl) z384 fun h394 K395 A396 => ?_
          have A397 : Ary Z h394 a381 .char [.int (nar .char v389), .int (nar .char v103)] := A396
          refine Go.astore 250 rfl at_248 rfl (Ls' := #[.val (.int p0), .val (.int p1), .val (.int p2), .val (.int v101), .val (.int v102), .val (.int v103), .val (.int v104), .val (.ref a354), .val (.ref a381), .val (.int v352), .val (.int cC)]) rfl ?_
          refine Go.goto 446 at_250 (by decide) (by decide) ?_
          obtain ⟨f1, f2, f3, f4, f5, f6, f7, f8, f9, f10⟩ := own_fC hcC hv362 hv367 hv372 hv389
          have hx0 := own_ch hv389
          refine Go.newO 449 rfl 3 4 5 at_446 rfl rfl rfl (by decide) (by decide) fun h399 a398 g400 z401 K402 E403 D404 => ?_
          refine Go.dup 450 rfl at_449 rfl ?_
          refine Go.aload 452 rfl at_450 rfl rfl ?_
          have F405 : Ary Z h399 a381 .char [.int (nar .char v389), .int (nar .char v103)] := (A397.keep K402 nin0)
          have A406 : Ary Z h399 a381 .char [.int v389, .int v103] := by have q := F405; simpa only [own_nc hx0, own_nc hxt] using q
          refine Go.callI 455 rfl (C := B1) a398 [.ref a381] (rest := [.ref a398]) 6 7 5 8 (c1n2 Z hw h399 a398 a381 v389 v103 cs hS hcs hAs hHi hLo z401 E403 (D404 30 (Or.inr rfl) (ty := (.array .byte)) (by decide) : Fld Z h399 a398 "java/lang/String" "value" "[B" (.null)) (D404 28 (Or.inr rfl) (ty := .byte) (by decide) : Fld Z h399 a398 "java/lang/String" "coder" "B" (.int (0 : Int32))) A406 hx0 hxt) at_452 rfl rfl rfl rfl rfl rfl (by decide) pd1 rfl rfl rfl (W := 1) (Nat.le_of_ble_eq_true rfl) (by decide) (by decide) (by decide) (by decide) fun v407 h408 q409 => ?_
          obtain ⟨rfl, t410, g411, K412, F413, D414⟩ := q409
          have sz416 := (Nat.le_trans K358.1 K364.1)
          have sz417 := (Nat.le_trans sz416 K369.1)
          have sz418 := (Nat.le_trans sz417 K374.1)
          have sz419 := (Nat.le_trans sz418 K378.1)
          have sz420 := (Nat.le_trans sz419 K385.1)
          have sz421 := (Nat.le_trans sz420 K391.1)
          have sz422 := (Nat.le_trans sz421 K395.1)
          have sz423 := (Nat.le_trans sz422 K402.1)
          have z415 : Z.heap.size ≤ t410 := Nat.le_trans (Nat.le_trans hle sz423) g411
          rcases D414 with ⟨-, lg0, lg1, -⟩ | ⟨C424, -, A425⟩; · exact absurd f10 lg0
          refine Go.aload 457 rfl at_455 rfl rfl ?_
          have ne426 : a354 ≠ a381 := (show @Ne Nat a354 a381 from by have := ltN A380.lt; have := g383; omega)
          have ne427 : a354 ≠ a398 := (show @Ne Nat a354 a398 from by have := ltN A380.lt; have := K385.1; have := K391.1; have := K395.1; have := g400; omega)
          have F428 : Ary Z h408 a354 .byte [.int (nar .byte v362), .int (nar .byte v367), .int (nar .byte v372), .int (nar .byte v104)] := (((((A380.keep K385 nin0).keep K391 (ninS ne426 nin0)).keep K395 (ninS ne426 nin0)).keep K402 nin0).keep K412 (ninS ne427 nin0))
          have A429 : Ary Z h408 a354 .byte [.int v362, .int v367, .int v372, .int v104] := by have q := F428; simpa only [own_nb hv362, own_nb hv367, own_nb hv372, own_nb hv104] using q
          have F430 : Exa Z h408 a354 "[B" := (((((((((E360.keep K364).keep K369).keep K374).keep K378).keep K385).keep K391).keep K395).keep K402).keep K412)
          have F431 : Exa Z h408 m "sun/nio/cs/UTF_8" := ((((((((((hM.keep K358).keep K364).keep K369).keep K374).keep K378).keep K385).keep K391).keep K395).keep K402).keep K412)
          refine Go.callS 460 rfl (C := B7) [.ref a354] (rest := [.ref a398]) 31 32 33 34 (c7C Z hw h408 a354 v362 v367 v372 v104 v389 v103 f1 f2 f3 f4 f5 f6 f7 f8 f9 ht hyt cs hS hcs hAs hHi hLo hfm m hU hU8 A429 F430 F431) at_457 rfl rfl rfl rfl (by decide) pd7 rfl rfl rfl (W := 1) (Nat.le_of_ble_eq_true rfl) (by decide) (by decide) (by decide) (by decide) fun v432 h433 q434 => ?_
          obtain ⟨a435, t436, rfl, g437, g438, K439, E440, F441, F442, A443⟩ := q434
          have sz445 := (Nat.le_trans sz423 K412.1)
          have z444 : Z.heap.size ≤ a435 := Nat.le_trans (Nat.le_trans hle sz445) g437
          have z446 : Z.heap.size ≤ t436 := Nat.le_trans (Nat.le_trans hle sz445) g438
          have F447 : Ary Z h433 t410 .byte (IL [lo v389, hi v389, lo v103, hi v103]) := (A425.keep K439 nin0)
          have F449 : Fld Z h433 a398 "java/lang/String" "value" "[B" (.ref t410) := (F413.keep K439 nin0)
          have F450 : Fld Z h433 a398 "java/lang/String" "coder" "B" (.int (1 : Int32)) := (C424.keep K439 nin0)
          have F454 : Exa Z h433 a398 "java/lang/String" := ((E403.keep K412).keep K439)
          refine Go.callV 463 rfl (C := B12) a398 [.ref a435] (rest := []) 70 71 73 72 5 74 (c12n4 Z hw h433 a398 a435 t410 t436 (lo v389) (hi v389) (lo v103) (hi v103) cs hS hcs E440 F449 F450 F441 F442 F447 A443) F454 at_460 rfl rfl rfl rfl rfl rfl (by decide) pd12 rfl rfl rfl (W := 0) (Nat.le_of_ble_eq_true rfl) (by decide) (by decide) (by decide) (by decide) fun v451 h452 q453 => ?_
          obtain ⟨rfl, rfl⟩ := q453
          exact Go.retN (t := .boolean) (z' := 1) at_463 rfl (by decide) (by decide) (by decide) (by decide) rfl
    · refine Go.sipush 80 rfl (128 : Int32) at_77 rfl ?_
      refine Go.iload 82 rfl at_80 rfl ?_
      refine Go.sipush 85 rfl (1920 : Int32) at_82 rfl ?_
      refine Go.irem 86 rfl at_85 (by decide) ?_
      refine Go.iadd 87 rfl at_86 ?_
      refine Go.nameI fun v199 hv199 => ?_
      refine Go.istore 89 rfl at_87 (Ls' := #[.val (.int p0), .val (.int p1), .val (.int p2), .val (.int v101), .val (.int v102), .val (.int v103), .val (.int v104), .unset, .unset, .val (.int v199), .unset]) rfl ?_
      refine Go.iconst 90 rfl (3 : Int32) at_89 rfl ?_
      refine Go.newA 92 rfl 1 3 3 at_90 rfl rfl (by decide) (by decide) (by decide) (by decide) fun h201 a200 g202 z203 K204 A205 E206 => ?_
      have A207 : Ary Z h201 a200 .byte [.int 0, .int 0, .int 0] := A205
      refine Go.dup 93 rfl at_92 rfl ?_
      refine Go.iconst 94 rfl (0 : Int32) at_93 rfl ?_
      refine Go.sipush 97 rfl (192 : Int32) at_94 rfl ?_
      refine Go.iload 99 rfl at_97 rfl ?_
      refine Go.bipush 101 rfl (6 : Int32) at_99 rfl ?_
      refine Go.ishr 102 rfl at_101 ?_
      refine Go.ior 103 rfl at_102 ?_
      refine Go.i2b 104 rfl at_103 ?_
      refine Go.nameI fun v208 hv208 => ?_
      refine Go.stB 105 rfl at_104 A207 0 rfl (Nat.le_of_ble_eq_true rfl) z203 fun h209 K210 A211 => ?_
      have A212 : Ary Z h209 a200 .byte [.int (nar .byte v208), .int 0, .int 0] := A211
      refine Go.dup 106 rfl at_105 rfl ?_
      refine Go.iconst 107 rfl (1 : Int32) at_106 rfl ?_
      refine Go.sipush 110 rfl (128 : Int32) at_107 rfl ?_
      refine Go.iload 112 rfl at_110 rfl ?_
      refine Go.bipush 114 rfl (63 : Int32) at_112 rfl ?_
      refine Go.iand 115 rfl at_114 ?_
      refine Go.ior 116 rfl at_115 ?_
      refine Go.i2b 117 rfl at_116 ?_
      refine Go.nameI fun v213 hv213 => ?_
      refine Go.stB 118 rfl at_117 A212 1 rfl (Nat.le_of_ble_eq_true rfl) z203 fun h214 K215 A216 => ?_
      have A217 : Ary Z h214 a200 .byte [.int (nar .byte v208), .int (nar .byte v213), .int 0] := A216
      refine Go.dup 119 rfl at_118 rfl ?_
      refine Go.iconst 120 rfl (2 : Int32) at_119 rfl ?_
      refine Go.iload 122 rfl at_120 rfl ?_
      refine Go.stB 123 rfl at_122 A217 2 rfl (Nat.le_of_ble_eq_true rfl) z203 fun h218 K219 A220 => ?_
      have A221 : Ary Z h218 a200 .byte [.int (nar .byte v208), .int (nar .byte v213), .int (nar .byte v104)] := A220
      refine Go.astore 125 rfl at_123 rfl (Ls' := #[.val (.int p0), .val (.int p1), .val (.int p2), .val (.int v101), .val (.int v102), .val (.int v103), .val (.int v104), .val (.ref a200), .unset, .val (.int v199), .unset]) rfl ?_
      refine Go.iconst 126 rfl (2 : Int32) at_125 rfl ?_
      refine Go.newA 128 rfl 2 2 2 at_126 rfl rfl (by decide) (by decide) (by decide) (by decide) fun h223 a222 g224 z225 K226 A227 E228 => ?_
      have A229 : Ary Z h223 a222 .char [.int 0, .int 0] := A227
      refine Go.dup 129 rfl at_128 rfl ?_
      refine Go.iconst 130 rfl (0 : Int32) at_129 rfl ?_
      refine Go.iload 132 rfl at_130 rfl ?_
      refine Go.i2c 133 rfl at_132 ?_
      refine Go.nameI fun v230 hv230 => ?_
      refine Go.stC 134 rfl at_133 A229 0 rfl (Nat.le_of_ble_eq_true rfl) z225 fun h231 K232 A233 => ?_
      have A234 : Ary Z h231 a222 .char [.int (nar .char v230), .int 0] := A233
      refine Go.dup 135 rfl at_134 rfl ?_
      refine Go.iconst 136 rfl (1 : Int32) at_135 rfl ?_
      refine Go.iload 138 rfl at_136 rfl ?_
      refine Go.stC 139 rfl at_138 A234 1 rfl (Nat.le_of_ble_eq_true rfl) z225 fun h235 K236 A237 => ?_
      have A238 : Ary Z h235 a222 .char [.int (nar .char v230), .int (nar .char v103)] := A237
      refine Go.astore 141 rfl at_139 rfl (Ls' := #[.val (.int p0), .val (.int p1), .val (.int p2), .val (.int v101), .val (.int v102), .val (.int v103), .val (.int v104), .val (.ref a200), .val (.ref a222), .val (.int v199), .unset]) rfl ?_
      refine Go.goto 446 at_141 (by decide) (by decide) ?_
      obtain ⟨f1, f2, f3, f4, f5, f6, f7, f8⟩ := own_fB (own_rB hr0 hv199) hv208 hv213 hv230
      have hx0 := own_ch hv230
      by_cases hbx : (255 : Int32) < v230
      · refine Go.newO 449 rfl 3 4 5 at_446 rfl rfl rfl (by decide) (by decide) fun h240 a239 g241 z242 K243 E244 D245 => ?_
        refine Go.dup 450 rfl at_449 rfl ?_
        refine Go.aload 452 rfl at_450 rfl rfl ?_
        have F246 : Ary Z h240 a222 .char [.int (nar .char v230), .int (nar .char v103)] := (A238.keep K243 nin0)
        have A247 : Ary Z h240 a222 .char [.int v230, .int v103] := by have q := F246; simpa only [own_nc hx0, own_nc hxt] using q
        refine Go.callI 455 rfl (C := B1) a239 [.ref a222] (rest := [.ref a239]) 6 7 5 8 (c1n2 Z hw h240 a239 a222 v230 v103 cs hS hcs hAs hHi hLo z242 E244 (D245 30 (Or.inr rfl) (ty := (.array .byte)) (by decide) : Fld Z h240 a239 "java/lang/String" "value" "[B" (.null)) (D245 28 (Or.inr rfl) (ty := .byte) (by decide) : Fld Z h240 a239 "java/lang/String" "coder" "B" (.int (0 : Int32))) A247 hx0 hxt) at_452 rfl rfl rfl rfl rfl rfl (by decide) pd1 rfl rfl rfl (W := 1) (Nat.le_of_ble_eq_true rfl) (by decide) (by decide) (by decide) (by decide) fun v248 h249 q250 => ?_
        obtain ⟨rfl, t251, g252, K253, F254, D255⟩ := q250
        have sz257 := (Nat.le_trans K204.1 K210.1)
        have sz258 := (Nat.le_trans sz257 K215.1)
        have sz259 := (Nat.le_trans sz258 K219.1)
        have sz260 := (Nat.le_trans sz259 K226.1)
        have sz261 := (Nat.le_trans sz260 K232.1)
        have sz262 := (Nat.le_trans sz261 K236.1)
        have sz263 := (Nat.le_trans sz262 K243.1)
        have z256 : Z.heap.size ≤ t251 := Nat.le_trans (Nat.le_trans hle sz263) g252
        rcases D255 with ⟨-, lg0, lg1, -⟩ | ⟨C264, -, A265⟩; · exact absurd hbx lg0
        refine Go.aload 457 rfl at_455 rfl rfl ?_
        have ne266 : a200 ≠ a222 := (show @Ne Nat a200 a222 from by have := ltN A221.lt; have := g224; omega)
        have ne267 : a200 ≠ a239 := (show @Ne Nat a200 a239 from by have := ltN A221.lt; have := K226.1; have := K232.1; have := K236.1; have := g241; omega)
        have F268 : Ary Z h249 a200 .byte [.int (nar .byte v208), .int (nar .byte v213), .int (nar .byte v104)] := (((((A221.keep K226 nin0).keep K232 (ninS ne266 nin0)).keep K236 (ninS ne266 nin0)).keep K243 nin0).keep K253 (ninS ne267 nin0))
        have A269 : Ary Z h249 a200 .byte [.int v208, .int v213, .int v104] := by have q := F268; simpa only [own_nb hv208, own_nb hv213, own_nb hv104] using q
        have F270 : Exa Z h249 a200 "[B" := ((((((((E206.keep K210).keep K215).keep K219).keep K226).keep K232).keep K236).keep K243).keep K253)
        have F271 : Exa Z h249 m "sun/nio/cs/UTF_8" := (((((((((hM.keep K204).keep K210).keep K215).keep K219).keep K226).keep K232).keep K236).keep K243).keep K253)
        refine Go.callS 460 rfl (C := B7) [.ref a200] (rest := [.ref a239]) 31 32 33 34 (c7B Z hw h249 a200 v208 v213 v104 v230 v103 f1 (f7 hbx) f2 f3 f4 f6 ht hyt cs hS hcs hAs hHi hLo hfm m hU hU8 A269 F270 F271) at_457 rfl rfl rfl rfl (by decide) pd7 rfl rfl rfl (W := 1) (Nat.le_of_ble_eq_true rfl) (by decide) (by decide) (by decide) (by decide) fun v272 h273 q274 => ?_
        obtain ⟨a275, t276, rfl, g277, g278, K279, E280, F281, F282, A283⟩ := q274
        have sz285 := (Nat.le_trans sz263 K253.1)
        have z284 : Z.heap.size ≤ a275 := Nat.le_trans (Nat.le_trans hle sz285) g277
        have z286 : Z.heap.size ≤ t276 := Nat.le_trans (Nat.le_trans hle sz285) g278
        have F287 : Ary Z h273 t251 .byte (IL [lo v230, hi v230, lo v103, hi v103]) := (A265.keep K279 nin0)
        have F289 : Fld Z h273 a239 "java/lang/String" "value" "[B" (.ref t251) := (F254.keep K279 nin0)
        have F290 : Fld Z h273 a239 "java/lang/String" "coder" "B" (.int (1 : Int32)) := (C264.keep K279 nin0)
        have F294 : Exa Z h273 a239 "java/lang/String" := ((E244.keep K253).keep K279)
        refine Go.callV 463 rfl (C := B12) a239 [.ref a275] (rest := []) 70 71 73 72 5 74 (c12n4 Z hw h273 a239 a275 t251 t276 (lo v230) (hi v230) (lo v103) (hi v103) cs hS hcs E280 F289 F290 F281 F282 F287 A283) F294 at_460 rfl rfl rfl rfl rfl rfl (by decide) pd12 rfl rfl rfl (W := 0) (Nat.le_of_ble_eq_true rfl) (by decide) (by decide) (by decide) (by decide) fun v291 h292 q293 => ?_
        obtain ⟨rfl, rfl⟩ := q293
        exact Go.retN (t := .boolean) (z' := 1) at_463 rfl (by decide) (by decide) (by decide) (by decide) rfl
      · refine Go.newO 449 rfl 3 4 5 at_446 rfl rfl rfl (by decide) (by decide) fun h296 a295 g297 z298 K299 E300 D301 => ?_
        refine Go.dup 450 rfl at_449 rfl ?_
        refine Go.aload 452 rfl at_450 rfl rfl ?_
        have F302 : Ary Z h296 a222 .char [.int (nar .char v230), .int (nar .char v103)] := (A238.keep K299 nin0)
        have A303 : Ary Z h296 a222 .char [.int v230, .int v103] := by have q := F302; simpa only [own_nc hx0, own_nc hxt] using q
        refine Go.callI 455 rfl (C := B1) a295 [.ref a222] (rest := [.ref a295]) 6 7 5 8 (c1n2 Z hw h296 a295 a222 v230 v103 cs hS hcs hAs hHi hLo z298 E300 (D301 30 (Or.inr rfl) (ty := (.array .byte)) (by decide) : Fld Z h296 a295 "java/lang/String" "value" "[B" (.null)) (D301 28 (Or.inr rfl) (ty := .byte) (by decide) : Fld Z h296 a295 "java/lang/String" "coder" "B" (.int (0 : Int32))) A303 hx0 hxt) at_452 rfl rfl rfl rfl rfl rfl (by decide) pd1 rfl rfl rfl (W := 1) (Nat.le_of_ble_eq_true rfl) (by decide) (by decide) (by decide) (by decide) fun v304 h305 q306 => ?_
        obtain ⟨rfl, t307, g308, K309, F310, D311⟩ := q306
        have sz313 := (Nat.le_trans K204.1 K210.1)
        have sz314 := (Nat.le_trans sz313 K215.1)
        have sz315 := (Nat.le_trans sz314 K219.1)
        have sz316 := (Nat.le_trans sz315 K226.1)
        have sz317 := (Nat.le_trans sz316 K232.1)
        have sz318 := (Nat.le_trans sz317 K236.1)
        have sz319 := (Nat.le_trans sz318 K299.1)
        have z312 : Z.heap.size ≤ t307 := Nat.le_trans (Nat.le_trans hle sz319) g308
        rcases D311 with ⟨C320, -, -, A321⟩ | ⟨-, hbg, -⟩; rotate_left; · exact absurd hbg (own_no2 hbx htl)
        refine Go.aload 457 rfl at_455 rfl rfl ?_
        have ne322 : a200 ≠ a222 := (show @Ne Nat a200 a222 from by have := ltN A221.lt; have := g224; omega)
        have ne323 : a200 ≠ a295 := (show @Ne Nat a200 a295 from by have := ltN A221.lt; have := K226.1; have := K232.1; have := K236.1; have := g297; omega)
        have F324 : Ary Z h305 a200 .byte [.int (nar .byte v208), .int (nar .byte v213), .int (nar .byte v104)] := (((((A221.keep K226 nin0).keep K232 (ninS ne322 nin0)).keep K236 (ninS ne322 nin0)).keep K299 nin0).keep K309 (ninS ne323 nin0))
        have A325 : Ary Z h305 a200 .byte [.int v208, .int v213, .int v104] := by have q := F324; simpa only [own_nb hv208, own_nb hv213, own_nb hv104] using q
        have F326 : Exa Z h305 a200 "[B" := ((((((((E206.keep K210).keep K215).keep K219).keep K226).keep K232).keep K236).keep K299).keep K309)
        have F327 : Exa Z h305 m "sun/nio/cs/UTF_8" := (((((((((hM.keep K204).keep K210).keep K215).keep K219).keep K226).keep K232).keep K236).keep K299).keep K309)
        refine Go.callS 460 rfl (C := B7) [.ref a200] (rest := [.ref a295]) 31 32 33 34 (c7L Z hw h305 a200 v208 v213 v104 v230 v103 f1 (f8 hbx) f5 f6 ht hyt cs hS hcs hAs hHi hLo hfm m hU hU8 A325 F326 F327) at_457 rfl rfl rfl rfl (by decide) pd7 rfl rfl rfl (W := 1) (Nat.le_of_ble_eq_true rfl) (by decide) (by decide) (by decide) (by decide) fun v328 h329 q330 => ?_
        obtain ⟨a331, t332, rfl, g333, g334, K335, E336, F337, F338, A339⟩ := q330
        have sz341 := (Nat.le_trans sz319 K309.1)
        have z340 : Z.heap.size ≤ a331 := Nat.le_trans (Nat.le_trans hle sz341) g333
        have z342 : Z.heap.size ≤ t332 := Nat.le_trans (Nat.le_trans hle sz341) g334
        have F343 : Ary Z h329 t307 .byte (IL [l1 v230, l1 v103]) := (A321.keep K335 nin0)
        have A344 : Ary Z h329 t307 .byte [.int (l1 v230), .int v104] := by have q := F343; simpa only [IL, List.map_cons, List.map_nil, htb1] using q
        have A345 : Ary Z h329 t332 .byte [.int (l1 v230), .int v104] := by have q := A339; simpa only [IL, List.map_cons, List.map_nil, htb2] using q
        have F346 : Fld Z h329 a295 "java/lang/String" "value" "[B" (.ref t307) := (F310.keep K335 nin0)
        have F347 : Fld Z h329 a295 "java/lang/String" "coder" "B" (.int (0 : Int32)) := (C320.keep K335 nin0)
        have F351 : Exa Z h329 a295 "java/lang/String" := ((E300.keep K309).keep K335)
        refine Go.callV 463 rfl (C := B12) a295 [.ref a331] (rest := []) 70 71 73 72 5 74 (c12n2 Z hw h329 a295 a331 t307 t332 (l1 v230) v104 cs hS hcs E336 F346 F347 F337 F338 A344 A345) F351 at_460 rfl rfl rfl rfl rfl rfl (by decide) pd12 rfl rfl rfl (W := 0) (Nat.le_of_ble_eq_true rfl) (by decide) (by decide) (by decide) (by decide) fun v348 h349 q350 => ?_
        obtain ⟨rfl, rfl⟩ := q350
        exact Go.retN (t := .boolean) (z' := 1) at_463 rfl (by decide) (by decide) (by decide) (by decide) rfl
  · refine Go.iloadN 32 rfl at_31 rfl ?_
    refine Go.bipush 34 rfl (127 : Int32) at_32 rfl ?_
    refine Go.iand 35 rfl at_34 ?_
    refine Go.nameI fun v109 hv109 => ?_
    refine Go.istore 37 rfl at_35 (Ls' := #[.val (.int p0), .val (.int p1), .val (.int p2), .val (.int v101), .val (.int v102), .val (.int v103), .val (.int v104), .unset, .unset, .val (.int v109), .unset]) rfl ?_
    refine Go.iconst 38 rfl (2 : Int32) at_37 rfl ?_
    refine Go.newA 40 rfl 1 2 2 at_38 rfl rfl (by decide) (by decide) (by decide) (by decide) fun h111 a110 g112 z113 K114 A115 E116 => ?_
    have A117 : Ary Z h111 a110 .byte [.int 0, .int 0] := A115
    refine Go.dup 41 rfl at_40 rfl ?_
    refine Go.iconst 42 rfl (0 : Int32) at_41 rfl ?_
    refine Go.iload 44 rfl at_42 rfl ?_
    refine Go.i2b 45 rfl at_44 ?_
    refine Go.nameI fun v118 hv118 => ?_
    refine Go.stB 46 rfl at_45 A117 0 rfl (Nat.le_of_ble_eq_true rfl) z113 fun h119 K120 A121 => ?_
    have A122 : Ary Z h119 a110 .byte [.int (nar .byte v118), .int 0] := A121
    refine Go.dup 47 rfl at_46 rfl ?_
    refine Go.iconst 48 rfl (1 : Int32) at_47 rfl ?_
    refine Go.iload 50 rfl at_48 rfl ?_
    refine Go.stB 51 rfl at_50 A122 1 rfl (Nat.le_of_ble_eq_true rfl) z113 fun h123 K124 A125 => ?_
    have A126 : Ary Z h123 a110 .byte [.int (nar .byte v118), .int (nar .byte v104)] := A125
    refine Go.astore 53 rfl at_51 rfl (Ls' := #[.val (.int p0), .val (.int p1), .val (.int p2), .val (.int v101), .val (.int v102), .val (.int v103), .val (.int v104), .val (.ref a110), .unset, .val (.int v109), .unset]) rfl ?_
    refine Go.iconst 54 rfl (2 : Int32) at_53 rfl ?_
    refine Go.newA 56 rfl 2 2 2 at_54 rfl rfl (by decide) (by decide) (by decide) (by decide) fun h128 a127 g129 z130 K131 A132 E133 => ?_
    have A134 : Ary Z h128 a127 .char [.int 0, .int 0] := A132
    refine Go.dup 57 rfl at_56 rfl ?_
    refine Go.iconst 58 rfl (0 : Int32) at_57 rfl ?_
    refine Go.iload 60 rfl at_58 rfl ?_
    refine Go.i2c 61 rfl at_60 ?_
    refine Go.nameI fun v135 hv135 => ?_
    refine Go.stC 62 rfl at_61 A134 0 rfl (Nat.le_of_ble_eq_true rfl) z130 fun h136 K137 A138 => ?_
    have A139 : Ary Z h136 a127 .char [.int (nar .char v135), .int 0] := A138
    refine Go.dup 63 rfl at_62 rfl ?_
    refine Go.iconst 64 rfl (1 : Int32) at_63 rfl ?_
    refine Go.iload 66 rfl at_64 rfl ?_
    refine Go.stC 67 rfl at_66 A139 1 rfl (Nat.le_of_ble_eq_true rfl) z130 fun h140 K141 A142 => ?_
    have A143 : Ary Z h140 a127 .char [.int (nar .char v135), .int (nar .char v103)] := A142
    refine Go.astore 69 rfl at_67 rfl (Ls' := #[.val (.int p0), .val (.int p1), .val (.int p2), .val (.int v101), .val (.int v102), .val (.int v103), .val (.int v104), .val (.ref a110), .val (.ref a127), .val (.int v109), .unset]) rfl ?_
    refine Go.goto 446 at_69 (by decide) (by decide) ?_
    obtain ⟨hb0n, -, hb0c, hb0l, -⟩ := own_t (own_r7 hv109) hv135 hv118
    have hx0 := own_ch hv135
    refine Go.newO 449 rfl 3 4 5 at_446 rfl rfl rfl (by decide) (by decide) fun h145 a144 g146 z147 K148 E149 D150 => ?_
    refine Go.dup 450 rfl at_449 rfl ?_
    refine Go.aload 452 rfl at_450 rfl rfl ?_
    have F151 : Ary Z h145 a127 .char [.int (nar .char v135), .int (nar .char v103)] := (A143.keep K148 nin0)
    have A152 : Ary Z h145 a127 .char [.int v135, .int v103] := by have q := F151; simpa only [own_nc hx0, own_nc hxt] using q
    refine Go.callI 455 rfl (C := B1) a144 [.ref a127] (rest := [.ref a144]) 6 7 5 8 (c1n2 Z hw h145 a144 a127 v135 v103 cs hS hcs hAs hHi hLo z147 E149 (D150 30 (Or.inr rfl) (ty := (.array .byte)) (by decide) : Fld Z h145 a144 "java/lang/String" "value" "[B" (.null)) (D150 28 (Or.inr rfl) (ty := .byte) (by decide) : Fld Z h145 a144 "java/lang/String" "coder" "B" (.int (0 : Int32))) A152 hx0 hxt) at_452 rfl rfl rfl rfl rfl rfl (by decide) pd1 rfl rfl rfl (W := 1) (Nat.le_of_ble_eq_true rfl) (by decide) (by decide) (by decide) (by decide) fun v153 h154 q155 => ?_
    obtain ⟨rfl, t156, g157, K158, F159, D160⟩ := q155
    have sz162 := (Nat.le_trans K114.1 K120.1)
    have sz163 := (Nat.le_trans sz162 K124.1)
    have sz164 := (Nat.le_trans sz163 K131.1)
    have sz165 := (Nat.le_trans sz164 K137.1)
    have sz166 := (Nat.le_trans sz165 K141.1)
    have sz167 := (Nat.le_trans sz166 K148.1)
    have z161 : Z.heap.size ≤ t156 := Nat.le_trans (Nat.le_trans hle sz167) g157
    rcases D160 with ⟨C168, -, -, A169⟩ | ⟨-, hbg, -⟩; rotate_left; · exact absurd hbg (own_no2 hb0c htl)
    refine Go.aload 457 rfl at_455 rfl rfl ?_
    have ne170 : a110 ≠ a127 := (show @Ne Nat a110 a127 from by have := ltN A126.lt; have := g129; omega)
    have ne171 : a110 ≠ a144 := (show @Ne Nat a110 a144 from by have := ltN A126.lt; have := K131.1; have := K137.1; have := K141.1; have := g146; omega)
    have F172 : Ary Z h154 a110 .byte [.int (nar .byte v118), .int (nar .byte v104)] := (((((A126.keep K131 nin0).keep K137 (ninS ne170 nin0)).keep K141 (ninS ne170 nin0)).keep K148 nin0).keep K158 (ninS ne171 nin0))
    have A173 : Ary Z h154 a110 .byte [.int v118, .int v104] := by have q := F172; simpa only [own_nb hv118, own_nb hv104] using q
    have F174 : Exa Z h154 a110 "[B" := (((((((E116.keep K120).keep K124).keep K131).keep K137).keep K141).keep K148).keep K158)
    have F175 : Exa Z h154 m "sun/nio/cs/UTF_8" := ((((((((hM.keep K114).keep K120).keep K124).keep K131).keep K137).keep K141).keep K148).keep K158)
    refine Go.callS 460 rfl (C := B7) [.ref a110] (rest := [.ref a144]) 31 32 33 34 (c7A Z hw h154 a110 v118 v104  v103 hb0n ht hyt cs hS hcs hAs hHi hLo hfm m hU hU8 A173 F174 F175) at_457 rfl rfl rfl rfl (by decide) pd7 rfl rfl rfl (W := 1) (Nat.le_of_ble_eq_true rfl) (by decide) (by decide) (by decide) (by decide) fun v176 h177 q178 => ?_
    obtain ⟨a179, t180, rfl, g181, g182, K183, E184, F185, F186, A187⟩ := q178
    have sz189 := (Nat.le_trans sz167 K158.1)
    have z188 : Z.heap.size ≤ a179 := Nat.le_trans (Nat.le_trans hle sz189) g181
    have z190 : Z.heap.size ≤ t180 := Nat.le_trans (Nat.le_trans hle sz189) g182
    have F191 : Ary Z h177 t156 .byte (IL [l1 v135, l1 v103]) := (A169.keep K183 nin0)
    have A192 : Ary Z h177 t156 .byte [.int v118, .int v104] := by have q := F191; simpa only [IL, List.map_cons, List.map_nil, hb0l, htb1] using q
    have F193 : Fld Z h177 a144 "java/lang/String" "value" "[B" (.ref t156) := (F159.keep K183 nin0)
    have F194 : Fld Z h177 a144 "java/lang/String" "coder" "B" (.int (0 : Int32)) := (C168.keep K183 nin0)
    have F198 : Exa Z h177 a144 "java/lang/String" := ((E149.keep K158).keep K183)
    refine Go.callV 463 rfl (C := B12) a144 [.ref a179] (rest := []) 70 71 73 72 5 74 (c12n2 Z hw h177 a144 a179 t156 t180 v118 v104 cs hS hcs E184 F193 F194 F185 F186 A192 A187) F198 at_460 rfl rfl rfl rfl rfl rfl (by decide) pd12 rfl rfl rfl (W := 0) (Nat.le_of_ble_eq_true rfl) (by decide) (by decide) (by decide) (by decide) fun v195 h196 q197 => ?_
    obtain ⟨rfl, rfl⟩ := q197
    exact Go.retN (t := .boolean) (z' := 1) at_463 rfl (by decide) (by decide) (by decide) (by decide) rfl
set_option maxRecDepth 65536 in
set_option maxHeartbeats 40000000 in
theorem comes_1 {Post : Tables → Env → Array Value → State → Outcome → State → Prop} (hpost : ∀ tb e args s v u, (limb_1_1.after args s (.returned v) u = true ∧ limb_1_2.after args s (.returned v) u = true ∧ True) → FrameEnd s (.returned v) u (Jvm.fieldLocs frame_1_writes args s ++ Jvm.arrayLocs frame_1_arrays args s ++ Jvm.staticLocs frame_1_statics s) 32 192 → Post tb e args s (.returned v) u) :
    ArmFor flags0 classFile x code maxLocals ret World_1 tables_1 room_1 Calls_1 rest_1 Pre_1 Post := by
  intro l hfl _ _ p e ha hc hk s m args below hf hA hF happ hP
  obtain ⟨hcalls, hrest, hpre⟩ := hP
  obtain ⟨-, -, -, hnamed, -, -, -, hat⟩ := (Spec.applies_iff hf).mp happ
  obtain ⟨hg, hn⟩ := and_e (Cond.before_iff.mp (show (Jvm.Cond.and given_1 narrow_1).before args s = true from hpre))
  obtain ⟨hg1, hg2⟩ := and_e hg
  obtain ⟨w0, w1, w2, rfl⟩ : ∃ w0 w1 w2 : Value, args = #[w0, w1, w2] := by
    have hs : args.size = 3 := by simpa [Cond.value, given_1] using hg1
    obtain ⟨L⟩ := args
    match L, hs with
    | [w0, w1, w2], _ => exact ⟨w0, w1, w2, rfl⟩
  obtain ⟨ga0, gb0⟩ := and_e hg2
  obtain ⟨i0, e0⟩ := is_v ga0
  obtain rfl : w0 = (.int i0) := Option.some.inj e0
  obtain ⟨ga1, gb1⟩ := and_e gb0
  obtain ⟨i1, e1⟩ := is_v ga1
  obtain rfl : w1 = (.int i1) := Option.some.inj e1
  obtain ⟨i2, e2⟩ := is_v gb1
  obtain rfl : w2 = (.int i2) := Option.some.inj e2
  have hw : Wd s tables_1 := ⟨_, fun d (hd : d ∈ tables_1) => atoms_spec (ws := Jvm.Cond.code x code maxLocals ret :: tables_1) hat d (List.mem_cons_of_mem _ hd)⟩
  have hfit : Fit s := fun {y c} hc i hi => by
    obtain ⟨ha, rfl⟩ := Array.getElem?_eq_some_iff.mp hc
    have q := List.all_eq_true.mp ((Array.all_eq_true_iff_forall_mem.mp hF) _ (Array.getElem_mem ha)) i (List.mem_range.mpr hi)
    simpa [Array.getElem?_eq_getElem hi] using q
  obtain ⟨hsets, hown0⟩ := atoms_of _ (rest_1_c_eq ▸ (show rest_1_c.before _ s = true from hrest))
  obtain ⟨cs, ecs⟩ := is_v (Cond.before_iff.mp (hsets _ (List.mem_of_getElem? (i := 1) rfl)))
  have hS : Sta s s.heap "java/lang/String" "COMPACT_STRINGS" "Z" (.int cs) := Sta.start ecs (Or.inl (hsets _ (List.mem_of_getElem? (i := 0) rfl)))
  have hcs : ¬ (cs = (0 : Int32)) := gotF (Cond.eq_ints ecs (Term.int_eval (0))) (not_v (Cond.before_iff.mp (hsets _ (List.mem_of_getElem? (i := 2) rfl))))
  have hAs : Sta s s.heap "java/lang/StringUTF16" "$assertionsDisabled" "Z" (.int 1) := own_si (Cond.before_iff.mp (hsets _ (List.mem_of_getElem? (i := 21) rfl))) (hsets _ (List.mem_of_getElem? (i := 20) rfl))
  have hHi : Sta s s.heap "java/lang/StringUTF16" "HI_BYTE_SHIFT" "I" (.int 0) := own_si (Cond.before_iff.mp (hsets _ (List.mem_of_getElem? (i := 24) rfl))) (hsets _ (List.mem_of_getElem? (i := 23) rfl))
  have hLo : Sta s s.heap "java/lang/StringUTF16" "LO_BYTE_SHIFT" "I" (.int 8) := own_si (Cond.before_iff.mp (hsets _ (List.mem_of_getElem? (i := 27) rfl))) (hsets _ (List.mem_of_getElem? (i := 26) rfl))
  have hfm : (Sta s s.heap "jdk/internal/util/Preconditions" "SIOOBE_FORMATTER" "Ljava/util/function/BiFunction;" .null) ∨ ∃ m, Sta s s.heap "jdk/internal/util/Preconditions" "SIOOBE_FORMATTER" "Ljava/util/function/BiFunction;" (.ref m) := by
    obtain ⟨v, ev, hr⟩ := isR_v (Cond.before_iff.mp (hsets _ (List.mem_of_getElem? (i := 8) rfl)))
    have S := Sta.start ev (Or.inl (hsets _ (List.mem_of_getElem? (i := 7) rfl)))
    rcases ref_cases hr with rfl | ⟨m, rfl⟩
    · exact Or.inl S
    · exact Or.inr ⟨m, S⟩
  obtain ⟨m', ev⟩ := exa_v (Cond.before_iff.mp (hsets _ (List.mem_of_getElem? (i := 14) rfl)))
  have hM := Exa.start ev (Cond.before_iff.mp (hsets _ (List.mem_of_getElem? (i := 14) rfl)))
  have hU8 := Sta.start ev (Or.inl (hsets _ (List.mem_of_getElem? (i := 10) rfl)))
  have hU : Sta s s.heap "sun/nio/cs/UTF_8" "INSTANCE" "Lsun/nio/cs/UTF_8;" (.ref m') := Sta.start (own_se ev (Cond.before_iff.mp (hsets _ (List.mem_of_getElem? (i := 13) rfl)))) (Or.inl (hsets _ (List.mem_of_getElem? (i := 12) rfl)))
  obtain ⟨n, o, h1, h2, h3, _, L, rfl, ⟨hv, -, N⟩, hq⟩ := c0 s hw s.heap i0 i1 i2 cs hS hcs hAs hHi hLo hfm m' hU hU8 hM ⟨Nat.le_refl _, fun _ _ q => q⟩ l tables_1 p e ha hc hk s m _ below hf ((Spec.applies_iff_loose hf).mp happ).1 ⟨rfl, State.Warmed39.refl s, rfl⟩ trivial
  cases (show _ = some (Value.int 1) from hv)
  refine ⟨n, _, h1, h2, h3, hpost _ _ _ _ _ _ ⟨Cond.after_iff.mpr rfl, Cond.after_iff.mpr (eq_i res_at (Term.int_eval (1)) rfl), trivial⟩ ⟨hq.1, hq.2.1, (hq.2.2.sift fun y hy => Or.inr (N y hy)).mono (by decide) (by decide)⟩⟩
theorem main_1_1 : Claimed_1_1 := comes_1 fun _ _ _ _ _ _ h hF => ⟨h.1, hF⟩
theorem main_1_2 : Claimed_1_2 := comes_1 fun _ _ _ _ _ _ h hF => ⟨h.2.1, hF⟩
end Jvm.Pilot.@@N@@
namespace Jvm.Pilot.@@N@@
open Jvm Jvm.ClassFile Sem Op Lib Jvm.Free Jvm.Stand Jvm.Pilot.@@N@@.Jvm.D
/-! MADE BY PROGRAM (witnessworld.py) out of the Statement's table words and the real class files: 31 classes; the members and pool entries that the words name. The judged class is class 1, her method 1. -/
namespace start1
open Jvm.ClassFile
def u (s : String) : CpInfo := .utf8 (stringToUtf16 s)
/-- a pool by its gaps: so many unusable entries, then the entry; so many at the end -/
def gap : Nat → List CpInfo → List CpInfo
  | 0, r => r
  | n + 1, r => .unusable :: gap n r
def poolList (es : List (Nat × CpInfo)) (last : Nat) : List CpInfo := es.foldr (fun e r => gap e.1 (e.2 :: r)) (gap last [])
def pool (es : List (Nat × CpInfo)) (last : Nat) : Array CpInfo := ⟨poolList es last⟩
def fileOf (pool : Array CpInfo) (this : Nat) (attrs : Array Attribute := #[]) (ms : Array MethodInfo := #[]) (fl : Nat := 33) (sup : Nat := 0) (ifs : Array Nat := #[]) (fds : Array FieldInfo := #[]) : ClassFile where
  minorVersion := 0
  majorVersion := 65
  constantPool := pool
  accessFlags := fl
  thisClass := this
  superClass := sup
  interfaces := ifs
  fields := fds
  methods := ms
  attributes := attrs
def plain (name : String) (sup : Option ClassId) : Class where
  name := name
  kind := .ordinary
  loader := none
  accessFlags := 33
  super := sup
  interfaces := #[]
  cf := none
  fields := #[]
  methods := #[]
  instanceTypes := #[]
  staticTypes := #[]
  resolved := #[]
  callSites := []
  init := .initialized
  statics := none
  mirror := none

def pool0 : Array CpInfo := pool [(5, u "<init>"), (0, u "()V"), (1, .class_ 10), (1, u "java/lang/Object"), (85, u "clone"), (0, u "()Ljava/lang/Object;")] 26

def k0c0 : Code := { maxStack := 0, maxLocals := 1, code := object_method_1_code, exceptionTable := #[], attributes := #[] }
def k0m0 : Method := { name := "<init>", desc := "()V", sig := { parameters := [], returnType := none }, accessFlags := 1, code := some k0c0 }
def k0m1 : Method := { name := "clone", desc := "()Ljava/lang/Object;", sig := { parameters := [], returnType := some (.object "java/lang/Object") }, accessFlags := 260, code := none }
/-- java/lang/Object -/
def k0 : Class := { plain "java/lang/Object" none with
  accessFlags := 33
  interfaces := #[]
  cf := some (fileOf pool0 8 #[] #[{ accessFlags := 1, nameIndex := 5, descriptorIndex := 6, attributes := #[] }, { accessFlags := 260, nameIndex := 96, descriptorIndex := 97, attributes := #[] }] 33 0 #[] #[])
  fields := #[]
  methods := #[k0m0, k0m1]
  instanceTypes := #[]
  staticTypes := #[]
  resolved := Array.replicate 124 none
  statics := none }

def pool1 : Array CpInfo := pool [(2, .class_ 4), (1, u "java/lang/Object"), (0, u "<init>"), (0, u "()V"), (0, .integer 2147483647), (0, .integer 61440), (0, .integer 53248), (0, .integer 57344), (0, .integer 65536), (0, .integer 1048576), (0, .integer 55296), (0, .integer 56320), (0, .integer 65533), (0, .class_ 17), (0, u "java/lang/String"), (0, .methodref 16 19), (0, .nameAndType 5 20), (0, u "([C)V"), (0, .methodref 22 23), (0, .class_ 24), (0, .nameAndType 25 26), (0, u "com/example/umweg/umweg/redis/Replies"), (0, u "text"), (0, u "(Ljava/lang/Object;)Ljava/lang/String;"), (0, .methodref 16 28), (0, .nameAndType 29 30), (0, u "equals"), (0, u "(Ljava/lang/Object;)Z"), (0, .class_ 32), (0, u "com/example/umweg/umweg/redis/RepliesTextPinLaw"), (2, u "law"), (0, u "(III)Z")] 7

def k1m0 : Method := { name := "<init>", desc := "()V", sig := { parameters := [], returnType := none }, accessFlags := 2, code := none }
def k1c1 : Code := { maxStack := 6, maxLocals := 11, code := code, exceptionTable := #[], attributes := #[] }
def k1m1 : Method := { name := "law", desc := "(III)Z", sig := { parameters := [.int, .int, .int], returnType := some .boolean }, accessFlags := 9, code := some k1c1 }
/-- com/example/umweg/umweg/redis/RepliesTextPinLaw -/
def k1 : Class := { plain "com/example/umweg/umweg/redis/RepliesTextPinLaw" (some 0) with
  accessFlags := 49
  interfaces := #[]
  cf := some (fileOf pool1 31 #[] #[{ accessFlags := 2, nameIndex := 5, descriptorIndex := 6, attributes := #[] }, { accessFlags := 9, nameIndex := 35, descriptorIndex := 36, attributes := #[] }] 49 2 #[] #[])
  fields := #[]
  methods := #[k1m0, k1m1]
  instanceTypes := #[]
  staticTypes := #[]
  resolved := Array.replicate 44 none
  statics := none }

def pool2 : Array CpInfo := pool [(1, .class_ 2), (0, u "java/io/Serializable"), (0, .class_ 4), (0, u "java/lang/Object")] 2

/-- java/io/Serializable -/
def k2 : Class := { plain "java/io/Serializable" (some 0) with
  accessFlags := 1537
  interfaces := #[]
  cf := some (fileOf pool2 1 #[] #[] 1537 3 #[] #[])
  fields := #[]
  methods := #[]
  instanceTypes := #[]
  staticTypes := #[]
  resolved := Array.replicate 7 none
  statics := none }

def pool3 : Array CpInfo := pool [(1, .class_ 2), (0, u "java/lang/Comparable"), (0, .class_ 4), (0, u "java/lang/Object")] 7

/-- java/lang/Comparable -/
def k3 : Class := { plain "java/lang/Comparable" (some 0) with
  accessFlags := 1537
  interfaces := #[]
  cf := some (fileOf pool3 1 #[] #[] 1537 3 #[] #[])
  fields := #[]
  methods := #[]
  instanceTypes := #[]
  staticTypes := #[]
  resolved := Array.replicate 12 none
  statics := none }

def pool4 : Array CpInfo := pool [(2, .class_ 4), (1, u "java/lang/CharSequence"), (42, .class_ 48), (0, u "java/lang/CharSequence$1CodePointIterator"), (10, .class_ 60), (0, u "java/lang/CharSequence$1CharIterator"), (5, .class_ 67), (0, u "java/lang/Object")] 63

/-- java/lang/CharSequence -/
def k4 : Class := { plain "java/lang/CharSequence" (some 0) with
  accessFlags := 1537
  interfaces := #[]
  cf := some (fileOf pool4 2 #[.nestMembers #[47, 59]] #[] 1537 66 #[] #[])
  fields := #[]
  methods := #[]
  instanceTypes := #[]
  staticTypes := #[]
  resolved := Array.replicate 131 none
  statics := none }

def pool5 : Array CpInfo := pool [(1, .class_ 2), (0, u "java/lang/constant/Constable"), (0, .class_ 4), (0, u "java/lang/Object")] 6

/-- java/lang/constant/Constable -/
def k5 : Class := { plain "java/lang/constant/Constable" (some 0) with
  accessFlags := 1537
  interfaces := #[]
  cf := some (fileOf pool5 1 #[] #[] 1537 3 #[] #[])
  fields := #[]
  methods := #[]
  instanceTypes := #[]
  staticTypes := #[]
  resolved := Array.replicate 11 none
  statics := none }

def pool6 : Array CpInfo := pool [(1, .class_ 2), (0, u "java/lang/constant/ConstantDesc"), (0, .class_ 4), (0, u "java/lang/Object")] 32

/-- java/lang/constant/ConstantDesc -/
def k6 : Class := { plain "java/lang/constant/ConstantDesc" (some 0) with
  accessFlags := 1537
  interfaces := #[]
  cf := some (fileOf pool6 1 #[] #[] 1537 3 #[] #[])
  fields := #[]
  methods := #[]
  instanceTypes := #[]
  staticTypes := #[]
  resolved := Array.replicate 37 none
  statics := none }

def pool7 : Array CpInfo := pool [(1, .methodref 2 3), (0, .class_ 4), (0, .nameAndType 5 6), (0, u "java/lang/Object"), (0, u "<init>"), (0, u "()V"), (2, .fieldref 10 11), (0, .class_ 12), (0, .nameAndType 13 14), (0, u "java/lang/String"), (0, u "value"), (0, u "[B"), (0, .fieldref 10 16), (0, .nameAndType 17 18), (0, u "coder"), (0, u "B"), (2, u "hash"), (0, u "I"), (2, u "hashIsZero"), (0, u "Z"), (0, .methodref 10 28), (0, .nameAndType 5 29), (0, u "([CIILjava/lang/Void;)V"), (6, u "checkBoundsOffCount"), (0, u "(III)I"), (0, .fieldref 10 39), (0, .nameAndType 40 26), (0, u "COMPACT_STRINGS"), (1, .class_ 44), (1, u "java/lang/StringUTF16"), (0, u "compress"), (1, .methodref 42 48), (0, .nameAndType 49 50), (0, u "coderFromArrayLen"), (0, u "([BI)B"), (3, .methodref 55 56), (0, .class_ 57), (0, .nameAndType 58 59), (0, u "java/util/Arrays"), (0, u "copyOfRange"), (0, u "([BII)[B"), (0, .methodref 42 61), (0, .nameAndType 62 63), (0, u "newBytesFor"), (0, u "(I)[B"), (0, .methodref 42 65), (0, .nameAndType 66 67), (0, u "putChar"), (0, u "([BII)V"), (7, .methodref 10 76), (0, .nameAndType 5 77), (0, u "(Ljava/nio/charset/Charset;[BII)V"), (0, .methodref 79 80), (0, .class_ 81), (0, .nameAndType 82 83), (0, u "java/util/Objects"), (0, u "requireNonNull"), (0, u "(Ljava/lang/Object;)Ljava/lang/Object;"), (0, .class_ 85), (0, u "java/nio/charset/Charset"), (0, .fieldref 87 88), (0, .class_ 89), (0, .nameAndType 90 91), (0, u "sun/nio/cs/UTF_8"), (0, u "INSTANCE"), (0, u "Lsun/nio/cs/UTF_8;"), (0, .methodref 93 94), (0, .class_ 95), (0, .nameAndType 96 97), (0, u "java/lang/StringCoding"), (0, u "countPositives"), (0, u "([BII)I"), (0, .methodref 10 99), (0, .nameAndType 100 101), (0, u "decode2"), (0, u "(II)C"), (0, .methodref 55 103), (0, .nameAndType 104 105), (0, u "copyOf"), (0, u "([BI)[B"), (0, .methodref 107 108), (0, .class_ 109), (0, .nameAndType 110 111), (0, u "java/lang/StringLatin1"), (0, u "inflate"), (0, u "([BI[BII)V"), (0, .methodref 10 113), (0, .nameAndType 114 115), (0, u "decodeUTF8_UTF16"), (0, u "([BII[BIZ)I"), (16, .integer 65533), (44, .methodref 42 178), (0, .nameAndType 45 179), (0, u "([CII)[B"), (185, .class_ 367), (1, u "java/lang/Character"), (1, u "(C)Z"), (13, .integer 4294844288), (0, .integer 3678080), (0, .methodref 10 386), (0, .nameAndType 387 388), (0, u "isNotContinuation"), (0, u "(I)Z"), (3, .methodref 10 393), (0, .nameAndType 394 395), (0, u "isMalformed3"), (0, u "(III)Z"), (4, .methodref 10 401), (0, .nameAndType 402 403), (0, u "decode3"), (0, u "(III)C"), (0, .methodref 365 405), (0, .nameAndType 406 369), (0, u "isSurrogate"), (4, .methodref 10 412), (0, .nameAndType 413 414), (0, u "decode4"), (0, u "(IIII)I"), (0, .methodref 10 416), (0, .nameAndType 417 395), (0, u "isMalformed4"), (0, .methodref 365 419), (0, .nameAndType 420 388), (0, u "isSupplementaryCodePoint"), (3, .methodref 365 425), (0, .nameAndType 426 427), (0, u "highSurrogate"), (0, u "(I)C"), (0, .methodref 365 429), (0, .nameAndType 430 427), (0, u "lowSurrogate"), (110, .methodref 107 542), (0, .nameAndType 543 544), (0, u "equals"), (0, u "([B[B)Z"), (28, u "(Ljava/lang/Object;)Z"), (1, .class_ 576), (0, u "java/lang/CharSequence"), (22, u "CASE_INSENSITIVE_ORDER"), (0, u "Ljava/util/Comparator;"), (409, u "([C)V"), (42, .fieldref 1054 1055), (0, .class_ 1056), (0, .nameAndType 1057 1058), (0, u "jdk/internal/util/Preconditions"), (0, u "SIOOBE_FORMATTER"), (0, u "Ljava/util/function/BiFunction;"), (5, u "(IIILjava/util/function/BiFunction;)I"), (0, .methodref 1054 1066), (0, .nameAndType 1067 1064), (0, u "checkFromIndexSize"), (33, u "serialPersistentFields"), (0, u "[Ljava/io/ObjectStreamField;"), (0, .class_ 1104), (0, u "java/lang/String$CaseInsensitiveComparator"), (1, .class_ 1107), (0, u "java/io/Serializable"), (0, .class_ 1109), (0, u "java/lang/Comparable"), (0, .class_ 1111), (0, u "java/lang/constant/Constable"), (0, .class_ 1113), (0, u "java/lang/constant/ConstantDesc"), (2, u "serialVersionUID"), (0, u "J"), (3, u "REPL"), (0, u "C"), (2, u "LATIN1"), (1, u "UTF16"), (101, u "([BLjava/nio/charset/Charset;)V")] 221

def k7m0 : Method := { name := "<init>", desc := "()V", sig := { parameters := [], returnType := none }, accessFlags := 1, code := none }
def k7c1 : Code := { maxStack := 5, maxLocals := 2, code := jdk_42_method_3_code, exceptionTable := #[], attributes := #[] }
def k7m1 : Method := { name := "<init>", desc := "([C)V", sig := { parameters := [(.array .char)], returnType := none }, accessFlags := 1, code := some k7c1 }
def k7c2 : Code := { maxStack := 6, maxLocals := 11, code := jdk_42_method_11_code, exceptionTable := #[{ startPc := 800, endPc := 813, handlerPc := 816, catchType := 202 }], attributes := #[] }
def k7m2 : Method := { name := "<init>", desc := "(Ljava/nio/charset/Charset;[BII)V", sig := { parameters := [(.object "java/nio/charset/Charset"), (.array .byte), .int, .int], returnType := none }, accessFlags := 2, code := some k7c2 }
def k7c3 : Code := { maxStack := 2, maxLocals := 1, code := jdk_42_method_29_code, exceptionTable := #[], attributes := #[] }
def k7m3 : Method := { name := "isNotContinuation", desc := "(I)Z", sig := { parameters := [.int], returnType := some .boolean }, accessFlags := 10, code := some k7c3 }
def k7c4 : Code := { maxStack := 2, maxLocals := 3, code := jdk_42_method_30_code, exceptionTable := #[], attributes := #[] }
def k7m4 : Method := { name := "isMalformed3", desc := "(III)Z", sig := { parameters := [.int, .int, .int], returnType := some .boolean }, accessFlags := 10, code := some k7c4 }
def k7c5 : Code := { maxStack := 2, maxLocals := 3, code := jdk_42_method_32_code, exceptionTable := #[], attributes := #[] }
def k7m5 : Method := { name := "isMalformed4", desc := "(III)Z", sig := { parameters := [.int, .int, .int], returnType := some .boolean }, accessFlags := 10, code := some k7c5 }
def k7c6 : Code := { maxStack := 2, maxLocals := 2, code := jdk_42_method_35_code, exceptionTable := #[], attributes := #[] }
def k7m6 : Method := { name := "decode2", desc := "(II)C", sig := { parameters := [.int, .int], returnType := some .char }, accessFlags := 10, code := some k7c6 }
def k7c7 : Code := { maxStack := 3, maxLocals := 3, code := jdk_42_method_36_code, exceptionTable := #[], attributes := #[] }
def k7m7 : Method := { name := "decode3", desc := "(III)C", sig := { parameters := [.int, .int, .int], returnType := some .char }, accessFlags := 10, code := some k7c7 }
def k7c8 : Code := { maxStack := 3, maxLocals := 4, code := jdk_42_method_37_code, exceptionTable := #[], attributes := #[] }
def k7m8 : Method := { name := "decode4", desc := "(IIII)I", sig := { parameters := [.int, .int, .int, .int], returnType := some .int }, accessFlags := 10, code := some k7c8 }
def k7c9 : Code := { maxStack := 4, maxLocals := 11, code := jdk_42_method_38_code, exceptionTable := #[], attributes := #[] }
def k7m9 : Method := { name := "decodeUTF8_UTF16", desc := "([BII[BIZ)I", sig := { parameters := [(.array .byte), .int, .int, (.array .byte), .int, .boolean], returnType := some .int }, accessFlags := 10, code := some k7c9 }
def k7c10 : Code := { maxStack := 5, maxLocals := 3, code := jdk_42_method_49_code, exceptionTable := #[], attributes := #[] }
def k7m10 : Method := { name := "<init>", desc := "([BLjava/nio/charset/Charset;)V", sig := { parameters := [(.array .byte), (.object "java/nio/charset/Charset")], returnType := none }, accessFlags := 1, code := some k7c10 }
def k7c11 : Code := { maxStack := 2, maxLocals := 3, code := jdk_42_method_66_code, exceptionTable := #[], attributes := #[] }
def k7m11 : Method := { name := "equals", desc := "(Ljava/lang/Object;)Z", sig := { parameters := [(.object "java/lang/Object")], returnType := some .boolean }, accessFlags := 1, code := some k7c11 }
def k7c12 : Code := { maxStack := 4, maxLocals := 6, code := jdk_42_method_149_code, exceptionTable := #[], attributes := #[] }
def k7m12 : Method := { name := "<init>", desc := "([CIILjava/lang/Void;)V", sig := { parameters := [(.array .char), .int, .int, (.object "java/lang/Void")], returnType := none }, accessFlags := 2, code := some k7c12 }
def k7c13 : Code := { maxStack := 4, maxLocals := 3, code := jdk_42_method_157_code, exceptionTable := #[], attributes := #[] }
def k7m13 : Method := { name := "checkBoundsOffCount", desc := "(III)I", sig := { parameters := [.int, .int, .int], returnType := some .int }, accessFlags := 8, code := some k7c13 }
/-- java/lang/String -/
def k7 : Class := { plain "java/lang/String" (some 0) with
  accessFlags := 49
  interfaces := #[2, 3, 4, 5, 6]
  cf := some (fileOf pool7 10 #[.nestMembers #[1103]] #[{ accessFlags := 1, nameIndex := 5, descriptorIndex := 6, attributes := #[] }, { accessFlags := 1, nameIndex := 5, descriptorIndex := 1010, attributes := #[] }, { accessFlags := 2, nameIndex := 5, descriptorIndex := 77, attributes := #[] }, { accessFlags := 10, nameIndex := 387, descriptorIndex := 388, attributes := #[] }, { accessFlags := 10, nameIndex := 394, descriptorIndex := 395, attributes := #[] }, { accessFlags := 10, nameIndex := 417, descriptorIndex := 395, attributes := #[] }, { accessFlags := 10, nameIndex := 100, descriptorIndex := 101, attributes := #[] }, { accessFlags := 10, nameIndex := 402, descriptorIndex := 403, attributes := #[] }, { accessFlags := 10, nameIndex := 413, descriptorIndex := 414, attributes := #[] }, { accessFlags := 10, nameIndex := 114, descriptorIndex := 115, attributes := #[] }, { accessFlags := 1, nameIndex := 5, descriptorIndex := 1229, attributes := #[] }, { accessFlags := 1, nameIndex := 543, descriptorIndex := 573, attributes := #[] }, { accessFlags := 2, nameIndex := 5, descriptorIndex := 29, attributes := #[] }, { accessFlags := 8, nameIndex := 36, descriptorIndex := 37, attributes := #[] }] 49 2 #[1106, 1108, 575, 1110, 1112] #[{ accessFlags := 18, nameIndex := 13, descriptorIndex := 14, attributes := #[] }, { accessFlags := 18, nameIndex := 17, descriptorIndex := 18, attributes := #[] }, { accessFlags := 2, nameIndex := 21, descriptorIndex := 22, attributes := #[] }, { accessFlags := 2, nameIndex := 25, descriptorIndex := 26, attributes := #[] }, { accessFlags := 26, nameIndex := 1116, descriptorIndex := 1117, attributes := #[] }, { accessFlags := 24, nameIndex := 40, descriptorIndex := 26, attributes := #[] }, { accessFlags := 26, nameIndex := 1101, descriptorIndex := 1102, attributes := #[] }, { accessFlags := 26, nameIndex := 1121, descriptorIndex := 1122, attributes := #[] }, { accessFlags := 25, nameIndex := 599, descriptorIndex := 600, attributes := #[] }, { accessFlags := 24, nameIndex := 1125, descriptorIndex := 18, attributes := #[] }, { accessFlags := 24, nameIndex := 1127, descriptorIndex := 18, attributes := #[] }])
  fields := #[{ name := "value", type := (.array .byte), accessFlags := 18, slot := 0, constantValue := 0 }, { name := "coder", type := .byte, accessFlags := 18, slot := 1, constantValue := 0 }, { name := "hash", type := .int, accessFlags := 2, slot := 2, constantValue := 0 }, { name := "hashIsZero", type := .boolean, accessFlags := 2, slot := 3, constantValue := 0 }, { name := "serialVersionUID", type := .long, accessFlags := 26, slot := 0, constantValue := 0 }, { name := "COMPACT_STRINGS", type := .boolean, accessFlags := 24, slot := 1, constantValue := 0 }, { name := "serialPersistentFields", type := (.array (.object "java/io/ObjectStreamField")), accessFlags := 26, slot := 2, constantValue := 0 }, { name := "REPL", type := .char, accessFlags := 26, slot := 3, constantValue := 0 }, { name := "CASE_INSENSITIVE_ORDER", type := (.object "java/util/Comparator"), accessFlags := 25, slot := 4, constantValue := 0 }, { name := "LATIN1", type := .byte, accessFlags := 24, slot := 5, constantValue := 0 }, { name := "UTF16", type := .byte, accessFlags := 24, slot := 6, constantValue := 0 }]
  methods := #[k7m0, k7m1, k7m2, k7m3, k7m4, k7m5, k7m6, k7m7, k7m8, k7m9, k7m10, k7m11, k7m12, k7m13]
  instanceTypes := #[(.array .byte), .byte, .int, .boolean]
  staticTypes := #[.long, .boolean, (.array (.object "java/io/ObjectStreamField")), .char, (.object "java/util/Comparator"), .byte, .byte]
  resolved := Array.replicate 1451 none
  statics := some 0 }

def pool8 : Array CpInfo := pool [(3, .class_ 4), (0, u "java/lang/String"), (1, .class_ 8), (1, u "java/lang/Object"), (0, u "<init>"), (0, u "()V"), (0, .methodref 12 13), (0, .class_ 14), (0, .nameAndType 15 16), (0, u "java/lang/StringUTF16"), (0, u "newBytesLength"), (0, u "(I)I"), (3, .integer 1073741823), (23, .fieldref 12 45), (0, .nameAndType 46 47), (0, u "$assertionsDisabled"), (0, u "Z"), (0, .methodref 12 49), (0, .nameAndType 50 51), (0, u "length"), (0, u "([B)I"), (7, .fieldref 12 60), (0, .nameAndType 61 62), (0, u "HI_BYTE_SHIFT"), (0, u "I"), (0, .fieldref 12 64), (0, .nameAndType 65 62), (0, u "LO_BYTE_SHIFT"), (5, .methodref 12 72), (0, .nameAndType 73 74), (0, u "getChar"), (0, u "([BI)C"), (24, u "(II[B)V"), (7, .methodref 12 108), (0, .nameAndType 109 110), (0, u "newBytesFor"), (0, u "(I)[B"), (0, .methodref 12 112), (0, .nameAndType 113 114), (0, u "putChar"), (0, u "([BII)V"), (0, .methodref 12 116), (0, .nameAndType 117 118), (0, u "compress"), (0, u "([CI[BII)I"), (0, .methodref 12 120), (0, .nameAndType 121 122), (0, u "toBytes"), (0, u "([CII)[B"), (17, u "inflate"), (0, u "([BI[BII)V"), (31, .methodref 12 174), (0, .nameAndType 175 99), (0, u "checkBoundsOffCount"), (85, u "coderFromArrayLen"), (0, u "([BI)B"), (18, u "(III)I"), (87, .class_ 371), (1, u "java/lang/StringUTF16$LinesSpliterator"), (47, .methodref 3 420), (0, .nameAndType 175 281), (9, u "MAX_LENGTH"), (196, .class_ 628), (0, u "java/lang/StringUTF16$CodePointsSpliterator"), (0, .class_ 630), (0, u "java/lang/StringUTF16$CharsSpliterator")] 4

def k8m0 : Method := { name := "<init>", desc := "()V", sig := { parameters := [], returnType := none }, accessFlags := 0, code := none }
def k8c1 : Code := { maxStack := 1, maxLocals := 1, code := jdk_52_method_2_code, exceptionTable := #[], attributes := #[] }
def k8m1 : Method := { name := "newBytesFor", desc := "(I)[B", sig := { parameters := [.int], returnType := some (.array .byte) }, accessFlags := 9, code := some k8c1 }
def k8c2 : Code := { maxStack := 4, maxLocals := 1, code := jdk_52_method_3_code, exceptionTable := #[], attributes := #[] }
def k8m2 : Method := { name := "newBytesLength", desc := "(I)I", sig := { parameters := [.int], returnType := some .int }, accessFlags := 9, code := some k8c2 }
def k8c3 : Code := { maxStack := 4, maxLocals := 3, code := jdk_52_method_4_code, exceptionTable := #[], attributes := #[] }
def k8m3 : Method := { name := "putChar", desc := "([BII)V", sig := { parameters := [(.array .byte), .int, .int], returnType := none }, accessFlags := 8, code := some k8c3 }
def k8c4 : Code := { maxStack := 3, maxLocals := 2, code := jdk_52_method_5_code, exceptionTable := #[], attributes := #[] }
def k8m4 : Method := { name := "getChar", desc := "([BI)C", sig := { parameters := [(.array .byte), .int], returnType := some .char }, accessFlags := 8, code := some k8c4 }
def k8c5 : Code := { maxStack := 2, maxLocals := 1, code := jdk_52_method_6_code, exceptionTable := #[], attributes := #[] }
def k8m5 : Method := { name := "length", desc := "([B)I", sig := { parameters := [(.array .byte)], returnType := some .int }, accessFlags := 9, code := some k8c5 }
def k8c6 : Code := { maxStack := 4, maxLocals := 5, code := jdk_52_method_14_code, exceptionTable := #[], attributes := #[] }
def k8m6 : Method := { name := "toBytes", desc := "([CII)[B", sig := { parameters := [(.array .char), .int, .int], returnType := some (.array .byte) }, accessFlags := 9, code := some k8c6 }
def k8c7 : Code := { maxStack := 2, maxLocals := 2, code := jdk_52_method_15_code, exceptionTable := #[], attributes := #[] }
def k8m7 : Method := { name := "coderFromArrayLen", desc := "([BI)B", sig := { parameters := [(.array .byte), .int], returnType := some .byte }, accessFlags := 8, code := some k8c7 }
def k8c8 : Code := { maxStack := 5, maxLocals := 6, code := jdk_52_method_16_code, exceptionTable := #[], attributes := #[] }
def k8m8 : Method := { name := "compress", desc := "([CII)[B", sig := { parameters := [(.array .char), .int, .int], returnType := some (.array .byte) }, accessFlags := 9, code := some k8c8 }
def k8c9 : Code := { maxStack := 3, maxLocals := 7, code := jdk_52_method_21_code, exceptionTable := #[], attributes := #[] }
def k8m9 : Method := { name := "compress", desc := "([CI[BII)I", sig := { parameters := [(.array .char), .int, (.array .byte), .int, .int], returnType := some .int }, accessFlags := 9, code := some k8c9 }
def k8c10 : Code := { maxStack := 4, maxLocals := 6, code := jdk_52_method_86_code, exceptionTable := #[], attributes := #[] }
def k8m10 : Method := { name := "inflate", desc := "([BI[BII)V", sig := { parameters := [(.array .byte), .int, (.array .byte), .int, .int], returnType := none }, accessFlags := 9, code := some k8c10 }
def k8c11 : Code := { maxStack := 3, maxLocals := 3, code := jdk_52_method_94_code, exceptionTable := #[], attributes := #[] }
def k8m11 : Method := { name := "checkBoundsOffCount", desc := "(II[B)V", sig := { parameters := [.int, .int, (.array .byte)], returnType := none }, accessFlags := 9, code := some k8c11 }
/-- java/lang/StringUTF16 -/
def k8 : Class := { plain "java/lang/StringUTF16" (some 0) with
  accessFlags := 48
  interfaces := #[]
  cf := some (fileOf pool8 12 #[.nestMembers #[627, 629, 369]] #[{ accessFlags := 0, nameIndex := 9, descriptorIndex := 10, attributes := #[] }, { accessFlags := 9, nameIndex := 109, descriptorIndex := 110, attributes := #[] }, { accessFlags := 9, nameIndex := 15, descriptorIndex := 16, attributes := #[] }, { accessFlags := 8, nameIndex := 113, descriptorIndex := 114, attributes := #[] }, { accessFlags := 8, nameIndex := 73, descriptorIndex := 74, attributes := #[] }, { accessFlags := 9, nameIndex := 50, descriptorIndex := 51, attributes := #[] }, { accessFlags := 9, nameIndex := 121, descriptorIndex := 122, attributes := #[] }, { accessFlags := 8, nameIndex := 261, descriptorIndex := 262, attributes := #[] }, { accessFlags := 9, nameIndex := 117, descriptorIndex := 122, attributes := #[] }, { accessFlags := 9, nameIndex := 117, descriptorIndex := 118, attributes := #[] }, { accessFlags := 9, nameIndex := 140, descriptorIndex := 141, attributes := #[] }, { accessFlags := 9, nameIndex := 175, descriptorIndex := 99, attributes := #[] }] 48 6 #[] #[{ accessFlags := 26, nameIndex := 61, descriptorIndex := 62, attributes := #[] }, { accessFlags := 26, nameIndex := 65, descriptorIndex := 62, attributes := #[] }, { accessFlags := 24, nameIndex := 430, descriptorIndex := 62, attributes := #[] }, { accessFlags := 4120, nameIndex := 46, descriptorIndex := 47, attributes := #[] }])
  fields := #[{ name := "HI_BYTE_SHIFT", type := .int, accessFlags := 26, slot := 0, constantValue := 0 }, { name := "LO_BYTE_SHIFT", type := .int, accessFlags := 26, slot := 1, constantValue := 0 }, { name := "MAX_LENGTH", type := .int, accessFlags := 24, slot := 2, constantValue := 0 }, { name := "$assertionsDisabled", type := .boolean, accessFlags := 4120, slot := 3, constantValue := 0 }]
  methods := #[k8m0, k8m1, k8m2, k8m3, k8m4, k8m5, k8m6, k8m7, k8m8, k8m9, k8m10, k8m11]
  instanceTypes := #[]
  staticTypes := #[.int, .int, .int, .boolean]
  resolved := Array.replicate 635 none
  statics := some 1 }

def pool9 : Array CpInfo := pool [(2, .class_ 4), (1, u "java/lang/Object"), (0, u "<init>"), (0, u "()V"), (4, .class_ 13), (1, u "com/example/umweg/umweg/redis/Replies"), (31, .class_ 46), (0, u "[B"), (11, u "text"), (0, u "(Ljava/lang/Object;)Ljava/lang/String;"), (3, .class_ 64), (0, u "java/lang/String"), (0, .fieldref 66 67), (0, .class_ 68), (0, .nameAndType 69 70), (0, u "java/nio/charset/StandardCharsets"), (0, u "UTF_8"), (0, u "Ljava/nio/charset/Charset;"), (0, .methodref 63 72), (0, .nameAndType 5 73), (0, u "([BLjava/nio/charset/Charset;)V")] 15

def k9m0 : Method := { name := "<init>", desc := "()V", sig := { parameters := [], returnType := none }, accessFlags := 2, code := none }
def k9c1 : Code := { maxStack := 4, maxLocals := 1, code := prog_20_method_4_code, exceptionTable := #[], attributes := #[] }
def k9m1 : Method := { name := "text", desc := "(Ljava/lang/Object;)Ljava/lang/String;", sig := { parameters := [(.object "java/lang/Object")], returnType := some (.object "java/lang/String") }, accessFlags := 8, code := some k9c1 }
/-- com/example/umweg/umweg/redis/Replies -/
def k9 : Class := { plain "com/example/umweg/umweg/redis/Replies" (some 0) with
  accessFlags := 48
  interfaces := #[]
  cf := some (fileOf pool9 11 #[] #[{ accessFlags := 2, nameIndex := 5, descriptorIndex := 6, attributes := #[] }, { accessFlags := 8, nameIndex := 58, descriptorIndex := 59, attributes := #[] }] 48 2 #[] #[])
  fields := #[]
  methods := #[k9m0, k9m1]
  instanceTypes := #[]
  staticTypes := #[]
  resolved := Array.replicate 89 none
  statics := none }

def pool10 : Array CpInfo := pool [(2, .class_ 4), (1, u "java/lang/Object"), (0, u "<init>"), (0, u "()V"), (14, .class_ 23), (1, u "java/nio/charset/StandardCharsets"), (0, u "US_ASCII"), (0, u "Ljava/nio/charset/Charset;"), (7, u "ISO_8859_1"), (7, u "UTF_8"), (5, u "UTF_16BE"), (5, u "UTF_16LE"), (5, u "UTF_16")] 8

def k10m0 : Method := { name := "<init>", desc := "()V", sig := { parameters := [], returnType := none }, accessFlags := 2, code := none }
/-- java/nio/charset/StandardCharsets -/
def k10 : Class := { plain "java/nio/charset/StandardCharsets" (some 0) with
  accessFlags := 49
  interfaces := #[]
  cf := some (fileOf pool10 21 #[] #[{ accessFlags := 2, nameIndex := 5, descriptorIndex := 6, attributes := #[] }] 49 2 #[] #[{ accessFlags := 25, nameIndex := 24, descriptorIndex := 25, attributes := #[] }, { accessFlags := 25, nameIndex := 33, descriptorIndex := 25, attributes := #[] }, { accessFlags := 25, nameIndex := 41, descriptorIndex := 25, attributes := #[] }, { accessFlags := 25, nameIndex := 47, descriptorIndex := 25, attributes := #[] }, { accessFlags := 25, nameIndex := 53, descriptorIndex := 25, attributes := #[] }, { accessFlags := 25, nameIndex := 59, descriptorIndex := 25, attributes := #[] }])
  fields := #[{ name := "US_ASCII", type := (.object "java/nio/charset/Charset"), accessFlags := 25, slot := 0, constantValue := 0 }, { name := "ISO_8859_1", type := (.object "java/nio/charset/Charset"), accessFlags := 25, slot := 1, constantValue := 0 }, { name := "UTF_8", type := (.object "java/nio/charset/Charset"), accessFlags := 25, slot := 2, constantValue := 0 }, { name := "UTF_16BE", type := (.object "java/nio/charset/Charset"), accessFlags := 25, slot := 3, constantValue := 0 }, { name := "UTF_16LE", type := (.object "java/nio/charset/Charset"), accessFlags := 25, slot := 4, constantValue := 0 }, { name := "UTF_16", type := (.object "java/nio/charset/Charset"), accessFlags := 25, slot := 5, constantValue := 0 }]
  methods := #[k10m0]
  instanceTypes := #[]
  staticTypes := #[(.object "java/nio/charset/Charset"), (.object "java/nio/charset/Charset"), (.object "java/nio/charset/Charset"), (.object "java/nio/charset/Charset"), (.object "java/nio/charset/Charset"), (.object "java/nio/charset/Charset")]
  resolved := Array.replicate 68 none
  statics := some 2 }

def pool11 : Array CpInfo := pool [(2, .class_ 4), (1, u "java/lang/Object"), (0, u "<init>"), (0, u "()V"), (35, .class_ 44), (1, u "java/util/Objects"), (0, u "requireNonNull"), (0, u "(Ljava/lang/Object;)Ljava/lang/Object;")] 137

def k11m0 : Method := { name := "<init>", desc := "()V", sig := { parameters := [], returnType := none }, accessFlags := 2, code := none }
def k11c1 : Code := { maxStack := 2, maxLocals := 1, code := jdk_31_method_10_code, exceptionTable := #[], attributes := #[] }
def k11m1 : Method := { name := "requireNonNull", desc := "(Ljava/lang/Object;)Ljava/lang/Object;", sig := { parameters := [(.object "java/lang/Object")], returnType := some (.object "java/lang/Object") }, accessFlags := 9, code := some k11c1 }
/-- java/util/Objects -/
def k11 : Class := { plain "java/util/Objects" (some 0) with
  accessFlags := 49
  interfaces := #[]
  cf := some (fileOf pool11 42 #[] #[{ accessFlags := 2, nameIndex := 5, descriptorIndex := 6, attributes := #[] }, { accessFlags := 9, nameIndex := 45, descriptorIndex := 46, attributes := #[] }] 49 2 #[] #[])
  fields := #[]
  methods := #[k11m0, k11m1]
  instanceTypes := #[]
  staticTypes := #[]
  resolved := Array.replicate 184 none
  statics := none }

def pool12 : Array CpInfo := pool [(18, .class_ 20), (1, u "java/nio/charset/Charset"), (0, u "cache1"), (0, u "[Ljava/lang/Object;"), (2, u "cache2"), (0, .class_ 27), (0, u "java/lang/Object"), (0, .class_ 29), (0, u "java/nio/charset/Charset$1"), (4, .class_ 36), (1, u "java/nio/charset/Charset$ThreadTrackHolder"), (21, .class_ 59), (0, u "java/nio/charset/Charset$2"), (11, .class_ 73), (1, u "java/nio/charset/Charset$ExtendedProviderHolder"), (22, u "standardProvider"), (0, u "Ljava/nio/charset/spi/CharsetProvider;"), (29, u "name"), (7, .class_ 136), (0, u "java/nio/charset/Charset$3"), (5, u "defaultCharset"), (0, u "Ljava/nio/charset/Charset;"), (14, u "zeroAliases"), (0, u "[Ljava/lang/String;"), (29, u "Ljava/lang/String;"), (2, u "aliases"), (2, u "aliasSet"), (0, u "Ljava/util/Set;"), (82, .class_ 280), (0, u "java/lang/Comparable"), (84, .class_ 366), (0, u "java/nio/charset/Charset$ExtendedProviderHolder$1")] 3

/-- java/nio/charset/Charset -/
def k12 : Class := { plain "java/nio/charset/Charset" (some 0) with
  accessFlags := 1057
  interfaces := #[3]
  cf := some (fileOf pool12 18 #[.nestMembers #[71, 365, 34, 135, 58, 28]] #[] 1057 26 #[279] #[{ accessFlags := 26, nameIndex := 96, descriptorIndex := 97, attributes := #[] }, { accessFlags := 26, nameIndex := 158, descriptorIndex := 159, attributes := #[] }, { accessFlags := 74, nameIndex := 21, descriptorIndex := 22, attributes := #[] }, { accessFlags := 74, nameIndex := 25, descriptorIndex := 22, attributes := #[] }, { accessFlags := 10, nameIndex := 142, descriptorIndex := 143, attributes := #[] }, { accessFlags := 18, nameIndex := 127, descriptorIndex := 189, attributes := #[] }, { accessFlags := 18, nameIndex := 192, descriptorIndex := 159, attributes := #[] }, { accessFlags := 2, nameIndex := 195, descriptorIndex := 196, attributes := #[] }])
  fields := #[{ name := "standardProvider", type := (.object "java/nio/charset/spi/CharsetProvider"), accessFlags := 26, slot := 0, constantValue := 0 }, { name := "zeroAliases", type := (.array (.object "java/lang/String")), accessFlags := 26, slot := 1, constantValue := 0 }, { name := "cache1", type := (.array (.object "java/lang/Object")), accessFlags := 74, slot := 2, constantValue := 0 }, { name := "cache2", type := (.array (.object "java/lang/Object")), accessFlags := 74, slot := 3, constantValue := 0 }, { name := "defaultCharset", type := (.object "java/nio/charset/Charset"), accessFlags := 10, slot := 4, constantValue := 0 }, { name := "name", type := (.object "java/lang/String"), accessFlags := 18, slot := 0, constantValue := 0 }, { name := "aliases", type := (.array (.object "java/lang/String")), accessFlags := 18, slot := 1, constantValue := 0 }, { name := "aliasSet", type := (.object "java/util/Set"), accessFlags := 2, slot := 2, constantValue := 0 }]
  methods := #[]
  instanceTypes := #[(.object "java/lang/String"), (.array (.object "java/lang/String")), (.object "java/util/Set")]
  staticTypes := #[(.object "java/nio/charset/spi/CharsetProvider"), (.array (.object "java/lang/String")), (.array (.object "java/lang/Object")), (.array (.object "java/lang/Object")), (.object "java/nio/charset/Charset")]
  resolved := Array.replicate 370 none
  statics := none }

def pool13 : Array CpInfo := pool [(1, .class_ 2), (0, u "sun/nio/cs/HistoricallyNamedCharset"), (0, .class_ 4), (0, u "java/lang/Object")] 4

/-- sun/nio/cs/HistoricallyNamedCharset -/
def k13 : Class := { plain "sun/nio/cs/HistoricallyNamedCharset" (some 0) with
  accessFlags := 1537
  interfaces := #[]
  cf := some (fileOf pool13 1 #[] #[] 1537 3 #[] #[])
  fields := #[]
  methods := #[]
  instanceTypes := #[]
  staticTypes := #[]
  resolved := Array.replicate 9 none
  statics := none }

def pool14 : Array CpInfo := pool [(2, .class_ 4), (1, u "java/nio/charset/Charset"), (130, .class_ 136), (0, u "sun/nio/cs/Unicode"), (0, .class_ 138), (0, u "sun/nio/cs/HistoricallyNamedCharset")] 15

/-- sun/nio/cs/Unicode -/
def k14 : Class := { plain "sun/nio/cs/Unicode" (some 12) with
  accessFlags := 1056
  interfaces := #[13]
  cf := some (fileOf pool14 135 #[] #[] 1056 2 #[137] #[])
  fields := #[]
  methods := #[]
  instanceTypes := #[(.object "java/lang/String"), (.array (.object "java/lang/String")), (.object "java/util/Set")]
  staticTypes := #[]
  resolved := Array.replicate 154 none
  statics := none }

def pool15 : Array CpInfo := pool [(10, .class_ 12), (1, u "sun/nio/cs/Unicode"), (0, u "<init>"), (3, .class_ 18), (0, u "sun/nio/cs/UTF_8$Decoder"), (3, .class_ 23), (0, u "sun/nio/cs/UTF_8$Encoder"), (15, .class_ 40), (0, u "sun/nio/cs/UTF_8"), (2, u "()V"), (2, u "INSTANCE"), (0, u "Lsun/nio/cs/UTF_8;"), (8, u "JLA"), (0, u "Ljdk/internal/access/JavaLangAccess;")] 26

def k15m0 : Method := { name := "<init>", desc := "()V", sig := { parameters := [], returnType := none }, accessFlags := 1, code := none }
/-- sun/nio/cs/UTF_8 -/
def k15 : Class := { plain "sun/nio/cs/UTF_8" (some 14) with
  accessFlags := 49
  interfaces := #[]
  cf := some (fileOf pool15 39 #[.nestMembers #[22, 17]] #[{ accessFlags := 1, nameIndex := 13, descriptorIndex := 43, attributes := #[] }] 49 10 #[] #[{ accessFlags := 25, nameIndex := 46, descriptorIndex := 47, attributes := #[] }, { accessFlags := 26, nameIndex := 56, descriptorIndex := 57, attributes := #[] }])
  fields := #[{ name := "INSTANCE", type := (.object "sun/nio/cs/UTF_8"), accessFlags := 25, slot := 0, constantValue := 0 }, { name := "JLA", type := (.object "jdk/internal/access/JavaLangAccess"), accessFlags := 26, slot := 1, constantValue := 0 }]
  methods := #[k15m0]
  instanceTypes := #[(.object "java/lang/String"), (.array (.object "java/lang/String")), (.object "java/util/Set")]
  staticTypes := #[(.object "sun/nio/cs/UTF_8"), (.object "jdk/internal/access/JavaLangAccess")]
  resolved := Array.replicate 84 none
  statics := some 3 }

def pool16 : Array CpInfo := pool [(2, .class_ 4), (1, u "java/lang/Object"), (0, u "<init>"), (0, u "()V"), (1, .class_ 10), (1, u "java/lang/StringCoding"), (0, u "countPositives"), (0, u "([BII)I")] 36

def k16m0 : Method := { name := "<init>", desc := "()V", sig := { parameters := [], returnType := none }, accessFlags := 2, code := none }
def k16c1 : Code := { maxStack := 2, maxLocals := 5, code := jdk_123_method_3_code, exceptionTable := #[], attributes := #[] }
def k16m1 : Method := { name := "countPositives", desc := "([BII)I", sig := { parameters := [(.array .byte), .int, .int], returnType := some .int }, accessFlags := 9, code := some k16c1 }
/-- java/lang/StringCoding -/
def k16 : Class := { plain "java/lang/StringCoding" (some 0) with
  accessFlags := 32
  interfaces := #[]
  cf := some (fileOf pool16 8 #[] #[{ accessFlags := 2, nameIndex := 5, descriptorIndex := 6, attributes := #[] }, { accessFlags := 9, nameIndex := 11, descriptorIndex := 12, attributes := #[] }] 32 2 #[] #[])
  fields := #[]
  methods := #[k16m0, k16m1]
  instanceTypes := #[]
  staticTypes := #[]
  resolved := Array.replicate 49 none
  statics := none }

def pool17 : Array CpInfo := pool [(2, .class_ 4), (1, u "java/lang/Object"), (0, u "<init>"), (0, u "()V"), (7, .class_ 16), (1, u "java/util/Arrays"), (57, .class_ 76), (1, u "java/util/Arrays$NaturalOrder"), (32, u "()Ljava/lang/Object;"), (3, .class_ 115), (1, u "java/util/Arrays$LegacyMergeSort"), (1, u "Z"), (10, .nameAndType 129 109), (0, u "clone"), (9, u "copyOfRange"), (10, .methodref 151 152), (0, .class_ 153), (0, .nameAndType 154 155), (0, u "java/lang/System"), (0, u "arraycopy"), (0, u "(Ljava/lang/Object;ILjava/lang/Object;II)V"), (146, u "copyOf"), (1, .methodref 305 306), (0, .class_ 307), (0, .nameAndType 308 309), (0, u "java/lang/Math"), (0, u "min"), (0, u "(II)I"), (0, .methodref 311 128), (0, .class_ 312), (0, u "[B"), (29, u "([BII)[B"), (32, .class_ 376), (0, u "java/util/Arrays$ArrayList"), (68, u "$assertionsDisabled"), (269, u "MIN_ARRAY_SORT_GRAN"), (0, u "I"), (2, u "INSERTIONSORT_THRESHOLD"), (149, u "([BI)[B"), (105, .class_ 976), (0, u "java/util/Arrays$ArrayItr")] 52

def k17m0 : Method := { name := "<init>", desc := "()V", sig := { parameters := [], returnType := none }, accessFlags := 2, code := none }
def k17c1 : Code := { maxStack := 6, maxLocals := 3, code := jdk_65_method_121_code, exceptionTable := #[], attributes := #[] }
def k17m1 : Method := { name := "copyOf", desc := "([BI)[B", sig := { parameters := [(.array .byte), .int], returnType := some (.array .byte) }, accessFlags := 9, code := some k17c1 }
def k17c2 : Code := { maxStack := 3, maxLocals := 3, code := jdk_65_method_132_code, exceptionTable := #[], attributes := #[] }
def k17m2 : Method := { name := "copyOfRange", desc := "([BII)[B", sig := { parameters := [(.array .byte), .int, .int], returnType := some (.array .byte) }, accessFlags := 9, code := some k17c2 }
/-- java/util/Arrays -/
def k17 : Class := { plain "java/util/Arrays" (some 0) with
  accessFlags := 49
  interfaces := #[]
  cf := some (fileOf pool17 14 #[.nestMembers #[975, 375, 113, 74]] #[{ accessFlags := 2, nameIndex := 5, descriptorIndex := 6, attributes := #[] }, { accessFlags := 9, nameIndex := 302, descriptorIndex := 869, attributes := #[] }, { accessFlags := 9, nameIndex := 139, descriptorIndex := 342, attributes := #[] }] 49 2 #[] #[{ accessFlags := 26, nameIndex := 715, descriptorIndex := 716, attributes := #[] }, { accessFlags := 26, nameIndex := 719, descriptorIndex := 716, attributes := #[] }, { accessFlags := 4120, nameIndex := 445, descriptorIndex := 117, attributes := #[] }])
  fields := #[{ name := "MIN_ARRAY_SORT_GRAN", type := .int, accessFlags := 26, slot := 0, constantValue := 0 }, { name := "INSERTIONSORT_THRESHOLD", type := .int, accessFlags := 26, slot := 1, constantValue := 0 }, { name := "$assertionsDisabled", type := .boolean, accessFlags := 4120, slot := 2, constantValue := 0 }]
  methods := #[k17m0, k17m1, k17m2]
  instanceTypes := #[]
  staticTypes := #[.int, .int, .boolean]
  resolved := Array.replicate 1029 none
  statics := none }

def pool18 : Array CpInfo := pool [(1, .class_ 2), (0, u "java/lang/Cloneable"), (0, .class_ 4), (0, u "java/lang/Object")] 2

/-- java/lang/Cloneable -/
def k18 : Class := { plain "java/lang/Cloneable" (some 0) with
  accessFlags := 1537
  interfaces := #[]
  cf := some (fileOf pool18 1 #[] #[] 1537 3 #[] #[])
  fields := #[]
  methods := #[]
  instanceTypes := #[]
  staticTypes := #[]
  resolved := Array.replicate 7 none
  statics := none }

def pool19 : Array CpInfo := pool [(4, .class_ 6), (1, u "java/lang/Object"), (0, u "<init>"), (0, u "()V"), (5, .class_ 16), (1, u "java/lang/StringLatin1"), (0, u "inflate"), (2, .class_ 22), (1, u "java/lang/StringUTF16"), (3, .nameAndType 17 27), (0, u "([BI[BII)V"), (93, u "$assertionsDisabled"), (0, u "Z"), (98, .class_ 223), (1, u "java/lang/StringLatin1$LinesSpliterator"), (16, .methodref 20 26), (40, u "equals"), (0, u "([B[B)Z"), (107, .class_ 391), (0, u "java/lang/StringLatin1$CharsSpliterator")] 3

def k19m0 : Method := { name := "<init>", desc := "()V", sig := { parameters := [], returnType := none }, accessFlags := 0, code := none }
def k19c1 : Code := { maxStack := 3, maxLocals := 3, code := jdk_43_method_13_code, exceptionTable := #[], attributes := #[] }
def k19m1 : Method := { name := "equals", desc := "([B[B)Z", sig := { parameters := [(.array .byte), (.array .byte)], returnType := some .boolean }, accessFlags := 9, code := some k19c1 }
def k19c2 : Code := { maxStack := 5, maxLocals := 5, code := jdk_43_method_50_code, exceptionTable := #[], attributes := #[] }
def k19m2 : Method := { name := "inflate", desc := "([BI[BII)V", sig := { parameters := [(.array .byte), .int, (.array .byte), .int, .int], returnType := none }, accessFlags := 9, code := some k19c2 }
/-- java/lang/StringLatin1 -/
def k19 : Class := { plain "java/lang/StringLatin1" (some 0) with
  accessFlags := 48
  interfaces := #[]
  cf := some (fileOf pool19 14 #[.nestMembers #[390, 221]] #[{ accessFlags := 0, nameIndex := 7, descriptorIndex := 8, attributes := #[] }, { accessFlags := 9, nameIndex := 281, descriptorIndex := 282, attributes := #[] }, { accessFlags := 9, nameIndex := 17, descriptorIndex := 27, attributes := #[] }] 48 4 #[] #[{ accessFlags := 4120, nameIndex := 121, descriptorIndex := 122, attributes := #[] }])
  fields := #[{ name := "$assertionsDisabled", type := .boolean, accessFlags := 4120, slot := 0, constantValue := 0 }]
  methods := #[k19m0, k19m1, k19m2]
  instanceTypes := #[]
  staticTypes := #[.boolean]
  resolved := Array.replicate 395 none
  statics := none }

def pool20 : Array CpInfo := pool [(1, .class_ 2), (0, u "java/lang/Math"), (1, .class_ 6), (1, u "java/lang/Object"), (0, u "<init>"), (0, u "()V"), (89, .class_ 100), (1, u "java/lang/Math$RandomNumberGeneratorHolder"), (71, u "negativeZeroFloatBits"), (0, u "J"), (2, u "negativeZeroDoubleBits"), (24, u "min"), (43, u "$assertionsDisabled"), (0, u "Z"), (88, u "(II)I"), (2, u "twoToTheDoubleScaleDown"), (0, u "D"), (4, u "twoToTheDoubleScaleUp"), (9, u "E"), (3, u "PI"), (2, u "TAU"), (2, u "DEGREES_TO_RADIANS"), (0, u "RADIANS_TO_DEGREES")] 94

def k20m0 : Method := { name := "<init>", desc := "()V", sig := { parameters := [], returnType := none }, accessFlags := 2, code := none }
def k20c1 : Code := { maxStack := 2, maxLocals := 2, code := jdk_29_method_69_code, exceptionTable := #[], attributes := #[] }
def k20m1 : Method := { name := "min", desc := "(II)I", sig := { parameters := [.int, .int], returnType := some .int }, accessFlags := 9, code := some k20c1 }
/-- java/lang/Math -/
def k20 : Class := { plain "java/lang/Math" (some 0) with
  accessFlags := 49
  interfaces := #[]
  cf := some (fileOf pool20 1 #[.nestMembers #[98]] #[{ accessFlags := 2, nameIndex := 7, descriptorIndex := 8, attributes := #[] }, { accessFlags := 9, nameIndex := 201, descriptorIndex := 335, attributes := #[] }] 49 4 #[] #[{ accessFlags := 25, nameIndex := 354, descriptorIndex := 339, attributes := #[] }, { accessFlags := 25, nameIndex := 358, descriptorIndex := 339, attributes := #[] }, { accessFlags := 25, nameIndex := 361, descriptorIndex := 339, attributes := #[] }, { accessFlags := 26, nameIndex := 364, descriptorIndex := 339, attributes := #[] }, { accessFlags := 26, nameIndex := 365, descriptorIndex := 339, attributes := #[] }, { accessFlags := 26, nameIndex := 172, descriptorIndex := 173, attributes := #[] }, { accessFlags := 26, nameIndex := 176, descriptorIndex := 173, attributes := #[] }, { accessFlags := 8, nameIndex := 344, descriptorIndex := 339, attributes := #[] }, { accessFlags := 8, nameIndex := 338, descriptorIndex := 339, attributes := #[] }, { accessFlags := 4120, nameIndex := 245, descriptorIndex := 246, attributes := #[] }])
  fields := #[{ name := "E", type := .double, accessFlags := 25, slot := 0, constantValue := 0 }, { name := "PI", type := .double, accessFlags := 25, slot := 1, constantValue := 0 }, { name := "TAU", type := .double, accessFlags := 25, slot := 2, constantValue := 0 }, { name := "DEGREES_TO_RADIANS", type := .double, accessFlags := 26, slot := 3, constantValue := 0 }, { name := "RADIANS_TO_DEGREES", type := .double, accessFlags := 26, slot := 4, constantValue := 0 }, { name := "negativeZeroFloatBits", type := .long, accessFlags := 26, slot := 5, constantValue := 0 }, { name := "negativeZeroDoubleBits", type := .long, accessFlags := 26, slot := 6, constantValue := 0 }, { name := "twoToTheDoubleScaleUp", type := .double, accessFlags := 8, slot := 7, constantValue := 0 }, { name := "twoToTheDoubleScaleDown", type := .double, accessFlags := 8, slot := 8, constantValue := 0 }, { name := "$assertionsDisabled", type := .boolean, accessFlags := 4120, slot := 9, constantValue := 0 }]
  methods := #[k20m0, k20m1]
  instanceTypes := #[]
  staticTypes := #[.double, .double, .double, .double, .double, .long, .long, .double, .double, .boolean]
  resolved := Array.replicate 460 none
  statics := none }

def pool21 : Array CpInfo := pool [(2, .class_ 4), (1, u "java/lang/Object"), (0, u "<init>"), (0, u "()V"), (1, .class_ 10), (1, u "java/lang/System"), (0, u "allowSecurityManager"), (0, u "I"), (16, u "cons"), (0, u "Ljava/io/Console;"), (77, .class_ 110), (1, u "java/lang/System$CallersHolder"), (43, u "initialErrStream"), (0, u "Ljava/io/PrintStream;"), (19, u "security"), (0, u "Ljava/lang/SecurityManager;"), (31, .class_ 209), (0, u "java/lang/System$1"), (7, u "props"), (0, u "Ljava/util/Properties;"), (2, u "lineSeparator"), (0, u "Ljava/lang/String;"), (96, .class_ 321), (1, u "java/lang/System$LoggerFinder"), (5, .class_ 328), (0, u "java/lang/System$Logger"), (67, u "err"), (2, u "out"), (91, u "notSupportedJnuEncoding"), (15, u "in"), (17, u "initialIn"), (0, u "Ljava/io/InputStream;"), (35, u "bootLayer"), (0, u "Ljava/lang/ModuleLayer;"), (99, .class_ 664), (0, u "java/lang/System$2"), (9, u "NEVER"), (2, u "MAYBE"), (49, u "arraycopy"), (0, u "(Ljava/lang/Object;ILjava/lang/Object;II)V"), (72, .class_ 802), (0, u "java/lang/System$Logger$Level")] 31

def k21m0 : Method := { name := "<init>", desc := "()V", sig := { parameters := [], returnType := none }, accessFlags := 2, code := none }
def k21m1 : Method := { name := "arraycopy", desc := "(Ljava/lang/Object;ILjava/lang/Object;II)V", sig := { parameters := [(.object "java/lang/Object"), .int, (.object "java/lang/Object"), .int, .int], returnType := none }, accessFlags := 265, code := none }
/-- java/lang/System -/
def k21 : Class := { plain "java/lang/System" (some 0) with
  accessFlags := 49
  interfaces := #[]
  cf := some (fileOf pool21 8 #[.nestMembers #[319, 327, 801, 108, 663, 208]] #[{ accessFlags := 2, nameIndex := 5, descriptorIndex := 6, attributes := #[] }, { accessFlags := 265, nameIndex := 727, descriptorIndex := 728, attributes := #[] }] 49 2 #[] #[{ accessFlags := 25, nameIndex := 507, descriptorIndex := 526, attributes := #[] }, { accessFlags := 25, nameIndex := 399, descriptorIndex := 155, attributes := #[] }, { accessFlags := 25, nameIndex := 396, descriptorIndex := 155, attributes := #[] }, { accessFlags := 10, nameIndex := 525, descriptorIndex := 526, attributes := #[] }, { accessFlags := 26, nameIndex := 674, descriptorIndex := 12, attributes := #[] }, { accessFlags := 26, nameIndex := 677, descriptorIndex := 12, attributes := #[] }, { accessFlags := 10, nameIndex := 11, descriptorIndex := 12, attributes := #[] }, { accessFlags := 74, nameIndex := 175, descriptorIndex := 176, attributes := #[] }, { accessFlags := 10, nameIndex := 491, descriptorIndex := 222, attributes := #[] }, { accessFlags := 74, nameIndex := 29, descriptorIndex := 30, attributes := #[] }, { accessFlags := 74, nameIndex := 154, descriptorIndex := 155, attributes := #[] }, { accessFlags := 10, nameIndex := 217, descriptorIndex := 218, attributes := #[] }, { accessFlags := 10, nameIndex := 221, descriptorIndex := 222, attributes := #[] }, { accessFlags := 8, nameIndex := 562, descriptorIndex := 563, attributes := #[] }])
  fields := #[{ name := "in", type := (.object "java/io/InputStream"), accessFlags := 25, slot := 0, constantValue := 0 }, { name := "out", type := (.object "java/io/PrintStream"), accessFlags := 25, slot := 1, constantValue := 0 }, { name := "err", type := (.object "java/io/PrintStream"), accessFlags := 25, slot := 2, constantValue := 0 }, { name := "initialIn", type := (.object "java/io/InputStream"), accessFlags := 10, slot := 3, constantValue := 0 }, { name := "NEVER", type := .int, accessFlags := 26, slot := 4, constantValue := 0 }, { name := "MAYBE", type := .int, accessFlags := 26, slot := 5, constantValue := 0 }, { name := "allowSecurityManager", type := .int, accessFlags := 10, slot := 6, constantValue := 0 }, { name := "security", type := (.object "java/lang/SecurityManager"), accessFlags := 74, slot := 7, constantValue := 0 }, { name := "notSupportedJnuEncoding", type := (.object "java/lang/String"), accessFlags := 10, slot := 8, constantValue := 0 }, { name := "cons", type := (.object "java/io/Console"), accessFlags := 74, slot := 9, constantValue := 0 }, { name := "initialErrStream", type := (.object "java/io/PrintStream"), accessFlags := 74, slot := 10, constantValue := 0 }, { name := "props", type := (.object "java/util/Properties"), accessFlags := 10, slot := 11, constantValue := 0 }, { name := "lineSeparator", type := (.object "java/lang/String"), accessFlags := 10, slot := 12, constantValue := 0 }, { name := "bootLayer", type := (.object "java/lang/ModuleLayer"), accessFlags := 8, slot := 13, constantValue := 0 }]
  methods := #[k21m0, k21m1]
  instanceTypes := #[]
  staticTypes := #[(.object "java/io/InputStream"), (.object "java/io/PrintStream"), (.object "java/io/PrintStream"), (.object "java/io/InputStream"), .int, .int, .int, (.object "java/lang/SecurityManager"), (.object "java/lang/String"), (.object "java/io/Console"), (.object "java/io/PrintStream"), (.object "java/util/Properties"), (.object "java/lang/String"), (.object "java/lang/ModuleLayer")]
  resolved := Array.replicate 834 none
  statics := none }

def pool22 : Array CpInfo := pool [(2, .class_ 4), (1, u "java/lang/Object"), (0, u "<init>"), (0, u "()V"), (17, .class_ 26), (1, u "jdk/internal/util/Preconditions"), (22, u "checkFromIndexSize"), (5, .class_ 56), (0, u "jdk/internal/util/Preconditions$4"), (57, .class_ 115), (0, u "jdk/internal/util/Preconditions$1"), (7, u "SIOOBE_FORMATTER"), (0, u "Ljava/util/function/BiFunction;"), (0, .class_ 126), (0, u "jdk/internal/util/Preconditions$2"), (3, u "AIOOBE_FORMATTER"), (0, .class_ 132), (0, u "jdk/internal/util/Preconditions$3"), (3, u "IOOBE_FORMATTER"), (46, u "(IIILjava/util/function/BiFunction;)I")] 10

def k22m0 : Method := { name := "<init>", desc := "()V", sig := { parameters := [], returnType := none }, accessFlags := 1, code := none }
def k22c1 : Code := { maxStack := 4, maxLocals := 4, code := jdk_41_method_13_code, exceptionTable := #[], attributes := #[] }
def k22m1 : Method := { name := "checkFromIndexSize", desc := "(IIILjava/util/function/BiFunction;)I", sig := { parameters := [.int, .int, .int, (.object "java/util/function/BiFunction")], returnType := some .int }, accessFlags := 9, code := some k22c1 }
/-- jdk/internal/util/Preconditions -/
def k22 : Class := { plain "jdk/internal/util/Preconditions" (some 0) with
  accessFlags := 33
  interfaces := #[]
  cf := some (fileOf pool22 24 #[.nestMembers #[55, 131, 125, 114]] #[{ accessFlags := 1, nameIndex := 5, descriptorIndex := 6, attributes := #[] }, { accessFlags := 9, nameIndex := 49, descriptorIndex := 183, attributes := #[] }] 33 2 #[] #[{ accessFlags := 25, nameIndex := 123, descriptorIndex := 124, attributes := #[] }, { accessFlags := 25, nameIndex := 130, descriptorIndex := 124, attributes := #[] }, { accessFlags := 25, nameIndex := 136, descriptorIndex := 124, attributes := #[] }])
  fields := #[{ name := "SIOOBE_FORMATTER", type := (.object "java/util/function/BiFunction"), accessFlags := 25, slot := 0, constantValue := 0 }, { name := "AIOOBE_FORMATTER", type := (.object "java/util/function/BiFunction"), accessFlags := 25, slot := 1, constantValue := 0 }, { name := "IOOBE_FORMATTER", type := (.object "java/util/function/BiFunction"), accessFlags := 25, slot := 2, constantValue := 0 }]
  methods := #[k22m0, k22m1]
  instanceTypes := #[]
  staticTypes := #[(.object "java/util/function/BiFunction"), (.object "java/util/function/BiFunction"), (.object "java/util/function/BiFunction")]
  resolved := Array.replicate 194 none
  statics := some 4 }

def pool23 : Array CpInfo := pool [(1, .class_ 2), (0, u "java/lang/Character"), (18, u "value"), (0, u "C"), (19, .class_ 44), (1, u "java/lang/Object"), (3, .class_ 50), (1, u "java/lang/Character$CharacterCache"), (22, .integer 65536), (0, .integer 1114112), (0, .integer 55296), (0, .integer 56320), (0, .integer 57344), (3, u "(C)Z"), (9, u "(I)C"), (18, .integer 55232), (3, u "(I)Z"), (20, u "lowSurrogate"), (2, u "highSurrogate"), (145, u "$assertionsDisabled"), (0, u "Z"), (21, .class_ 309), (1, u "java/lang/Character$UnicodeBlock"), (73, u "TYPE"), (0, u "Ljava/lang/Class;"), (0, .class_ 386), (0, u "java/io/Serializable"), (0, .class_ 388), (0, u "java/lang/Comparable"), (0, .class_ 390), (0, u "java/lang/constant/Constable"), (0, u "MIN_RADIX"), (0, u "I"), (2, u "MAX_RADIX"), (1, u "MIN_VALUE"), (1, u "MAX_VALUE"), (3, u "UNASSIGNED"), (0, u "B"), (0, u "UPPERCASE_LETTER"), (1, u "LOWERCASE_LETTER"), (0, u "TITLECASE_LETTER"), (1, u "MODIFIER_LETTER"), (1, u "OTHER_LETTER"), (1, u "NON_SPACING_MARK"), (1, u "ENCLOSING_MARK"), (1, u "COMBINING_SPACING_MARK"), (1, u "DECIMAL_DIGIT_NUMBER"), (1, u "LETTER_NUMBER"), (1, u "OTHER_NUMBER"), (1, u "SPACE_SEPARATOR"), (1, u "LINE_SEPARATOR"), (1, u "PARAGRAPH_SEPARATOR"), (1, u "CONTROL"), (1, u "FORMAT"), (1, u "PRIVATE_USE"), (1, u "SURROGATE"), (1, u "DASH_PUNCTUATION"), (1, u "START_PUNCTUATION"), (1, u "END_PUNCTUATION"), (1, u "CONNECTOR_PUNCTUATION"), (1, u "OTHER_PUNCTUATION"), (1, u "MATH_SYMBOL"), (1, u "CURRENCY_SYMBOL"), (1, u "MODIFIER_SYMBOL"), (1, u "OTHER_SYMBOL"), (1, u "INITIAL_QUOTE_PUNCTUATION"), (1, u "FINAL_QUOTE_PUNCTUATION"), (1, u "ERROR"), (1, u "DIRECTIONALITY_UNDEFINED"), (0, u "DIRECTIONALITY_LEFT_TO_RIGHT"), (0, u "DIRECTIONALITY_RIGHT_TO_LEFT"), (0, u "DIRECTIONALITY_RIGHT_TO_LEFT_ARABIC"), (0, u "DIRECTIONALITY_EUROPEAN_NUMBER"), (0, u "DIRECTIONALITY_EUROPEAN_NUMBER_SEPARATOR"), (0, u "DIRECTIONALITY_EUROPEAN_NUMBER_TERMINATOR"), (0, u "DIRECTIONALITY_ARABIC_NUMBER"), (0, u "DIRECTIONALITY_COMMON_NUMBER_SEPARATOR"), (0, u "DIRECTIONALITY_NONSPACING_MARK"), (0, u "DIRECTIONALITY_BOUNDARY_NEUTRAL"), (0, u "DIRECTIONALITY_PARAGRAPH_SEPARATOR"), (0, u "DIRECTIONALITY_SEGMENT_SEPARATOR"), (0, u "DIRECTIONALITY_WHITESPACE"), (0, u "DIRECTIONALITY_OTHER_NEUTRALS"), (0, u "DIRECTIONALITY_LEFT_TO_RIGHT_EMBEDDING"), (0, u "DIRECTIONALITY_LEFT_TO_RIGHT_OVERRIDE"), (0, u "DIRECTIONALITY_RIGHT_TO_LEFT_EMBEDDING"), (0, u "DIRECTIONALITY_RIGHT_TO_LEFT_OVERRIDE"), (1, u "DIRECTIONALITY_POP_DIRECTIONAL_FORMAT"), (0, u "DIRECTIONALITY_LEFT_TO_RIGHT_ISOLATE"), (0, u "DIRECTIONALITY_RIGHT_TO_LEFT_ISOLATE"), (0, u "DIRECTIONALITY_FIRST_STRONG_ISOLATE"), (0, u "DIRECTIONALITY_POP_DIRECTIONAL_ISOLATE"), (0, u "MIN_HIGH_SURROGATE"), (0, u "MAX_HIGH_SURROGATE"), (1, u "MIN_LOW_SURROGATE"), (0, u "MAX_LOW_SURROGATE"), (1, u "MIN_SURROGATE"), (0, u "MAX_SURROGATE"), (0, u "MIN_SUPPLEMENTARY_CODE_POINT"), (0, u "MIN_CODE_POINT"), (0, u "MAX_CODE_POINT"), (1, u "serialVersionUID"), (0, u "J"), (2, u "SIZE"), (0, u "BYTES"), (22, u "isSupplementaryCodePoint"), (1, u "isSurrogate"), (63, .class_ 596), (0, u "java/lang/Character$UnicodeScript"), (0, .class_ 598), (0, u "java/lang/Character$Subset")] 5

def k23c0 : Code := { maxStack := 2, maxLocals := 1, code := jdk_89_method_13_code, exceptionTable := #[], attributes := #[] }
def k23m0 : Method := { name := "isSupplementaryCodePoint", desc := "(I)Z", sig := { parameters := [.int], returnType := some .boolean }, accessFlags := 9, code := some k23c0 }
def k23c1 : Code := { maxStack := 2, maxLocals := 1, code := jdk_89_method_16_code, exceptionTable := #[], attributes := #[] }
def k23m1 : Method := { name := "isSurrogate", desc := "(C)Z", sig := { parameters := [.char], returnType := some .boolean }, accessFlags := 9, code := some k23c1 }
def k23c2 : Code := { maxStack := 2, maxLocals := 1, code := jdk_89_method_28_code, exceptionTable := #[], attributes := #[] }
def k23m2 : Method := { name := "highSurrogate", desc := "(I)C", sig := { parameters := [.int], returnType := some .char }, accessFlags := 9, code := some k23c2 }
def k23c3 : Code := { maxStack := 2, maxLocals := 1, code := jdk_89_method_29_code, exceptionTable := #[], attributes := #[] }
def k23m3 : Method := { name := "lowSurrogate", desc := "(I)C", sig := { parameters := [.int], returnType := some .char }, accessFlags := 9, code := some k23c3 }
/-- java/lang/Character -/
def k23 : Class := { plain "java/lang/Character" (some 0) with
  accessFlags := 49
  interfaces := #[2, 3, 5]
  cf := some (fileOf pool23 1 #[.nestMembers #[48, 595, 307, 597]] #[{ accessFlags := 9, nameIndex := 529, descriptorIndex := 114, attributes := #[] }, { accessFlags := 9, nameIndex := 531, descriptorIndex := 81, attributes := #[] }, { accessFlags := 9, nameIndex := 138, descriptorIndex := 91, attributes := #[] }, { accessFlags := 9, nameIndex := 135, descriptorIndex := 91, attributes := #[] }] 49 42 #[385, 387, 389] #[{ accessFlags := 25, nameIndex := 391, descriptorIndex := 392, attributes := #[] }, { accessFlags := 25, nameIndex := 395, descriptorIndex := 392, attributes := #[] }, { accessFlags := 25, nameIndex := 397, descriptorIndex := 22, attributes := #[] }, { accessFlags := 25, nameIndex := 399, descriptorIndex := 22, attributes := #[] }, { accessFlags := 25, nameIndex := 383, descriptorIndex := 384, attributes := #[] }, { accessFlags := 25, nameIndex := 403, descriptorIndex := 404, attributes := #[] }, { accessFlags := 25, nameIndex := 405, descriptorIndex := 404, attributes := #[] }, { accessFlags := 25, nameIndex := 407, descriptorIndex := 404, attributes := #[] }, { accessFlags := 25, nameIndex := 408, descriptorIndex := 404, attributes := #[] }, { accessFlags := 25, nameIndex := 410, descriptorIndex := 404, attributes := #[] }, { accessFlags := 25, nameIndex := 412, descriptorIndex := 404, attributes := #[] }, { accessFlags := 25, nameIndex := 414, descriptorIndex := 404, attributes := #[] }, { accessFlags := 25, nameIndex := 416, descriptorIndex := 404, attributes := #[] }, { accessFlags := 25, nameIndex := 418, descriptorIndex := 404, attributes := #[] }, { accessFlags := 25, nameIndex := 420, descriptorIndex := 404, attributes := #[] }, { accessFlags := 25, nameIndex := 422, descriptorIndex := 404, attributes := #[] }, { accessFlags := 25, nameIndex := 424, descriptorIndex := 404, attributes := #[] }, { accessFlags := 25, nameIndex := 426, descriptorIndex := 404, attributes := #[] }, { accessFlags := 25, nameIndex := 428, descriptorIndex := 404, attributes := #[] }, { accessFlags := 25, nameIndex := 430, descriptorIndex := 404, attributes := #[] }, { accessFlags := 25, nameIndex := 432, descriptorIndex := 404, attributes := #[] }, { accessFlags := 25, nameIndex := 434, descriptorIndex := 404, attributes := #[] }, { accessFlags := 25, nameIndex := 436, descriptorIndex := 404, attributes := #[] }, { accessFlags := 25, nameIndex := 438, descriptorIndex := 404, attributes := #[] }, { accessFlags := 25, nameIndex := 440, descriptorIndex := 404, attributes := #[] }, { accessFlags := 25, nameIndex := 442, descriptorIndex := 404, attributes := #[] }, { accessFlags := 25, nameIndex := 444, descriptorIndex := 404, attributes := #[] }, { accessFlags := 25, nameIndex := 446, descriptorIndex := 404, attributes := #[] }, { accessFlags := 25, nameIndex := 448, descriptorIndex := 404, attributes := #[] }, { accessFlags := 25, nameIndex := 450, descriptorIndex := 404, attributes := #[] }, { accessFlags := 25, nameIndex := 452, descriptorIndex := 404, attributes := #[] }, { accessFlags := 25, nameIndex := 454, descriptorIndex := 404, attributes := #[] }, { accessFlags := 25, nameIndex := 456, descriptorIndex := 404, attributes := #[] }, { accessFlags := 25, nameIndex := 458, descriptorIndex := 404, attributes := #[] }, { accessFlags := 25, nameIndex := 460, descriptorIndex := 404, attributes := #[] }, { accessFlags := 24, nameIndex := 462, descriptorIndex := 392, attributes := #[] }, { accessFlags := 25, nameIndex := 464, descriptorIndex := 404, attributes := #[] }, { accessFlags := 25, nameIndex := 465, descriptorIndex := 404, attributes := #[] }, { accessFlags := 25, nameIndex := 466, descriptorIndex := 404, attributes := #[] }, { accessFlags := 25, nameIndex := 467, descriptorIndex := 404, attributes := #[] }, { accessFlags := 25, nameIndex := 468, descriptorIndex := 404, attributes := #[] }, { accessFlags := 25, nameIndex := 469, descriptorIndex := 404, attributes := #[] }, { accessFlags := 25, nameIndex := 470, descriptorIndex := 404, attributes := #[] }, { accessFlags := 25, nameIndex := 471, descriptorIndex := 404, attributes := #[] }, { accessFlags := 25, nameIndex := 472, descriptorIndex := 404, attributes := #[] }, { accessFlags := 25, nameIndex := 473, descriptorIndex := 404, attributes := #[] }, { accessFlags := 25, nameIndex := 474, descriptorIndex := 404, attributes := #[] }, { accessFlags := 25, nameIndex := 475, descriptorIndex := 404, attributes := #[] }, { accessFlags := 25, nameIndex := 476, descriptorIndex := 404, attributes := #[] }, { accessFlags := 25, nameIndex := 477, descriptorIndex := 404, attributes := #[] }, { accessFlags := 25, nameIndex := 478, descriptorIndex := 404, attributes := #[] }, { accessFlags := 25, nameIndex := 479, descriptorIndex := 404, attributes := #[] }, { accessFlags := 25, nameIndex := 480, descriptorIndex := 404, attributes := #[] }, { accessFlags := 25, nameIndex := 481, descriptorIndex := 404, attributes := #[] }, { accessFlags := 25, nameIndex := 482, descriptorIndex := 404, attributes := #[] }, { accessFlags := 25, nameIndex := 484, descriptorIndex := 404, attributes := #[] }, { accessFlags := 25, nameIndex := 485, descriptorIndex := 404, attributes := #[] }, { accessFlags := 25, nameIndex := 486, descriptorIndex := 404, attributes := #[] }, { accessFlags := 25, nameIndex := 487, descriptorIndex := 404, attributes := #[] }, { accessFlags := 25, nameIndex := 488, descriptorIndex := 404, attributes := #[] }, { accessFlags := 25, nameIndex := 489, descriptorIndex := 22, attributes := #[] }, { accessFlags := 25, nameIndex := 490, descriptorIndex := 22, attributes := #[] }, { accessFlags := 25, nameIndex := 492, descriptorIndex := 22, attributes := #[] }, { accessFlags := 25, nameIndex := 493, descriptorIndex := 22, attributes := #[] }, { accessFlags := 25, nameIndex := 495, descriptorIndex := 22, attributes := #[] }, { accessFlags := 25, nameIndex := 496, descriptorIndex := 22, attributes := #[] }, { accessFlags := 25, nameIndex := 497, descriptorIndex := 392, attributes := #[] }, { accessFlags := 25, nameIndex := 498, descriptorIndex := 392, attributes := #[] }, { accessFlags := 25, nameIndex := 499, descriptorIndex := 392, attributes := #[] }, { accessFlags := 18, nameIndex := 21, descriptorIndex := 22, attributes := #[] }, { accessFlags := 26, nameIndex := 501, descriptorIndex := 502, attributes := #[] }, { accessFlags := 25, nameIndex := 505, descriptorIndex := 392, attributes := #[] }, { accessFlags := 25, nameIndex := 506, descriptorIndex := 392, attributes := #[] }, { accessFlags := 4120, nameIndex := 284, descriptorIndex := 285, attributes := #[] }])
  fields := #[{ name := "MIN_RADIX", type := .int, accessFlags := 25, slot := 0, constantValue := 0 }, { name := "MAX_RADIX", type := .int, accessFlags := 25, slot := 1, constantValue := 0 }, { name := "MIN_VALUE", type := .char, accessFlags := 25, slot := 2, constantValue := 0 }, { name := "MAX_VALUE", type := .char, accessFlags := 25, slot := 3, constantValue := 0 }, { name := "TYPE", type := (.object "java/lang/Class"), accessFlags := 25, slot := 4, constantValue := 0 }, { name := "UNASSIGNED", type := .byte, accessFlags := 25, slot := 5, constantValue := 0 }, { name := "UPPERCASE_LETTER", type := .byte, accessFlags := 25, slot := 6, constantValue := 0 }, { name := "LOWERCASE_LETTER", type := .byte, accessFlags := 25, slot := 7, constantValue := 0 }, { name := "TITLECASE_LETTER", type := .byte, accessFlags := 25, slot := 8, constantValue := 0 }, { name := "MODIFIER_LETTER", type := .byte, accessFlags := 25, slot := 9, constantValue := 0 }, { name := "OTHER_LETTER", type := .byte, accessFlags := 25, slot := 10, constantValue := 0 }, { name := "NON_SPACING_MARK", type := .byte, accessFlags := 25, slot := 11, constantValue := 0 }, { name := "ENCLOSING_MARK", type := .byte, accessFlags := 25, slot := 12, constantValue := 0 }, { name := "COMBINING_SPACING_MARK", type := .byte, accessFlags := 25, slot := 13, constantValue := 0 }, { name := "DECIMAL_DIGIT_NUMBER", type := .byte, accessFlags := 25, slot := 14, constantValue := 0 }, { name := "LETTER_NUMBER", type := .byte, accessFlags := 25, slot := 15, constantValue := 0 }, { name := "OTHER_NUMBER", type := .byte, accessFlags := 25, slot := 16, constantValue := 0 }, { name := "SPACE_SEPARATOR", type := .byte, accessFlags := 25, slot := 17, constantValue := 0 }, { name := "LINE_SEPARATOR", type := .byte, accessFlags := 25, slot := 18, constantValue := 0 }, { name := "PARAGRAPH_SEPARATOR", type := .byte, accessFlags := 25, slot := 19, constantValue := 0 }, { name := "CONTROL", type := .byte, accessFlags := 25, slot := 20, constantValue := 0 }, { name := "FORMAT", type := .byte, accessFlags := 25, slot := 21, constantValue := 0 }, { name := "PRIVATE_USE", type := .byte, accessFlags := 25, slot := 22, constantValue := 0 }, { name := "SURROGATE", type := .byte, accessFlags := 25, slot := 23, constantValue := 0 }, { name := "DASH_PUNCTUATION", type := .byte, accessFlags := 25, slot := 24, constantValue := 0 }, { name := "START_PUNCTUATION", type := .byte, accessFlags := 25, slot := 25, constantValue := 0 }, { name := "END_PUNCTUATION", type := .byte, accessFlags := 25, slot := 26, constantValue := 0 }, { name := "CONNECTOR_PUNCTUATION", type := .byte, accessFlags := 25, slot := 27, constantValue := 0 }, { name := "OTHER_PUNCTUATION", type := .byte, accessFlags := 25, slot := 28, constantValue := 0 }, { name := "MATH_SYMBOL", type := .byte, accessFlags := 25, slot := 29, constantValue := 0 }, { name := "CURRENCY_SYMBOL", type := .byte, accessFlags := 25, slot := 30, constantValue := 0 }, { name := "MODIFIER_SYMBOL", type := .byte, accessFlags := 25, slot := 31, constantValue := 0 }, { name := "OTHER_SYMBOL", type := .byte, accessFlags := 25, slot := 32, constantValue := 0 }, { name := "INITIAL_QUOTE_PUNCTUATION", type := .byte, accessFlags := 25, slot := 33, constantValue := 0 }, { name := "FINAL_QUOTE_PUNCTUATION", type := .byte, accessFlags := 25, slot := 34, constantValue := 0 }, { name := "ERROR", type := .int, accessFlags := 24, slot := 35, constantValue := 0 }, { name := "DIRECTIONALITY_UNDEFINED", type := .byte, accessFlags := 25, slot := 36, constantValue := 0 }, { name := "DIRECTIONALITY_LEFT_TO_RIGHT", type := .byte, accessFlags := 25, slot := 37, constantValue := 0 }, { name := "DIRECTIONALITY_RIGHT_TO_LEFT", type := .byte, accessFlags := 25, slot := 38, constantValue := 0 }, { name := "DIRECTIONALITY_RIGHT_TO_LEFT_ARABIC", type := .byte, accessFlags := 25, slot := 39, constantValue := 0 }, { name := "DIRECTIONALITY_EUROPEAN_NUMBER", type := .byte, accessFlags := 25, slot := 40, constantValue := 0 }, { name := "DIRECTIONALITY_EUROPEAN_NUMBER_SEPARATOR", type := .byte, accessFlags := 25, slot := 41, constantValue := 0 }, { name := "DIRECTIONALITY_EUROPEAN_NUMBER_TERMINATOR", type := .byte, accessFlags := 25, slot := 42, constantValue := 0 }, { name := "DIRECTIONALITY_ARABIC_NUMBER", type := .byte, accessFlags := 25, slot := 43, constantValue := 0 }, { name := "DIRECTIONALITY_COMMON_NUMBER_SEPARATOR", type := .byte, accessFlags := 25, slot := 44, constantValue := 0 }, { name := "DIRECTIONALITY_NONSPACING_MARK", type := .byte, accessFlags := 25, slot := 45, constantValue := 0 }, { name := "DIRECTIONALITY_BOUNDARY_NEUTRAL", type := .byte, accessFlags := 25, slot := 46, constantValue := 0 }, { name := "DIRECTIONALITY_PARAGRAPH_SEPARATOR", type := .byte, accessFlags := 25, slot := 47, constantValue := 0 }, { name := "DIRECTIONALITY_SEGMENT_SEPARATOR", type := .byte, accessFlags := 25, slot := 48, constantValue := 0 }, { name := "DIRECTIONALITY_WHITESPACE", type := .byte, accessFlags := 25, slot := 49, constantValue := 0 }, { name := "DIRECTIONALITY_OTHER_NEUTRALS", type := .byte, accessFlags := 25, slot := 50, constantValue := 0 }, { name := "DIRECTIONALITY_LEFT_TO_RIGHT_EMBEDDING", type := .byte, accessFlags := 25, slot := 51, constantValue := 0 }, { name := "DIRECTIONALITY_LEFT_TO_RIGHT_OVERRIDE", type := .byte, accessFlags := 25, slot := 52, constantValue := 0 }, { name := "DIRECTIONALITY_RIGHT_TO_LEFT_EMBEDDING", type := .byte, accessFlags := 25, slot := 53, constantValue := 0 }, { name := "DIRECTIONALITY_RIGHT_TO_LEFT_OVERRIDE", type := .byte, accessFlags := 25, slot := 54, constantValue := 0 }, { name := "DIRECTIONALITY_POP_DIRECTIONAL_FORMAT", type := .byte, accessFlags := 25, slot := 55, constantValue := 0 }, { name := "DIRECTIONALITY_LEFT_TO_RIGHT_ISOLATE", type := .byte, accessFlags := 25, slot := 56, constantValue := 0 }, { name := "DIRECTIONALITY_RIGHT_TO_LEFT_ISOLATE", type := .byte, accessFlags := 25, slot := 57, constantValue := 0 }, { name := "DIRECTIONALITY_FIRST_STRONG_ISOLATE", type := .byte, accessFlags := 25, slot := 58, constantValue := 0 }, { name := "DIRECTIONALITY_POP_DIRECTIONAL_ISOLATE", type := .byte, accessFlags := 25, slot := 59, constantValue := 0 }, { name := "MIN_HIGH_SURROGATE", type := .char, accessFlags := 25, slot := 60, constantValue := 0 }, { name := "MAX_HIGH_SURROGATE", type := .char, accessFlags := 25, slot := 61, constantValue := 0 }, { name := "MIN_LOW_SURROGATE", type := .char, accessFlags := 25, slot := 62, constantValue := 0 }, { name := "MAX_LOW_SURROGATE", type := .char, accessFlags := 25, slot := 63, constantValue := 0 }, { name := "MIN_SURROGATE", type := .char, accessFlags := 25, slot := 64, constantValue := 0 }, { name := "MAX_SURROGATE", type := .char, accessFlags := 25, slot := 65, constantValue := 0 }, { name := "MIN_SUPPLEMENTARY_CODE_POINT", type := .int, accessFlags := 25, slot := 66, constantValue := 0 }, { name := "MIN_CODE_POINT", type := .int, accessFlags := 25, slot := 67, constantValue := 0 }, { name := "MAX_CODE_POINT", type := .int, accessFlags := 25, slot := 68, constantValue := 0 }, { name := "value", type := .char, accessFlags := 18, slot := 0, constantValue := 0 }, { name := "serialVersionUID", type := .long, accessFlags := 26, slot := 69, constantValue := 0 }, { name := "SIZE", type := .int, accessFlags := 25, slot := 70, constantValue := 0 }, { name := "BYTES", type := .int, accessFlags := 25, slot := 71, constantValue := 0 }, { name := "$assertionsDisabled", type := .boolean, accessFlags := 4120, slot := 72, constantValue := 0 }]
  methods := #[k23m0, k23m1, k23m2, k23m3]
  instanceTypes := #[.char]
  staticTypes := #[.int, .int, .char, .char, (.object "java/lang/Class"), .byte, .byte, .byte, .byte, .byte, .byte, .byte, .byte, .byte, .byte, .byte, .byte, .byte, .byte, .byte, .byte, .byte, .byte, .byte, .byte, .byte, .byte, .byte, .byte, .byte, .byte, .byte, .byte, .byte, .byte, .int, .byte, .byte, .byte, .byte, .byte, .byte, .byte, .byte, .byte, .byte, .byte, .byte, .byte, .byte, .byte, .byte, .byte, .byte, .byte, .byte, .byte, .byte, .byte, .byte, .char, .char, .char, .char, .char, .char, .int, .int, .int, .long, .int, .int, .boolean]
  resolved := Array.replicate 604 none
  statics := none }

def pool24 : Array CpInfo := pool [(9, u "<init>"), (6, .class_ 18), (1, u "java/lang/Object"), (0, u "()V"), (1, .class_ 23), (1, u "jdk/internal/util/ArraysSupport"), (0, u "LOG2_ARRAY_LONG_INDEX_SCALE"), (0, u "I"), (2, u "U"), (0, u "Ljdk/internal/misc/Unsafe;"), (8, u "BIG_ENDIAN"), (0, u "Z"), (8, u "LOG2_BYTE_BIT_SIZE"), (4, u "LOG2_ARRAY_INT_INDEX_SCALE"), (54, u "JLA"), (0, u "Ljdk/internal/access/JavaLangAccess;"), (11, u "LOG2_ARRAY_BOOLEAN_INDEX_SCALE"), (9, u "LOG2_ARRAY_BYTE_INDEX_SCALE"), (5, u "LOG2_ARRAY_CHAR_INDEX_SCALE"), (5, u "LOG2_ARRAY_SHORT_INDEX_SCALE"), (18, u "LOG2_ARRAY_FLOAT_INDEX_SCALE"), (24, u "LOG2_ARRAY_DOUBLE_INDEX_SCALE"), (89, u "T_BOOLEAN"), (2, u "T_CHAR"), (1, u "T_FLOAT"), (1, u "T_DOUBLE"), (1, u "T_BYTE"), (1, u "T_SHORT"), (1, u "T_INT"), (1, u "T_LONG"), (1, u "SOFT_MAX_ARRAY_LENGTH")] 83

def k24m0 : Method := { name := "<init>", desc := "()V", sig := { parameters := [], returnType := none }, accessFlags := 2, code := none }
/-- jdk/internal/util/ArraysSupport -/
def k24 : Class := { plain "jdk/internal/util/ArraysSupport" (some 0) with
  accessFlags := 33
  interfaces := #[]
  cf := some (fileOf pool24 21 #[] #[{ accessFlags := 2, nameIndex := 9, descriptorIndex := 19, attributes := #[] }] 33 16 #[] #[{ accessFlags := 24, nameIndex := 28, descriptorIndex := 29, attributes := #[] }, { accessFlags := 26, nameIndex := 38, descriptorIndex := 39, attributes := #[] }, { accessFlags := 25, nameIndex := 121, descriptorIndex := 25, attributes := #[] }, { accessFlags := 25, nameIndex := 131, descriptorIndex := 25, attributes := #[] }, { accessFlags := 25, nameIndex := 137, descriptorIndex := 25, attributes := #[] }, { accessFlags := 25, nameIndex := 143, descriptorIndex := 25, attributes := #[] }, { accessFlags := 25, nameIndex := 53, descriptorIndex := 25, attributes := #[] }, { accessFlags := 25, nameIndex := 24, descriptorIndex := 25, attributes := #[] }, { accessFlags := 25, nameIndex := 162, descriptorIndex := 25, attributes := #[] }, { accessFlags := 25, nameIndex := 187, descriptorIndex := 25, attributes := #[] }, { accessFlags := 26, nameIndex := 48, descriptorIndex := 25, attributes := #[] }, { accessFlags := 25, nameIndex := 277, descriptorIndex := 25, attributes := #[] }, { accessFlags := 25, nameIndex := 280, descriptorIndex := 25, attributes := #[] }, { accessFlags := 25, nameIndex := 282, descriptorIndex := 25, attributes := #[] }, { accessFlags := 25, nameIndex := 284, descriptorIndex := 25, attributes := #[] }, { accessFlags := 25, nameIndex := 286, descriptorIndex := 25, attributes := #[] }, { accessFlags := 25, nameIndex := 288, descriptorIndex := 25, attributes := #[] }, { accessFlags := 25, nameIndex := 290, descriptorIndex := 25, attributes := #[] }, { accessFlags := 25, nameIndex := 292, descriptorIndex := 25, attributes := #[] }, { accessFlags := 26, nameIndex := 108, descriptorIndex := 109, attributes := #[] }, { accessFlags := 25, nameIndex := 294, descriptorIndex := 25, attributes := #[] }])
  fields := #[{ name := "U", type := (.object "jdk/internal/misc/Unsafe"), accessFlags := 24, slot := 0, constantValue := 0 }, { name := "BIG_ENDIAN", type := .boolean, accessFlags := 26, slot := 1, constantValue := 0 }, { name := "LOG2_ARRAY_BOOLEAN_INDEX_SCALE", type := .int, accessFlags := 25, slot := 2, constantValue := 0 }, { name := "LOG2_ARRAY_BYTE_INDEX_SCALE", type := .int, accessFlags := 25, slot := 3, constantValue := 0 }, { name := "LOG2_ARRAY_CHAR_INDEX_SCALE", type := .int, accessFlags := 25, slot := 4, constantValue := 0 }, { name := "LOG2_ARRAY_SHORT_INDEX_SCALE", type := .int, accessFlags := 25, slot := 5, constantValue := 0 }, { name := "LOG2_ARRAY_INT_INDEX_SCALE", type := .int, accessFlags := 25, slot := 6, constantValue := 0 }, { name := "LOG2_ARRAY_LONG_INDEX_SCALE", type := .int, accessFlags := 25, slot := 7, constantValue := 0 }, { name := "LOG2_ARRAY_FLOAT_INDEX_SCALE", type := .int, accessFlags := 25, slot := 8, constantValue := 0 }, { name := "LOG2_ARRAY_DOUBLE_INDEX_SCALE", type := .int, accessFlags := 25, slot := 9, constantValue := 0 }, { name := "LOG2_BYTE_BIT_SIZE", type := .int, accessFlags := 26, slot := 10, constantValue := 0 }, { name := "T_BOOLEAN", type := .int, accessFlags := 25, slot := 11, constantValue := 0 }, { name := "T_CHAR", type := .int, accessFlags := 25, slot := 12, constantValue := 0 }, { name := "T_FLOAT", type := .int, accessFlags := 25, slot := 13, constantValue := 0 }, { name := "T_DOUBLE", type := .int, accessFlags := 25, slot := 14, constantValue := 0 }, { name := "T_BYTE", type := .int, accessFlags := 25, slot := 15, constantValue := 0 }, { name := "T_SHORT", type := .int, accessFlags := 25, slot := 16, constantValue := 0 }, { name := "T_INT", type := .int, accessFlags := 25, slot := 17, constantValue := 0 }, { name := "T_LONG", type := .int, accessFlags := 25, slot := 18, constantValue := 0 }, { name := "JLA", type := (.object "jdk/internal/access/JavaLangAccess"), accessFlags := 26, slot := 19, constantValue := 0 }, { name := "SOFT_MAX_ARRAY_LENGTH", type := .int, accessFlags := 25, slot := 20, constantValue := 0 }]
  methods := #[k24m0]
  instanceTypes := #[]
  staticTypes := #[(.object "jdk/internal/misc/Unsafe"), .boolean, .int, .int, .int, .int, .int, .int, .int, .int, .int, .int, .int, .int, .int, .int, .int, .int, .int, (.object "jdk/internal/access/JavaLangAccess"), .int]
  resolved := Array.replicate 378 none
  statics := none }

/-- the primitive byte -/
def k25 : Class := { plain "byte" none with kind := .primitive 'B', accessFlags := 0x411 }
/-- [B -/
def k26 : Class := { plain "[B" (some 0) with kind := .array 25 .byte, interfaces := #[18, 2], accessFlags := 1041 }

/-- the primitive char -/
def k27 : Class := { plain "char" none with kind := .primitive 'C', accessFlags := 0x411 }
/-- [C -/
def k28 : Class := { plain "[C" (some 0) with kind := .array 27 .char, interfaces := #[18, 2], accessFlags := 1041 }

/-- the primitive int -/
def k29 : Class := { plain "int" none with kind := .primitive 'I', accessFlags := 0x411 }
/-- [I -/
def k30 : Class := { plain "[I" (some 0) with kind := .array 29 .int, interfaces := #[18, 2], accessFlags := 1041 }

def heap : Heap := #[{ cls := 7, slots := #[.long 0, .int 1, .null, .int 0, .null, .int 0, .int 0], vm := .statics 7 },
  { cls := 8, slots := #[.int 0, .int 8, .int 0, .int 1], vm := .statics 8 },
  { cls := 10, slots := #[.null, .null, .ref 5, .null, .null, .null], vm := .statics 10 },
  { cls := 15, slots := #[.ref 5, .null], vm := .statics 15 },
  { cls := 22, slots := #[.null, .null, .null], vm := .statics 22 },
  { cls := 15, slots := #[.null, .null, .null], vm := .none }]
def classes : Array Class := #[k0, k1, k2, k3, k4, k5, k6, k7, k8, k9, k10, k11, k12, k13, k14, k15, k16, k17, k18, k19, k20, k21, k22, k23, k24, k25, k26, k27, k28, k29, k30]
def interned : List (Array UInt16 × Addr) := []
def slotsUsed : Nat := 25
def theMethod : MethodId := ⟨1, 1⟩
def args0 : Array Value := #[.int 0, .int 65, .int 66]
def aboutOver (below : List Frame) : State where
  vm := { classes := classes, interned := interned.toArray }
  heap := heap
  slotsUsed := slotsUsed
  threads := #[{ frames := .invoking theMethod args0 :: below }]
def below0 : List Frame := [.native { method := ⟨0, 0⟩, args := #[] }]
def about1 : State := aboutOver below0
def p0 : Program := .bare "" "" ""
def e0 : Env := launch0.env 0 0 0
theorem w_frames : about1.frames = Frame.invoking theMethod args0 :: below0 := rfl
set_option maxRecDepth 65536 in
theorem w_args : argsFit about1.vm theMethod args0 = true := by decide +kernel
set_option maxRecDepth 65536 in
theorem w_heap : heapFits about1 = true := by decide +kernel
set_option maxRecDepth 65536 in
theorem w_runnable : about1.curStatus? = some .runnable := by decide +kernel
set_option maxRecDepth 65536 in
theorem w_alone : about1.alone = true := by decide +kernel
set_option maxRecDepth 65536 in
theorem w_named : about1.methodNamed? x = some theMethod := by decide +kernel
set_option maxRecDepth 65536 in
theorem w_hears : about1.hears theMethod below0 = true := by decide +kernel
set_option maxRecDepth 65536 in
theorem w_ripe : about1.ripe theMethod args0 below0 = true := by decide +kernel
theorem w_running : about1.status = .running := rfl
set_option maxRecDepth 65536 in
theorem w_room : about1.hasRoom e0.platform room_1 = true :=
  launch0.hasRoom_least _ room_1 (by decide +kernel) (by decide +kernel) (by decide +kernel) (by decide +kernel) (by decide +kernel) (by decide +kernel)
theorem allAtoms_all (ts : List Jvm.Cond) (a : Array Jvm.Value) (st : Jvm.State) : (allAtoms ts).before a st = ts.all (fun c => c.before a st) := by
  induction ts with
  | nil => rfl
  | cons c t ih =>
    show (Jvm.Cond.and c (allAtoms t)).before a st = _
    rw [Jvm.Cond.before_and, ih, List.all_cons]
def words1 : List Jvm.Cond := Jvm.Cond.code x code maxLocals ret :: tables_1
/-- a 'code' word, met by the world's own term for the bytes: nothing is compared byte by byte -/
theorem code_word {y : MethodName} {bytes : ByteArray} {mx : Nat} {rt : Option FieldType} {a : Array Value} {s : State} {m : MethodId} {meth : Method} {c : Code} (h1 : s.methodNamed? y = some m) (h2 : s.vm.method? m = some meth) (h3 : meth.code = some c) (h4 : c.code = bytes)
    (h5 : (c.maxLocals == mx && c.exceptionTable.isEmpty && decide (c.maxStack ≤ mostOperands) && decide (meth.sig.returnType = rt) && !meth.locks && decide (parseMethodDescriptor y.desc = some meth.sig)) = true) : (Jvm.Cond.code y bytes mx rt).before a s = true := by
  simp only [Bool.and_eq_true, beq_iff_eq, Bool.not_eq_true', decide_eq_true_eq] at h5
  obtain ⟨⟨⟨⟨⟨g1, g2⟩, g3⟩, g4⟩, g5⟩, g6⟩ := h5
  simp [Cond.before, Cond.holds, Cond.value, h1, h2, h3, h4, g1, g2, g3, g4, g5, g6]
def isCode : Jvm.Cond → Bool
  | .code _ _ _ _ => true
  | _ => false
theorem all_split {L : List Jvm.Cond} {P : Jvm.Cond → Bool} (h1 : L.all (fun c => isCode c || P c) = true) (h2 : ∀ c ∈ L.filter isCode, P c = true) : L.all P = true := by
  refine List.all_eq_true.mpr fun c hc => ?_
  have h := List.all_eq_true.mp h1 c hc
  rcases Bool.eq_false_or_eq_true (isCode c) with hi | hi
  · exact h2 c (List.mem_filter.mpr ⟨hc, hi⟩)
  · simpa [hi] using h
set_option maxRecDepth 65536 in
theorem w_c0 : (Jvm.Cond.code x code maxLocals ret).before args0 about1 = true := code_word (m := ⟨1, 1⟩) (meth := k1m1) (c := k1c1) (by decide +kernel) rfl rfl rfl (by decide +kernel)
set_option maxRecDepth 65536 in
theorem w_c1 : (Jvm.Cond.code ({ cls := "java/lang/String", name := "<init>", desc := "([C)V" } : Jvm.MethodName) jdk_42_method_3_code (2 : Nat) (Option.none : Option Jvm.ClassFile.FieldType)).before args0 about1 = true := code_word (m := ⟨7, 1⟩) (meth := k7m1) (c := k7c1) (by decide +kernel) rfl rfl rfl (by decide +kernel)
set_option maxRecDepth 65536 in
theorem w_c2 : (Jvm.Cond.code ({ cls := "java/lang/String", name := "<init>", desc := "([CIILjava/lang/Void;)V" } : Jvm.MethodName) jdk_42_method_149_code (6 : Nat) (Option.none : Option Jvm.ClassFile.FieldType)).before args0 about1 = true := code_word (m := ⟨7, 12⟩) (meth := k7m12) (c := k7c12) (by decide +kernel) rfl rfl rfl (by decide +kernel)
set_option maxRecDepth 65536 in
theorem w_c3 : (Jvm.Cond.code ({ cls := "java/lang/Object", name := "<init>", desc := "()V" } : Jvm.MethodName) object_method_1_code (1 : Nat) (Option.none : Option Jvm.ClassFile.FieldType)).before args0 about1 = true := code_word (m := ⟨0, 0⟩) (meth := k0m0) (c := k0c0) (by decide +kernel) rfl rfl rfl (by decide +kernel)
set_option maxRecDepth 65536 in
theorem w_c4 : (Jvm.Cond.code ({ cls := "java/lang/StringUTF16", name := "compress", desc := "([CII)[B" } : Jvm.MethodName) jdk_52_method_16_code (6 : Nat) (Option.some (Jvm.ClassFile.FieldType.array Jvm.ClassFile.FieldType.byte))).before args0 about1 = true := code_word (m := ⟨8, 8⟩) (meth := k8m8) (c := k8c8) (by decide +kernel) rfl rfl rfl (by decide +kernel)
set_option maxRecDepth 65536 in
theorem w_c5 : (Jvm.Cond.code ({ cls := "java/lang/StringUTF16", name := "compress", desc := "([CI[BII)I" } : Jvm.MethodName) jdk_52_method_21_code (7 : Nat) (Option.some Jvm.ClassFile.FieldType.int)).before args0 about1 = true := code_word (m := ⟨8, 9⟩) (meth := k8m9) (c := k8c9) (by decide +kernel) rfl rfl rfl (by decide +kernel)
set_option maxRecDepth 65536 in
theorem w_c6 : (Jvm.Cond.code ({ cls := "java/lang/StringUTF16", name := "coderFromArrayLen", desc := "([BI)B" } : Jvm.MethodName) jdk_52_method_15_code (2 : Nat) (Option.some Jvm.ClassFile.FieldType.byte)).before args0 about1 = true := code_word (m := ⟨8, 7⟩) (meth := k8m7) (c := k8c7) (by decide +kernel) rfl rfl rfl (by decide +kernel)
set_option maxRecDepth 65536 in
theorem w_c7 : (Jvm.Cond.code ({ cls := "com/example/umweg/umweg/redis/Replies", name := "text", desc := "(Ljava/lang/Object;)Ljava/lang/String;" } : Jvm.MethodName) prog_20_method_4_code (1 : Nat) (Option.some (Jvm.ClassFile.FieldType.object "java/lang/String"))).before args0 about1 = true := code_word (m := ⟨9, 1⟩) (meth := k9m1) (c := k9c1) (by decide +kernel) rfl rfl rfl (by decide +kernel)
set_option maxRecDepth 65536 in
theorem w_c8 : (Jvm.Cond.code ({ cls := "java/lang/String", name := "<init>", desc := "([BLjava/nio/charset/Charset;)V" } : Jvm.MethodName) jdk_42_method_49_code (3 : Nat) (Option.none : Option Jvm.ClassFile.FieldType)).before args0 about1 = true := code_word (m := ⟨7, 10⟩) (meth := k7m10) (c := k7c10) (by decide +kernel) rfl rfl rfl (by decide +kernel)
set_option maxRecDepth 65536 in
theorem w_c9 : (Jvm.Cond.code ({ cls := "java/util/Objects", name := "requireNonNull", desc := "(Ljava/lang/Object;)Ljava/lang/Object;" } : Jvm.MethodName) jdk_31_method_10_code (1 : Nat) (Option.some (Jvm.ClassFile.FieldType.object "java/lang/Object"))).before args0 about1 = true := code_word (m := ⟨11, 1⟩) (meth := k11m1) (c := k11c1) (by decide +kernel) rfl rfl rfl (by decide +kernel)
set_option maxRecDepth 65536 in
theorem w_c10 : (Jvm.Cond.code ({ cls := "java/lang/StringCoding", name := "countPositives", desc := "([BII)I" } : Jvm.MethodName) jdk_123_method_3_code (5 : Nat) (Option.some Jvm.ClassFile.FieldType.int)).before args0 about1 = true := code_word (m := ⟨16, 1⟩) (meth := k16m1) (c := k16c1) (by decide +kernel) rfl rfl rfl (by decide +kernel)
set_option maxRecDepth 65536 in
theorem w_c11 : (Jvm.Cond.code ({ cls := "java/util/Arrays", name := "copyOfRange", desc := "([BII)[B" } : Jvm.MethodName) jdk_65_method_132_code (3 : Nat) (Option.some (Jvm.ClassFile.FieldType.array Jvm.ClassFile.FieldType.byte))).before args0 about1 = true := code_word (m := ⟨17, 2⟩) (meth := k17m2) (c := k17c2) (by decide +kernel) rfl rfl rfl (by decide +kernel)
set_option maxRecDepth 65536 in
theorem w_c12 : (Jvm.Cond.code ({ cls := "java/lang/String", name := "equals", desc := "(Ljava/lang/Object;)Z" } : Jvm.MethodName) jdk_42_method_66_code (3 : Nat) (Option.some Jvm.ClassFile.FieldType.boolean)).before args0 about1 = true := code_word (m := ⟨7, 11⟩) (meth := k7m11) (c := k7c11) (by decide +kernel) rfl rfl rfl (by decide +kernel)
set_option maxRecDepth 65536 in
theorem w_c13 : (Jvm.Cond.code ({ cls := "java/lang/StringLatin1", name := "equals", desc := "([B[B)Z" } : Jvm.MethodName) jdk_43_method_13_code (3 : Nat) (Option.some Jvm.ClassFile.FieldType.boolean)).before args0 about1 = true := code_word (m := ⟨19, 1⟩) (meth := k19m1) (c := k19c1) (by decide +kernel) rfl rfl rfl (by decide +kernel)
set_option maxRecDepth 65536 in
theorem w_c14 : (Jvm.Cond.code ({ cls := "java/lang/String", name := "decode2", desc := "(II)C" } : Jvm.MethodName) jdk_42_method_35_code (2 : Nat) (Option.some Jvm.ClassFile.FieldType.char)).before args0 about1 = true := code_word (m := ⟨7, 6⟩) (meth := k7m6) (c := k7c6) (by decide +kernel) rfl rfl rfl (by decide +kernel)
set_option maxRecDepth 65536 in
theorem w_c15 : (Jvm.Cond.code ({ cls := "java/util/Arrays", name := "copyOf", desc := "([BI)[B" } : Jvm.MethodName) jdk_65_method_121_code (3 : Nat) (Option.some (Jvm.ClassFile.FieldType.array Jvm.ClassFile.FieldType.byte))).before args0 about1 = true := code_word (m := ⟨17, 1⟩) (meth := k17m1) (c := k17c1) (by decide +kernel) rfl rfl rfl (by decide +kernel)
set_option maxRecDepth 65536 in
theorem w_c16 : (Jvm.Cond.code ({ cls := "java/lang/Math", name := "min", desc := "(II)I" } : Jvm.MethodName) jdk_29_method_69_code (2 : Nat) (Option.some Jvm.ClassFile.FieldType.int)).before args0 about1 = true := code_word (m := ⟨20, 1⟩) (meth := k20m1) (c := k20c1) (by decide +kernel) rfl rfl rfl (by decide +kernel)
set_option maxRecDepth 65536 in
theorem w_c17 : (Jvm.Cond.code ({ cls := "java/lang/StringUTF16", name := "toBytes", desc := "([CII)[B" } : Jvm.MethodName) jdk_52_method_14_code (5 : Nat) (Option.some (Jvm.ClassFile.FieldType.array Jvm.ClassFile.FieldType.byte))).before args0 about1 = true := code_word (m := ⟨8, 6⟩) (meth := k8m6) (c := k8c6) (by decide +kernel) rfl rfl rfl (by decide +kernel)
set_option maxRecDepth 65536 in
theorem w_c18 : (Jvm.Cond.code ({ cls := "java/lang/StringUTF16", name := "newBytesFor", desc := "(I)[B" } : Jvm.MethodName) jdk_52_method_2_code (1 : Nat) (Option.some (Jvm.ClassFile.FieldType.array Jvm.ClassFile.FieldType.byte))).before args0 about1 = true := code_word (m := ⟨8, 1⟩) (meth := k8m1) (c := k8c1) (by decide +kernel) rfl rfl rfl (by decide +kernel)
set_option maxRecDepth 65536 in
theorem w_c19 : (Jvm.Cond.code ({ cls := "java/lang/StringUTF16", name := "newBytesLength", desc := "(I)I" } : Jvm.MethodName) jdk_52_method_3_code (1 : Nat) (Option.some Jvm.ClassFile.FieldType.int)).before args0 about1 = true := code_word (m := ⟨8, 2⟩) (meth := k8m2) (c := k8c2) (by decide +kernel) rfl rfl rfl (by decide +kernel)
set_option maxRecDepth 65536 in
theorem w_c20 : (Jvm.Cond.code ({ cls := "java/lang/StringUTF16", name := "putChar", desc := "([BII)V" } : Jvm.MethodName) jdk_52_method_4_code (3 : Nat) (Option.none : Option Jvm.ClassFile.FieldType)).before args0 about1 = true := code_word (m := ⟨8, 3⟩) (meth := k8m3) (c := k8c3) (by decide +kernel) rfl rfl rfl (by decide +kernel)
set_option maxRecDepth 65536 in
theorem w_c21 : (Jvm.Cond.code ({ cls := "java/lang/StringUTF16", name := "getChar", desc := "([BI)C" } : Jvm.MethodName) jdk_52_method_5_code (2 : Nat) (Option.some Jvm.ClassFile.FieldType.char)).before args0 about1 = true := code_word (m := ⟨8, 4⟩) (meth := k8m4) (c := k8c4) (by decide +kernel) rfl rfl rfl (by decide +kernel)
set_option maxRecDepth 65536 in
theorem w_c22 : (Jvm.Cond.code ({ cls := "java/lang/StringLatin1", name := "inflate", desc := "([BI[BII)V" } : Jvm.MethodName) jdk_43_method_50_code (5 : Nat) (Option.none : Option Jvm.ClassFile.FieldType)).before args0 about1 = true := code_word (m := ⟨19, 2⟩) (meth := k19m2) (c := k19c2) (by decide +kernel) rfl rfl rfl (by decide +kernel)
set_option maxRecDepth 65536 in
theorem w_c23 : (Jvm.Cond.code ({ cls := "java/lang/StringUTF16", name := "inflate", desc := "([BI[BII)V" } : Jvm.MethodName) jdk_52_method_86_code (6 : Nat) (Option.none : Option Jvm.ClassFile.FieldType)).before args0 about1 = true := code_word (m := ⟨8, 10⟩) (meth := k8m10) (c := k8c10) (by decide +kernel) rfl rfl rfl (by decide +kernel)
set_option maxRecDepth 65536 in
theorem w_c24 : (Jvm.Cond.code ({ cls := "java/lang/StringUTF16", name := "checkBoundsOffCount", desc := "(II[B)V" } : Jvm.MethodName) jdk_52_method_94_code (3 : Nat) (Option.none : Option Jvm.ClassFile.FieldType)).before args0 about1 = true := code_word (m := ⟨8, 11⟩) (meth := k8m11) (c := k8c11) (by decide +kernel) rfl rfl rfl (by decide +kernel)
set_option maxRecDepth 65536 in
theorem w_c25 : (Jvm.Cond.code ({ cls := "java/lang/StringUTF16", name := "length", desc := "([B)I" } : Jvm.MethodName) jdk_52_method_6_code (1 : Nat) (Option.some Jvm.ClassFile.FieldType.int)).before args0 about1 = true := code_word (m := ⟨8, 5⟩) (meth := k8m5) (c := k8c5) (by decide +kernel) rfl rfl rfl (by decide +kernel)
set_option maxRecDepth 65536 in
theorem w_c26 : (Jvm.Cond.code ({ cls := "java/lang/String", name := "checkBoundsOffCount", desc := "(III)I" } : Jvm.MethodName) jdk_42_method_157_code (3 : Nat) (Option.some Jvm.ClassFile.FieldType.int)).before args0 about1 = true := code_word (m := ⟨7, 13⟩) (meth := k7m13) (c := k7c13) (by decide +kernel) rfl rfl rfl (by decide +kernel)
set_option maxRecDepth 65536 in
theorem w_c27 : (Jvm.Cond.code ({ cls := "jdk/internal/util/Preconditions", name := "checkFromIndexSize", desc := "(IIILjava/util/function/BiFunction;)I" } : Jvm.MethodName) jdk_41_method_13_code (4 : Nat) (Option.some Jvm.ClassFile.FieldType.int)).before args0 about1 = true := code_word (m := ⟨22, 1⟩) (meth := k22m1) (c := k22c1) (by decide +kernel) rfl rfl rfl (by decide +kernel)
set_option maxRecDepth 65536 in
theorem w_c28 : (Jvm.Cond.code ({ cls := "java/lang/String", name := "decodeUTF8_UTF16", desc := "([BII[BIZ)I" } : Jvm.MethodName) jdk_42_method_38_code (11 : Nat) (Option.some Jvm.ClassFile.FieldType.int)).before args0 about1 = true := code_word (m := ⟨7, 9⟩) (meth := k7m9) (c := k7c9) (by decide +kernel) rfl rfl rfl (by decide +kernel)
set_option maxRecDepth 65536 in
theorem w_c29 : (Jvm.Cond.code ({ cls := "java/lang/String", name := "decode4", desc := "(IIII)I" } : Jvm.MethodName) jdk_42_method_37_code (4 : Nat) (Option.some Jvm.ClassFile.FieldType.int)).before args0 about1 = true := code_word (m := ⟨7, 8⟩) (meth := k7m8) (c := k7c8) (by decide +kernel) rfl rfl rfl (by decide +kernel)
set_option maxRecDepth 65536 in
theorem w_c30 : (Jvm.Cond.code ({ cls := "java/lang/String", name := "isMalformed4", desc := "(III)Z" } : Jvm.MethodName) jdk_42_method_32_code (3 : Nat) (Option.some Jvm.ClassFile.FieldType.boolean)).before args0 about1 = true := code_word (m := ⟨7, 5⟩) (meth := k7m5) (c := k7c5) (by decide +kernel) rfl rfl rfl (by decide +kernel)
set_option maxRecDepth 65536 in
theorem w_c31 : (Jvm.Cond.code ({ cls := "java/lang/Character", name := "isSupplementaryCodePoint", desc := "(I)Z" } : Jvm.MethodName) jdk_89_method_13_code (1 : Nat) (Option.some Jvm.ClassFile.FieldType.boolean)).before args0 about1 = true := code_word (m := ⟨23, 0⟩) (meth := k23m0) (c := k23c0) (by decide +kernel) rfl rfl rfl (by decide +kernel)
set_option maxRecDepth 65536 in
theorem w_c32 : (Jvm.Cond.code ({ cls := "java/lang/Character", name := "highSurrogate", desc := "(I)C" } : Jvm.MethodName) jdk_89_method_28_code (1 : Nat) (Option.some Jvm.ClassFile.FieldType.char)).before args0 about1 = true := code_word (m := ⟨23, 2⟩) (meth := k23m2) (c := k23c2) (by decide +kernel) rfl rfl rfl (by decide +kernel)
set_option maxRecDepth 65536 in
theorem w_c33 : (Jvm.Cond.code ({ cls := "java/lang/Character", name := "lowSurrogate", desc := "(I)C" } : Jvm.MethodName) jdk_89_method_29_code (1 : Nat) (Option.some Jvm.ClassFile.FieldType.char)).before args0 about1 = true := code_word (m := ⟨23, 3⟩) (meth := k23m3) (c := k23c3) (by decide +kernel) rfl rfl rfl (by decide +kernel)
set_option maxRecDepth 65536 in
theorem w_c34 : (Jvm.Cond.code ({ cls := "java/lang/String", name := "isNotContinuation", desc := "(I)Z" } : Jvm.MethodName) jdk_42_method_29_code (1 : Nat) (Option.some Jvm.ClassFile.FieldType.boolean)).before args0 about1 = true := code_word (m := ⟨7, 3⟩) (meth := k7m3) (c := k7c3) (by decide +kernel) rfl rfl rfl (by decide +kernel)
set_option maxRecDepth 65536 in
theorem w_c35 : (Jvm.Cond.code ({ cls := "java/lang/String", name := "isMalformed3", desc := "(III)Z" } : Jvm.MethodName) jdk_42_method_30_code (3 : Nat) (Option.some Jvm.ClassFile.FieldType.boolean)).before args0 about1 = true := code_word (m := ⟨7, 4⟩) (meth := k7m4) (c := k7c4) (by decide +kernel) rfl rfl rfl (by decide +kernel)
set_option maxRecDepth 65536 in
theorem w_c36 : (Jvm.Cond.code ({ cls := "java/lang/String", name := "decode3", desc := "(III)C" } : Jvm.MethodName) jdk_42_method_36_code (3 : Nat) (Option.some Jvm.ClassFile.FieldType.char)).before args0 about1 = true := code_word (m := ⟨7, 7⟩) (meth := k7m7) (c := k7c7) (by decide +kernel) rfl rfl rfl (by decide +kernel)
set_option maxRecDepth 65536 in
theorem w_c37 : (Jvm.Cond.code ({ cls := "java/lang/Character", name := "isSurrogate", desc := "(C)Z" } : Jvm.MethodName) jdk_89_method_16_code (1 : Nat) (Option.some Jvm.ClassFile.FieldType.boolean)).before args0 about1 = true := code_word (m := ⟨23, 1⟩) (meth := k23m1) (c := k23c1) (by decide +kernel) rfl rfl rfl (by decide +kernel)
def codes1 : List Jvm.Cond := [Jvm.Cond.code x code maxLocals ret, Jvm.Cond.code ({ cls := "java/lang/String", name := "<init>", desc := "([C)V" } : Jvm.MethodName) jdk_42_method_3_code (2 : Nat) (Option.none : Option Jvm.ClassFile.FieldType), Jvm.Cond.code ({ cls := "java/lang/String", name := "<init>", desc := "([CIILjava/lang/Void;)V" } : Jvm.MethodName) jdk_42_method_149_code (6 : Nat) (Option.none : Option Jvm.ClassFile.FieldType), Jvm.Cond.code ({ cls := "java/lang/Object", name := "<init>", desc := "()V" } : Jvm.MethodName) object_method_1_code (1 : Nat) (Option.none : Option Jvm.ClassFile.FieldType), Jvm.Cond.code ({ cls := "java/lang/StringUTF16", name := "compress", desc := "([CII)[B" } : Jvm.MethodName) jdk_52_method_16_code (6 : Nat) (Option.some (Jvm.ClassFile.FieldType.array Jvm.ClassFile.FieldType.byte)), Jvm.Cond.code ({ cls := "java/lang/StringUTF16", name := "compress", desc := "([CI[BII)I" } : Jvm.MethodName) jdk_52_method_21_code (7 : Nat) (Option.some Jvm.ClassFile.FieldType.int), Jvm.Cond.code ({ cls := "java/lang/StringUTF16", name := "coderFromArrayLen", desc := "([BI)B" } : Jvm.MethodName) jdk_52_method_15_code (2 : Nat) (Option.some Jvm.ClassFile.FieldType.byte), Jvm.Cond.code ({ cls := "com/example/umweg/umweg/redis/Replies", name := "text", desc := "(Ljava/lang/Object;)Ljava/lang/String;" } : Jvm.MethodName) prog_20_method_4_code (1 : Nat) (Option.some (Jvm.ClassFile.FieldType.object "java/lang/String")), Jvm.Cond.code ({ cls := "java/lang/String", name := "<init>", desc := "([BLjava/nio/charset/Charset;)V" } : Jvm.MethodName) jdk_42_method_49_code (3 : Nat) (Option.none : Option Jvm.ClassFile.FieldType), Jvm.Cond.code ({ cls := "java/util/Objects", name := "requireNonNull", desc := "(Ljava/lang/Object;)Ljava/lang/Object;" } : Jvm.MethodName) jdk_31_method_10_code (1 : Nat) (Option.some (Jvm.ClassFile.FieldType.object "java/lang/Object")), Jvm.Cond.code ({ cls := "java/lang/StringCoding", name := "countPositives", desc := "([BII)I" } : Jvm.MethodName) jdk_123_method_3_code (5 : Nat) (Option.some Jvm.ClassFile.FieldType.int), Jvm.Cond.code ({ cls := "java/util/Arrays", name := "copyOfRange", desc := "([BII)[B" } : Jvm.MethodName) jdk_65_method_132_code (3 : Nat) (Option.some (Jvm.ClassFile.FieldType.array Jvm.ClassFile.FieldType.byte)), Jvm.Cond.code ({ cls := "java/lang/String", name := "equals", desc := "(Ljava/lang/Object;)Z" } : Jvm.MethodName) jdk_42_method_66_code (3 : Nat) (Option.some Jvm.ClassFile.FieldType.boolean), Jvm.Cond.code ({ cls := "java/lang/StringLatin1", name := "equals", desc := "([B[B)Z" } : Jvm.MethodName) jdk_43_method_13_code (3 : Nat) (Option.some Jvm.ClassFile.FieldType.boolean), Jvm.Cond.code ({ cls := "java/lang/String", name := "decode2", desc := "(II)C" } : Jvm.MethodName) jdk_42_method_35_code (2 : Nat) (Option.some Jvm.ClassFile.FieldType.char), Jvm.Cond.code ({ cls := "java/util/Arrays", name := "copyOf", desc := "([BI)[B" } : Jvm.MethodName) jdk_65_method_121_code (3 : Nat) (Option.some (Jvm.ClassFile.FieldType.array Jvm.ClassFile.FieldType.byte)), Jvm.Cond.code ({ cls := "java/lang/Math", name := "min", desc := "(II)I" } : Jvm.MethodName) jdk_29_method_69_code (2 : Nat) (Option.some Jvm.ClassFile.FieldType.int), Jvm.Cond.code ({ cls := "java/lang/StringUTF16", name := "toBytes", desc := "([CII)[B" } : Jvm.MethodName) jdk_52_method_14_code (5 : Nat) (Option.some (Jvm.ClassFile.FieldType.array Jvm.ClassFile.FieldType.byte)), Jvm.Cond.code ({ cls := "java/lang/StringUTF16", name := "newBytesFor", desc := "(I)[B" } : Jvm.MethodName) jdk_52_method_2_code (1 : Nat) (Option.some (Jvm.ClassFile.FieldType.array Jvm.ClassFile.FieldType.byte)), Jvm.Cond.code ({ cls := "java/lang/StringUTF16", name := "newBytesLength", desc := "(I)I" } : Jvm.MethodName) jdk_52_method_3_code (1 : Nat) (Option.some Jvm.ClassFile.FieldType.int), Jvm.Cond.code ({ cls := "java/lang/StringUTF16", name := "putChar", desc := "([BII)V" } : Jvm.MethodName) jdk_52_method_4_code (3 : Nat) (Option.none : Option Jvm.ClassFile.FieldType), Jvm.Cond.code ({ cls := "java/lang/StringUTF16", name := "getChar", desc := "([BI)C" } : Jvm.MethodName) jdk_52_method_5_code (2 : Nat) (Option.some Jvm.ClassFile.FieldType.char), Jvm.Cond.code ({ cls := "java/lang/StringLatin1", name := "inflate", desc := "([BI[BII)V" } : Jvm.MethodName) jdk_43_method_50_code (5 : Nat) (Option.none : Option Jvm.ClassFile.FieldType), Jvm.Cond.code ({ cls := "java/lang/StringUTF16", name := "inflate", desc := "([BI[BII)V" } : Jvm.MethodName) jdk_52_method_86_code (6 : Nat) (Option.none : Option Jvm.ClassFile.FieldType), Jvm.Cond.code ({ cls := "java/lang/StringUTF16", name := "checkBoundsOffCount", desc := "(II[B)V" } : Jvm.MethodName) jdk_52_method_94_code (3 : Nat) (Option.none : Option Jvm.ClassFile.FieldType), Jvm.Cond.code ({ cls := "java/lang/StringUTF16", name := "length", desc := "([B)I" } : Jvm.MethodName) jdk_52_method_6_code (1 : Nat) (Option.some Jvm.ClassFile.FieldType.int), Jvm.Cond.code ({ cls := "java/lang/String", name := "checkBoundsOffCount", desc := "(III)I" } : Jvm.MethodName) jdk_42_method_157_code (3 : Nat) (Option.some Jvm.ClassFile.FieldType.int), Jvm.Cond.code ({ cls := "jdk/internal/util/Preconditions", name := "checkFromIndexSize", desc := "(IIILjava/util/function/BiFunction;)I" } : Jvm.MethodName) jdk_41_method_13_code (4 : Nat) (Option.some Jvm.ClassFile.FieldType.int), Jvm.Cond.code ({ cls := "java/lang/String", name := "decodeUTF8_UTF16", desc := "([BII[BIZ)I" } : Jvm.MethodName) jdk_42_method_38_code (11 : Nat) (Option.some Jvm.ClassFile.FieldType.int), Jvm.Cond.code ({ cls := "java/lang/String", name := "decode4", desc := "(IIII)I" } : Jvm.MethodName) jdk_42_method_37_code (4 : Nat) (Option.some Jvm.ClassFile.FieldType.int), Jvm.Cond.code ({ cls := "java/lang/String", name := "isMalformed4", desc := "(III)Z" } : Jvm.MethodName) jdk_42_method_32_code (3 : Nat) (Option.some Jvm.ClassFile.FieldType.boolean), Jvm.Cond.code ({ cls := "java/lang/Character", name := "isSupplementaryCodePoint", desc := "(I)Z" } : Jvm.MethodName) jdk_89_method_13_code (1 : Nat) (Option.some Jvm.ClassFile.FieldType.boolean), Jvm.Cond.code ({ cls := "java/lang/Character", name := "highSurrogate", desc := "(I)C" } : Jvm.MethodName) jdk_89_method_28_code (1 : Nat) (Option.some Jvm.ClassFile.FieldType.char), Jvm.Cond.code ({ cls := "java/lang/Character", name := "lowSurrogate", desc := "(I)C" } : Jvm.MethodName) jdk_89_method_29_code (1 : Nat) (Option.some Jvm.ClassFile.FieldType.char), Jvm.Cond.code ({ cls := "java/lang/String", name := "isNotContinuation", desc := "(I)Z" } : Jvm.MethodName) jdk_42_method_29_code (1 : Nat) (Option.some Jvm.ClassFile.FieldType.boolean), Jvm.Cond.code ({ cls := "java/lang/String", name := "isMalformed3", desc := "(III)Z" } : Jvm.MethodName) jdk_42_method_30_code (3 : Nat) (Option.some Jvm.ClassFile.FieldType.boolean), Jvm.Cond.code ({ cls := "java/lang/String", name := "decode3", desc := "(III)C" } : Jvm.MethodName) jdk_42_method_36_code (3 : Nat) (Option.some Jvm.ClassFile.FieldType.char), Jvm.Cond.code ({ cls := "java/lang/Character", name := "isSurrogate", desc := "(C)Z" } : Jvm.MethodName) jdk_89_method_16_code (1 : Nat) (Option.some Jvm.ClassFile.FieldType.boolean)]
set_option maxRecDepth 65536 in
theorem codes_eq : words1.filter isCode = codes1 := rfl
theorem w_codes : ∀ c ∈ words1.filter isCode, c.before args0 about1 = true := by
  rw [codes_eq]
  intro c hc
  simp only [codes1, List.mem_cons, List.not_mem_nil, or_false] at hc
  rcases hc with rfl | rfl | rfl | rfl | rfl | rfl | rfl | rfl | rfl | rfl | rfl | rfl | rfl | rfl | rfl | rfl | rfl | rfl | rfl | rfl | rfl | rfl | rfl | rfl | rfl | rfl | rfl | rfl | rfl | rfl | rfl | rfl | rfl | rfl | rfl | rfl | rfl | rfl
  · exact w_c0
  · exact w_c1
  · exact w_c2
  · exact w_c3
  · exact w_c4
  · exact w_c5
  · exact w_c6
  · exact w_c7
  · exact w_c8
  · exact w_c9
  · exact w_c10
  · exact w_c11
  · exact w_c12
  · exact w_c13
  · exact w_c14
  · exact w_c15
  · exact w_c16
  · exact w_c17
  · exact w_c18
  · exact w_c19
  · exact w_c20
  · exact w_c21
  · exact w_c22
  · exact w_c23
  · exact w_c24
  · exact w_c25
  · exact w_c26
  · exact w_c27
  · exact w_c28
  · exact w_c29
  · exact w_c30
  · exact w_c31
  · exact w_c32
  · exact w_c33
  · exact w_c34
  · exact w_c35
  · exact w_c36
  · exact w_c37
set_option maxRecDepth 65536 in
theorem w_t1 : (words1.take 24).all (fun c => isCode c || c.before args0 about1) = true := by decide +kernel
set_option maxRecDepth 65536 in
theorem w_t2 : ((words1.drop 24).take 24).all (fun c => isCode c || c.before args0 about1) = true := by decide +kernel
theorem own_cw {y : MethodName} {bytes : ByteArray} {mx : Nat} {rt : Option FieldType} {hs : List (Nat × Nat × Nat × Nat)} {a : Array Value} {s : State} {m : MethodId} {meth : Method} {c : Code} (h1 : s.methodNamed? y = some m) (h2 : s.vm.method? m = some meth) (h3 : meth.code = some c) (h4 : c.code = bytes)
    (h5 : (c.maxLocals == mx && decide (c.exceptionTable.toList.map (fun h => (h.startPc, h.endPc, h.handlerPc, h.catchType)) = hs) && decide (c.maxStack ≤ mostOperands) && decide (meth.sig.returnType = rt) && !meth.locks && decide (parseMethodDescriptor y.desc = some meth.sig)) = true) : (Jvm.Cond.codeWith y bytes mx rt hs).before a s = true := by
  simp only [Bool.and_eq_true, beq_iff_eq, Bool.not_eq_true', decide_eq_true_eq] at h5
  obtain ⟨⟨⟨⟨⟨g1, g2⟩, g3⟩, g4⟩, g5⟩, g6⟩ := h5
  simp [Cond.before, Cond.holds, Cond.value, h1, h2, h3, h4, g1, g2, g3, g4, g5, g6]
theorem own_all (L : List Jvm.Cond) (g : Jvm.Cond → Bool) (n k : Nat) (h1 : (L.take n).all g = true) (h2 : ((L.drop n).take k).all g = true) : (L.take (n + k)).all g = true := by
  rw [List.take_add, List.all_append, h1, h2]; rfl
set_option maxRecDepth 65536 in
theorem w_cw : (Jvm.Cond.codeWith ({ cls := "java/lang/String", name := "<init>", desc := "(Ljava/nio/charset/Charset;[BII)V" } : Jvm.MethodName) jdk_42_method_11_code 11 (Option.none : Option Jvm.ClassFile.FieldType) [(800, 813, 816, 202)]).before args0 about1 = true := own_cw (m := ⟨7, 2⟩) (meth := k7m2) (c := k7c2) (by decide +kernel) rfl rfl rfl (by decide +kernel)
set_option maxRecDepth 65536 in
theorem w_ua : ((words1.drop 48).take 4).all (fun c => isCode c || c.before args0 about1) = true := by decide +kernel
theorem w_ub : ((words1.drop 52).take 1).all (fun c => isCode c || c.before args0 about1) = true := by
  show ([(Jvm.Cond.codeWith ({ cls := "java/lang/String", name := "<init>", desc := "(Ljava/nio/charset/Charset;[BII)V" } : Jvm.MethodName) jdk_42_method_11_code 11 (Option.none : Option Jvm.ClassFile.FieldType) [(800, 813, 816, 202)])] : List Jvm.Cond).all (fun c => isCode c || c.before args0 about1) = true
  rw [List.all_cons, List.all_nil, w_cw, Bool.or_true]; rfl
set_option maxRecDepth 65536 in
theorem w_uc : ((words1.drop 53).take 19).all (fun c => isCode c || c.before args0 about1) = true := by decide +kernel
theorem w_t3 : (((words1.drop 24).drop 24).take 24).all (fun c => isCode c || c.before args0 about1) = true := by
  have h := own_all (words1.drop 48) (fun c => isCode c || c.before args0 about1) 4 20 w_ua (by rw [List.drop_drop]; exact own_all (words1.drop 52) (fun c => isCode c || c.before args0 about1) 1 19 w_ub (by rw [List.drop_drop]; exact w_uc))
  simpa only [List.drop_drop] using h
set_option maxRecDepth 65536 in
theorem w_t4 : ((((words1.drop 24).drop 24).drop 24).take 24).all (fun c => isCode c || c.before args0 about1) = true := by decide +kernel
set_option maxRecDepth 65536 in
theorem w_t5 : (((((words1.drop 24).drop 24).drop 24).drop 24).take 24).all (fun c => isCode c || c.before args0 about1) = true := by decide +kernel
set_option maxRecDepth 65536 in
theorem w_t6 : ((((((words1.drop 24).drop 24).drop 24).drop 24).drop 24).take 24).all (fun c => isCode c || c.before args0 about1) = true := by decide +kernel
set_option maxRecDepth 65536 in
theorem w_t7 : (((((((words1.drop 24).drop 24).drop 24).drop 24).drop 24).drop 24).take 24).all (fun c => isCode c || c.before args0 about1) = true := by decide +kernel
set_option maxRecDepth 65536 in
theorem w_t8 : (((((((words1.drop 24).drop 24).drop 24).drop 24).drop 24).drop 24).drop 24).all (fun c => isCode c || c.before args0 about1) = true := by decide +kernel
theorem w_tables : (allAtoms (Jvm.Cond.code x code maxLocals ret :: tables_1)).before args0 about1 = true := by
  rw [allAtoms_all]
  show words1.all (fun c => c.before args0 about1) = true
  refine all_split ?_ w_codes
  rw [← List.take_append_drop 24 words1, List.all_append, w_t1, ← List.take_append_drop 24 (words1.drop 24), List.all_append, w_t2, ← List.take_append_drop 24 ((words1.drop 24).drop 24), List.all_append, w_t3, ← List.take_append_drop 24 (((words1.drop 24).drop 24).drop 24), List.all_append, w_t4, ← List.take_append_drop 24 ((((words1.drop 24).drop 24).drop 24).drop 24), List.all_append, w_t5, ← List.take_append_drop 24 (((((words1.drop 24).drop 24).drop 24).drop 24).drop 24), List.all_append, w_t6, ← List.take_append_drop 24 ((((((words1.drop 24).drop 24).drop 24).drop 24).drop 24).drop 24), List.all_append, w_t7, w_t8]
  rfl
set_option maxRecDepth 65536 in
theorem w_rest : rest_1_c.before args0 about1 = true := by decide +kernel
set_option maxRecDepth 65536 in
theorem w_case : (Jvm.Cond.and given_1 narrow_1).before args0 about1 = true := by decide +kernel
theorem w_applies : (headSpec (Jvm.Cond.code x code maxLocals ret :: tables_1) room_1).applies x e0.platform about1 = true :=
  (Spec.applies_iff w_frames).mpr ⟨w_running, w_runnable, w_alone, w_named, w_hears, w_ripe, w_room, w_tables⟩
theorem atStart : AtStart classFile x code maxLocals ret World_1 tables_1 room_1 Calls_1 rest_1 Pre_1 launch0 p0 e0 about1 theMethod args0 below0 :=
  ⟨lists_1, trivial, launch0.admits_env _ _ _, launch0.least_env, fairChoices_fair.cas, fairChoices_fair.clock, w_frames, w_args, w_heap, w_applies, trivial, w_rest, w_case⟩
end start1
theorem witness_1 : WitnessClaimed_1 := ⟨start1.p0, start1.e0, start1.about1, start1.theMethod, start1.args0, start1.below0, start1.atStart⟩
end Jvm.Pilot.@@N@@
