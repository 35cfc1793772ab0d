import JvmDerived
import JvmDerived.Pilot.@@N@@Statement
import JvmDerived.Pilot.@@N@@Code
set_option linter.unusedVariables false
set_option linter.unusedSimpArgs false
namespace Jvm.Ow
open Sem ClassFile Op Lib Jvm.Stand Jvm.Free Jvm.LawKit Jvm.RoadKit
/-- what one invocation runs over -/
abbrev Cx : Type := Program × Launch × Env × State × MethodId × Array Value × List Frame × Method × Code × State
def Cx.p (x : Cx) : Program := x.1
def Cx.l (x : Cx) : Launch := x.2.1
def Cx.e (x : Cx) : Env := x.2.2.1
def Cx.s (x : Cx) : State := x.2.2.2.1
def Cx.m (x : Cx) : MethodId := x.2.2.2.2.1
def Cx.args (x : Cx) : Array Value := x.2.2.2.2.2.1
def Cx.below (x : Cx) : List Frame := x.2.2.2.2.2.2.1
def Cx.meth (x : Cx) : Method := x.2.2.2.2.2.2.2.1
def Cx.c (x : Cx) : Code := x.2.2.2.2.2.2.2.2.1
/-- the true start: x.s is it with another table -/
def Cx.o (x : Cx) : State := x.2.2.2.2.2.2.2.2.2
def Cx.reb (x : Cx) (vm : Vm) : Cx := (x.p, x.l, x.e, x.o.setVm vm, x.m, x.args, x.below, x.meth, x.c, x.o)
def Sn (x : Cx) (h : Heap) : Prop := ∃ (vm0 : Vm) (k0 : Nat), x.s = x.o.setVm vm0 ∧ x.o.Since vm0 k0 ∧ k0 ≤ h.size
theorem Sn.mono {x : Cx} {h h' : Heap} (S : Sn x h) (q : h.size ≤ h'.size) : Sn x h' := by obtain ⟨a, b, c, d, e⟩ := S; exact ⟨a, b, c, d, Nat.le_trans e q⟩
/-- a body: its name, bytes, max_locals, return type, room, and the table words of the case -/
abbrev Bd : Type := MethodName × ByteArray × Nat × Option FieldType × Room × List Cond
abbrev Bd.y (b : Bd) : MethodName := b.1
abbrev Bd.by (b : Bd) : ByteArray := b.2.1
abbrev Bd.ml (b : Bd) : Nat := b.2.2.1
abbrev Bd.rt (b : Bd) : Option FieldType := b.2.2.2.1
abbrev Bd.R (b : Bd) : Room := b.2.2.2.2.1
abbrev Bd.tb (b : Bd) : List Cond := b.2.2.2.2.2
def Wd (Z : State) (tb : List Cond) : Prop := ∃ a0 : Array Value, ∀ d ∈ tb, d.before a0 Z = true
def En (CC : Cx → Prop) (Z : State) (x : Cx) (B : Bd) : Prop := x.p.tables.exec = Jvm.exec ∧ x.c.code = B.by ∧ x.c.maxLocals = B.ml ∧ x.s.vm.findClass B.y.cls = some x.m.cls ∧ x.meth.name = B.y.name ∧ x.meth.sig.returnType = B.rt ∧ Z.Warmed39 x.s.vm ∧ x.meth.locks = false ∧ Wd Z B.tb ∧ CC x
/-- the invocation stands at T, whose heap is h; k cells and n slots were made; nothing of the start's heap was written -/
def Sp (CC : Cx → Prop) (LL : List Loc → Prop) (Z : State) (x : Cx) (B : Bd) (T : State) (k n : Nat) (h : Heap) : Prop := En CC Z x B ∧ (Ext Z.heap h ∧ Sn x h) ∧ ∃ locs, Stand x.p x.l x.e B.R x.s x.m x.args x.below x.meth x.c T locs k n ∧ T.heap = h ∧ Fr Z.heap.size locs ∧ LL locs
/-- from T with this frame the invocation ends as Q says -/
def Rn (Q : Option Value → Heap → Prop) (Z : State) (x : Cx) (B : Bd) (T : State) (pc : Nat) (Ls : Array Slot) (st : List Value) : Prop :=
  ∃ t o, Steps x.p.tables x.e x.below (T.setTop (mkF x.m pc Ls st)) t ∧ t.status = .running ∧ Ended t x.below o ∧ ∃ v L, o = .returned v ∧ (Q v t.heap ∧ Ext Z.heap t.heap ∧ Fr Z.heap.size L) ∧ ReturnedEndW x.o o t L B.R.cells B.R.slots
/-- from every point with this heap and this frame the invocation ends as Q says -/
def GoC (CC : Cx → Prop) (LL : List Loc → Prop) (Q : Option Value → Heap → Prop) (Z : State) (B : Bd) (k n : Nat) (h : Heap) (pc : Nat) (Ls : Array Slot) (st : List Value) : Prop := ∀ (x : Cx) (T : State), Sp CC LL Z x B T k n h → Rn Q Z x B T pc Ls st
abbrev Go (Q : Option Value → Heap → Prop) (Z : State) (B : Bd) (k n : Nat) (h : Heap) (pc : Nat) (Ls : Array Slot) (st : List Value) : Prop := GoC (fun _ => True) (fun _ => True) Q Z B k n h pc Ls st
/-- a body's contract: from the heap h0, with the arguments as, it returns v at a heap h with Q v h -/
def Con (Z : State) (B : Bd) (as : Array Value) (h0 : Heap) (Q : Option Value → Heap → Prop) : Prop :=
  Ext Z.heap h0 → ∀ (l : Launch) (ws : List Cond), MetFree l B.y (head1 (Cond.code B.y B.by B.ml B.rt :: ws) B.R) (fun a U => a = as ∧ Z.Warmed39 U.vm ∧ U.heap = h0) (fun _ _ _ _ _ => True)
    (fun _ U o U' => ∃ v L, o = .returned v ∧ (Q v U'.heap ∧ Ext Z.heap U'.heap ∧ Fr Z.heap.size L) ∧ ReturnedEndW U o U' L B.R.cells B.R.slots)
/-- an array: its values -/
def Ary (Z : State) (h : Heap) (a : Addr) (ty : FieldType) (vs : List Value) : Prop := ∃ c : Cell, Arr Z h a c ty ∧ c.slots.toList = vs ∧ vs.length < 2 ^ 31 ∧ ∀ v ∈ vs, fits ty v = true
/-- an array over objects of class C -/
def Aov (Z : State) (h : Heap) (a : Addr) (C : String) : Prop := ∃ c : Cell, h[a]? = some c ∧ Ovr Z c.cls C
section St
variable {CC : Cx → Prop} {LL : List Loc → Prop} {Q : Option Value → Heap → Prop} {Z : State} {x : Cx} {B : Bd} {T : State} {k n : Nat} {h h' : Heap} {pc : Nat} {Ls Ls' : Array Slot} {st rest : List Value}
theorem Wd.w {tb : List Cond} (W : Wd Z tb) : ∃ a0 : Array Value, ∀ {i : Nat} {d : Cond}, tb[i]? = some d → d.before a0 Z = true := by
  obtain ⟨a0, hw⟩ := W; exact ⟨a0, fun hi => hw _ (List.mem_of_getElem? hi)⟩
theorem Con.mk {as : Array Value} {h0 : Heap} (hw : Wd Z B.tb) (hpn : plainFor B.y = true) (hef : ∀ m, entryFrame m as B.ml = mkF m 0 Ls [])
    (body : Go Q Z B 0 0 h0 0 Ls []) : Con Z B as h0 Q := by
  intro hE l ws
  refine MetFree.of_bodySF hpn hisR ?_
  intro p e s m args below meth c s₁ Bd hml0 hP hK
  obtain ⟨rfl, hZ, hh⟩ := hP
  have X0 : Stand p l e B.R s m args below meth c s₁ [] 0 0 := Stand.of_body Bd
  have e0 : s₁.heap = h0 := by rw [← hh, Bd.state]; rfl
  obtain ⟨t, o, h1, h2, h3, h4⟩ := body (p, l, e, s, m, args, below, meth, c, s) s₁ ⟨⟨Bd.exec, Bd.bytes, hml0, findClass_of_methodNamed Bd.named, (name_of_methodNamed Bd.named Bd.method).1, Bd.returns, hZ, Bd.notSynchronized, hw, trivial⟩, ⟨hE, s.vm, 0, rfl, (State.WarmedH.refl s).since 0, Nat.zero_le _⟩, [], X0, e0, Fr.nil _, trivial⟩
  exact ⟨t, o, castTop (hef m) h1, h2, h3, h4⟩
theorem Con.post {as : Array Value} {h0 : Heap} {Q' : Option Value → Heap → Prop} (C : Con Z B as h0 Q) (q : ∀ v h, Q v h → Q' v h) : Con Z B as h0 Q' := fun hE l ws =>
  (C hE l ws).mono (fun _ _ h => h) (fun _ _ _ _ _ h => h) fun _ _ _ _ _ ⟨v, L, h1, h2, h3⟩ => ⟨v, L, h1, ⟨q _ _ h2.1, h2.2⟩, h3⟩
theorem Sp.here (P : Sp CC LL Z x B T k n h) : At T x.m x.c x.below := by obtain ⟨_, _, _, X, _⟩ := P; exact X.here
theorem Sp.ex (P : Sp CC LL Z x B T k n h) : x.p.tables.exec = Jvm.exec := P.1.1
theorem Sp.d (P : Sp CC LL Z x B T k n h) {r : Except DecodeError (Instr × Nat)} (hd : decode B.by pc = r) : decode x.c.code pc = r := by rw [P.1.2.1]; exact hd
theorem Sp.old (P : Sp CC LL Z x B T k n h) : Ext Z.heap h := P.2.1.1
theorem Sp.wd (P : Sp CC LL Z x B T k n h) : Wd Z B.tb := P.1.2.2.2.2.2.2.2.2.1
theorem Sp.le (P : Sp CC LL Z x B T k n h) : Z.heap.size ≤ h.size := P.2.1.1.1
theorem lift {T' : State} {pc' : Nat} {st' : List Value} (f : ∀ t, Steps x.p.tables x.e x.below (T'.setTop (mkF x.m pc' Ls' st')) t → Steps x.p.tables x.e x.below (T.setTop (mkF x.m pc Ls st)) t) (r : Rn Q Z x B T' pc' Ls' st') : Rn Q Z x B T pc Ls st := by
  obtain ⟨t, o, h1, h2⟩ := r; exact ⟨t, o, f t h1, h2⟩
theorem liftS {T' : State} {pc' : Nat} {st' : List Value} (f : Steps x.p.tables x.e x.below (T.setTop (mkF x.m pc Ls st)) (T'.setTop (mkF x.m pc' Ls' st'))) (r : Rn Q Z x B T' pc' Ls' st') : Rn Q Z x B T pc Ls st := by
  obtain ⟨t, o, h1, h2⟩ := r; exact ⟨t, o, f.trans h1, h2⟩
theorem Go.nameI {z : Int32} (r : ∀ v, z = v → GoC CC LL Q Z B k n h pc Ls (.int v :: st)) : GoC CC LL Q Z B k n h pc Ls (.int z :: st) := r z rfl
theorem Go.nameJ {z : Int64} (r : ∀ v, z = v → GoC CC LL Q Z B k n h pc Ls (.long v :: st)) : GoC CC LL Q Z B k n h pc Ls (.long z :: st) := r z rfl
theorem Go.nameD {z : UInt64} (r : ∀ v, z = v → GoC CC LL Q Z B k n h pc Ls (.double v :: st)) : GoC CC LL Q Z B k n h pc Ls (.double z :: st) := r z rfl
theorem Go.eqI {z w : Int32} (e : z = w) (r : GoC CC LL Q Z B k n h pc Ls (.int w :: st)) : GoC CC LL Q Z B k n h pc Ls (.int z :: st) := e ▸ r
theorem Go.eqJ {z w : Int64} (e : z = w) (r : GoC CC LL Q Z B k n h pc Ls (.long w :: st)) : GoC CC LL Q Z B k n h pc Ls (.long z :: st) := e ▸ r
theorem Go.eqD {z w : UInt64} (e : z = w) (r : GoC CC LL Q Z B k n h pc Ls (.double w :: st)) : GoC CC LL Q Z B k n h pc Ls (.double z :: st) := e ▸ r
theorem Go.joinI {pcJ : Nat} {LsJ : Array Slot} {stJ : List Value} (G : Int32 → Prop) (s : (∀ v, G v → GoC CC LL Q Z B k n h pcJ LsJ (.int v :: stJ)) → GoC CC LL Q Z B k n h pc Ls st) (r : ∀ v, G v → GoC CC LL Q Z B k n h pcJ LsJ (.int v :: stJ)) : GoC CC LL Q Z B k n h pc Ls st := s r
theorem cut {G : Prop} (X : Prop) (s : X → G) (r : X) : G := s r
theorem Go.old (r : Ext Z.heap h → GoC CC LL Q Z B k n h pc Ls st) : GoC CC LL Q Z B k n h pc Ls st := fun x T P => r P.old x T P
theorem Go.more {k' n' : Nat} (hk : k ≤ k') (hn : n ≤ n') (r : GoC CC LL Q Z B k' n' h pc Ls st) : GoC CC LL Q Z B k n h pc Ls st := fun x T P => r x T (by
  obtain ⟨E, O, locs, X, e, N⟩ := P
  exact ⟨E, O, locs, { X with same := X.same.mono hk hn }, e, N⟩)
theorem Go.iload (pc' : Nat) (hp : pc + 2 = pc') {i : Nat} {v : Int32} (hd : decode B.by pc = .ok (.iload i, 2)) (hl : Ls[i]? = some (.val (.int v))) (r : GoC CC LL Q Z B k n h pc' Ls (.int v :: st)) : GoC CC LL Q Z B k n h pc Ls (st) := fun x T P => by
  subst hp; exact lift (fun t q => XS.iload P.here P.ex rfl (P.d hd) hl q) (r x T P)
theorem Go.iloadN (pc' : Nat) (hp : pc + 1 = pc') {i : Fin 4} {v : Int32} (hd : decode B.by pc = .ok (.iload_n i, 1)) (hl : Ls[i.val]? = some (.val (.int v))) (r : GoC CC LL Q Z B k n h pc' Ls (.int v :: st)) : GoC CC LL Q Z B k n h pc Ls (st) := fun x T P => by
  subst hp; exact lift (fun t q => XS.iloadN P.here P.ex rfl (P.d hd) hl q) (r x T P)
theorem Go.istore (pc' : Nat) (hp : pc + 2 = pc') {i : Nat} {v : Int32} (hd : decode B.by pc = .ok (.istore i, 2))  (hl : storeLocals Ls i (.int v) = some Ls') (r : GoC CC LL Q Z B k n h pc' Ls' (st)) : GoC CC LL Q Z B k n h pc Ls (.int v :: st) := fun x T P => by
  subst hp; exact lift (fun t q => XS.istore P.here P.ex rfl (P.d hd) rfl hl q) (r x T P)
theorem Go.istoreN (pc' : Nat) (hp : pc + 1 = pc') {i : Fin 4} {v : Int32} (hd : decode B.by pc = .ok (.istore_n i, 1))  (hl : storeLocals Ls i.val (.int v) = some Ls') (r : GoC CC LL Q Z B k n h pc' Ls' (st)) : GoC CC LL Q Z B k n h pc Ls (.int v :: st) := fun x T P => by
  subst hp; exact lift (fun t q => XS.istoreN P.here P.ex rfl (P.d hd) rfl hl q) (r x T P)
theorem Go.lload (pc' : Nat) (hp : pc + 2 = pc') {i : Nat} {v : Int64} (hd : decode B.by pc = .ok (.lload i, 2)) (hl : Ls[i]? = some (.val (.long v))) (r : GoC CC LL Q Z B k n h pc' Ls (.long v :: st)) : GoC CC LL Q Z B k n h pc Ls (st) := fun x T P => by
  subst hp; exact lift (fun t q => XT.lload P.here P.ex rfl (P.d hd) hl q) (r x T P)
theorem Go.lloadN (pc' : Nat) (hp : pc + 1 = pc') {i : Fin 4} {v : Int64} (hd : decode B.by pc = .ok (.lload_n i, 1)) (hl : Ls[i.val]? = some (.val (.long v))) (r : GoC CC LL Q Z B k n h pc' Ls (.long v :: st)) : GoC CC LL Q Z B k n h pc Ls (st) := fun x T P => by
  subst hp; exact lift (fun t q => XT.lloadN P.here P.ex rfl (P.d hd) hl q) (r x T P)
theorem Go.lstore (pc' : Nat) (hp : pc + 2 = pc') {i : Nat} {v : Int64} (hd : decode B.by pc = .ok (.lstore i, 2))  (hl : storeLocals Ls i (.long v) = some Ls') (r : GoC CC LL Q Z B k n h pc' Ls' (st)) : GoC CC LL Q Z B k n h pc Ls (.long v :: st) := fun x T P => by
  subst hp; exact lift (fun t q => XT.lstore P.here P.ex rfl (P.d hd) rfl hl q) (r x T P)
theorem Go.lstoreN (pc' : Nat) (hp : pc + 1 = pc') {i : Fin 4} {v : Int64} (hd : decode B.by pc = .ok (.lstore_n i, 1))  (hl : storeLocals Ls i.val (.long v) = some Ls') (r : GoC CC LL Q Z B k n h pc' Ls' (st)) : GoC CC LL Q Z B k n h pc Ls (.long v :: st) := fun x T P => by
  subst hp; exact lift (fun t q => XT.lstoreN P.here P.ex rfl (P.d hd) rfl hl q) (r x T P)
theorem Go.aload (pc' : Nat) (hp : pc + 2 = pc') {i : Nat} {v : Value} (hd : decode B.by pc = .ok (.aload i, 2)) (hl : Ls[i]? = some (.val (v))) (hv : v.isRef = true) (r : GoC CC LL Q Z B k n h pc' Ls (v :: st)) : GoC CC LL Q Z B k n h pc Ls (st) := fun x T P => by
  subst hp; exact lift (fun t q => XS.aload P.here P.ex rfl (P.d hd) hl hv q) (r x T P)
theorem Go.aloadN (pc' : Nat) (hp : pc + 1 = pc') {i : Fin 4} {v : Value} (hd : decode B.by pc = .ok (.aload_n i, 1)) (hl : Ls[i.val]? = some (.val (v))) (hv : v.isRef = true) (r : GoC CC LL Q Z B k n h pc' Ls (v :: st)) : GoC CC LL Q Z B k n h pc Ls (st) := fun x T P => by
  subst hp; exact lift (fun t q => XS.aloadN P.here P.ex rfl (P.d hd) hl hv q) (r x T P)
theorem Go.astore (pc' : Nat) (hp : pc + 2 = pc') {i : Nat} {v : Value} (hd : decode B.by pc = .ok (.astore i, 2))  (hv : v.isRef = true) (hl : storeLocals Ls i (v) = some Ls') (r : GoC CC LL Q Z B k n h pc' Ls' (st)) : GoC CC LL Q Z B k n h pc Ls (v :: st) := fun x T P => by
  subst hp; exact lift (fun t q => XS.astore P.here P.ex rfl (P.d hd) rfl hv hl q) (r x T P)
theorem Go.astoreN (pc' : Nat) (hp : pc + 1 = pc') {i : Fin 4} {v : Value} (hd : decode B.by pc = .ok (.astore_n i, 1))  (hv : v.isRef = true) (hl : storeLocals Ls i.val (v) = some Ls') (r : GoC CC LL Q Z B k n h pc' Ls' (st)) : GoC CC LL Q Z B k n h pc Ls (v :: st) := fun x T P => by
  subst hp; exact lift (fun t q => XS.astoreN P.here P.ex rfl (P.d hd) rfl hv hl q) (r x T P)
theorem Go.dload (pc' : Nat) (hp : pc + 2 = pc') {i : Nat} {v : UInt64} (hd : decode B.by pc = .ok (.dload i, 2)) (hl : Ls[i]? = some (.val (.double v))) (r : GoC CC LL Q Z B k n h pc' Ls (.double v :: st)) : GoC CC LL Q Z B k n h pc Ls (st) := fun x T P => by
  subst hp; exact lift (fun t q => XS.dload P.here P.ex rfl (P.d hd) hl q) (r x T P)
theorem Go.dloadN (pc' : Nat) (hp : pc + 1 = pc') {i : Fin 4} {v : UInt64} (hd : decode B.by pc = .ok (.dload_n i, 1)) (hl : Ls[i.val]? = some (.val (.double v))) (r : GoC CC LL Q Z B k n h pc' Ls (.double v :: st)) : GoC CC LL Q Z B k n h pc Ls (st) := fun x T P => by
  subst hp; exact lift (fun t q => XS.dloadN P.here P.ex rfl (P.d hd) hl q) (r x T P)
theorem Go.dstore (pc' : Nat) (hp : pc + 2 = pc') {i : Nat} {v : UInt64} (hd : decode B.by pc = .ok (.dstore i, 2))  (hl : storeLocals Ls i (.double v) = some Ls') (r : GoC CC LL Q Z B k n h pc' Ls' (st)) : GoC CC LL Q Z B k n h pc Ls (.double v :: st) := fun x T P => by
  subst hp; exact lift (fun t q => XS.dstore P.here P.ex rfl (P.d hd) rfl hl q) (r x T P)
theorem Go.dstoreN (pc' : Nat) (hp : pc + 1 = pc') {i : Fin 4} {v : UInt64} (hd : decode B.by pc = .ok (.dstore_n i, 1))  (hl : storeLocals Ls i.val (.double v) = some Ls') (r : GoC CC LL Q Z B k n h pc' Ls' (st)) : GoC CC LL Q Z B k n h pc Ls (.double v :: st) := fun x T P => by
  subst hp; exact lift (fun t q => XS.dstoreN P.here P.ex rfl (P.d hd) rfl hl q) (r x T P)
theorem Go.iconst (pc' : Nat) (hp : pc + 1 = pc') {i : Int} (v : Int32) (hd : decode B.by pc = .ok (.iconst i, 1)) (hv : Int32.ofInt i = v) (r : GoC CC LL Q Z B k n h pc' Ls (.int v :: st)) : GoC CC LL Q Z B k n h pc Ls (st) := fun x T P => by
  subst hp; exact lift (fun t q => XT.iconstV P.here P.ex rfl v (P.d hd) hv q) (r x T P)
theorem Go.bipush (pc' : Nat) (hp : pc + 2 = pc') {i : Int} (v : Int32) (hd : decode B.by pc = .ok (.bipush i, 2)) (hv : (Int8.ofInt i).toInt32 = v) (r : GoC CC LL Q Z B k n h pc' Ls (.int v :: st)) : GoC CC LL Q Z B k n h pc Ls (st) := fun x T P => by
  subst hp; exact lift (fun t q => XT.bipushV P.here P.ex rfl v (P.d hd) hv q) (r x T P)
theorem Go.sipush (pc' : Nat) (hp : pc + 3 = pc') {i : Int} (v : Int32) (hd : decode B.by pc = .ok (.sipush i, 3)) (hv : (Int16.ofInt i).toInt32 = v) (r : GoC CC LL Q Z B k n h pc' Ls (.int v :: st)) : GoC CC LL Q Z B k n h pc Ls (st) := fun x T P => by
  subst hp; exact lift (fun t q => XT.sipushV P.here P.ex rfl v (P.d hd) hv q) (r x T P)
theorem Go.lconst (pc' : Nat) (hp : pc + 1 = pc') {i : Fin 2} (v : Int64) (hd : decode B.by pc = .ok (.lconst i, 1)) (hv : Int64.ofNat i = v) (r : GoC CC LL Q Z B k n h pc' Ls (.long v :: st)) : GoC CC LL Q Z B k n h pc Ls (st) := fun x T P => by
  subst hp; exact lift (fun t q => XT.lconstV P.here P.ex rfl v (P.d hd) hv q) (r x T P)
theorem Go.aconstNull (pc' : Nat) (hp : pc + 1 = pc')  (hd : decode B.by pc = .ok (.aconst_null, 1))  (r : GoC CC LL Q Z B k n h pc' Ls (.null :: st)) : GoC CC LL Q Z B k n h pc Ls (st) := fun x T P => by
  subst hp; exact lift (fun t q => XS.aconstNull P.here P.ex rfl (P.d hd) q) (r x T P)
theorem Go.iadd (pc' : Nat) (hp : pc + 1 = pc') {x1 y1 : Int32} (hd : decode B.by pc = .ok (.iadd, 1))  (r : GoC CC LL Q Z B k n h pc' Ls (.int (x1 + y1) :: st)) : GoC CC LL Q Z B k n h pc Ls (.int y1 :: .int x1 :: st) := fun x T P => by
  subst hp; exact lift (fun t q => XS.iadd P.here P.ex rfl (P.d hd) rfl q) (r x T P)
theorem Go.isub (pc' : Nat) (hp : pc + 1 = pc') {x1 y1 : Int32} (hd : decode B.by pc = .ok (.isub, 1))  (r : GoC CC LL Q Z B k n h pc' Ls (.int (x1 - y1) :: st)) : GoC CC LL Q Z B k n h pc Ls (.int y1 :: .int x1 :: st) := fun x T P => by
  subst hp; exact lift (fun t q => XS.isub P.here P.ex rfl (P.d hd) rfl q) (r x T P)
theorem Go.iand (pc' : Nat) (hp : pc + 1 = pc') {x1 y1 : Int32} (hd : decode B.by pc = .ok (.iand, 1))  (r : GoC CC LL Q Z B k n h pc' Ls (.int (x1 &&& y1) :: st)) : GoC CC LL Q Z B k n h pc Ls (.int y1 :: .int x1 :: st) := fun x T P => by
  subst hp; exact lift (fun t q => XS.iand P.here P.ex rfl (P.d hd) rfl q) (r x T P)
theorem Go.imul (pc' : Nat) (hp : pc + 1 = pc') {x1 y1 : Int32} (hd : decode B.by pc = .ok (.imul, 1))  (r : GoC CC LL Q Z B k n h pc' Ls (.int (x1 * y1) :: st)) : GoC CC LL Q Z B k n h pc Ls (.int y1 :: .int x1 :: st) := fun x T P => by
  subst hp; exact lift (fun t q => XS.imul P.here P.ex rfl (P.d hd) rfl q) (r x T P)
theorem Go.ixor (pc' : Nat) (hp : pc + 1 = pc') {x1 y1 : Int32} (hd : decode B.by pc = .ok (.ixor, 1))  (r : GoC CC LL Q Z B k n h pc' Ls (.int (x1 ^^^ y1) :: st)) : GoC CC LL Q Z B k n h pc Ls (.int y1 :: .int x1 :: st) := fun x T P => by
  subst hp; exact lift (fun t q => XT.ixor P.here P.ex rfl (P.d hd) rfl q) (r x T P)
theorem Go.ior (pc' : Nat) (hp : pc + 1 = pc') {x1 y1 : Int32} (hd : decode B.by pc = .ok (.ior, 1))  (r : GoC CC LL Q Z B k n h pc' Ls (.int (x1 ||| y1) :: st)) : GoC CC LL Q Z B k n h pc Ls (.int y1 :: .int x1 :: st) := fun x T P => by
  subst hp; exact lift (fun t q => XT.ior P.here P.ex rfl (P.d hd) rfl q) (r x T P)
theorem Go.ishl (pc' : Nat) (hp : pc + 1 = pc') {x1 y1 : Int32} (hd : decode B.by pc = .ok (.ishl, 1))  (r : GoC CC LL Q Z B k n h pc' Ls (.int (x1 <<< (y1 &&& 31)) :: st)) : GoC CC LL Q Z B k n h pc Ls (.int y1 :: .int x1 :: st) := fun x T P => by
  subst hp; exact lift (fun t q => XT.ishl P.here P.ex rfl (P.d hd) rfl q) (r x T P)
theorem Go.ishr (pc' : Nat) (hp : pc + 1 = pc') {x1 y1 : Int32} (hd : decode B.by pc = .ok (.ishr, 1))  (r : GoC CC LL Q Z B k n h pc' Ls (.int (x1 >>> (y1 &&& 31)) :: st)) : GoC CC LL Q Z B k n h pc Ls (.int y1 :: .int x1 :: st) := fun x T P => by
  subst hp; exact lift (fun t q => XT.ishr P.here P.ex rfl (P.d hd) rfl q) (r x T P)
theorem Go.iushr (pc' : Nat) (hp : pc + 1 = pc') {x1 y1 : Int32} (hd : decode B.by pc = .ok (.iushr, 1))  (r : GoC CC LL Q Z B k n h pc' Ls (.int (XT.ushr x1 y1) :: st)) : GoC CC LL Q Z B k n h pc Ls (.int y1 :: .int x1 :: st) := fun x T P => by
  subst hp; exact lift (fun t q => XT.iushr P.here P.ex rfl (P.d hd) rfl q) (r x T P)
theorem Go.idiv (pc' : Nat) (hp : pc + 1 = pc') {x1 y1 : Int32} (hd : decode B.by pc = .ok (.idiv, 1)) (hy : y1 ≠ 0) (r : GoC CC LL Q Z B k n h pc' Ls (.int (x1 / y1) :: st)) : GoC CC LL Q Z B k n h pc Ls (.int y1 :: .int x1 :: st) := fun x T P => by
  subst hp; exact lift (fun t q => XS.idiv P.here P.ex rfl (P.d hd) rfl hy q) (r x T P)
theorem Go.ladd (pc' : Nat) (hp : pc + 1 = pc') {x1 y1 : Int64} (hd : decode B.by pc = .ok (.ladd, 1))  (r : GoC CC LL Q Z B k n h pc' Ls (.long (x1 + y1) :: st)) : GoC CC LL Q Z B k n h pc Ls (.long y1 :: .long x1 :: st) := fun x T P => by
  subst hp; exact lift (fun t q => XT.ladd P.here P.ex rfl (P.d hd) rfl q) (r x T P)
theorem Go.lsub (pc' : Nat) (hp : pc + 1 = pc') {x1 y1 : Int64} (hd : decode B.by pc = .ok (.lsub, 1))  (r : GoC CC LL Q Z B k n h pc' Ls (.long (x1 - y1) :: st)) : GoC CC LL Q Z B k n h pc Ls (.long y1 :: .long x1 :: st) := fun x T P => by
  subst hp; exact lift (fun t q => XT.lsub P.here P.ex rfl (P.d hd) rfl q) (r x T P)
theorem Go.land (pc' : Nat) (hp : pc + 1 = pc') {x1 y1 : Int64} (hd : decode B.by pc = .ok (.land, 1))  (r : GoC CC LL Q Z B k n h pc' Ls (.long (x1 &&& y1) :: st)) : GoC CC LL Q Z B k n h pc Ls (.long y1 :: .long x1 :: st) := fun x T P => by
  subst hp; exact lift (fun t q => XT.land P.here P.ex rfl (P.d hd) rfl q) (r x T P)
theorem Go.lmul (pc' : Nat) (hp : pc + 1 = pc') {x1 y1 : Int64} (hd : decode B.by pc = .ok (.lmul, 1))  (r : GoC CC LL Q Z B k n h pc' Ls (.long (x1 * y1) :: st)) : GoC CC LL Q Z B k n h pc Ls (.long y1 :: .long x1 :: st) := fun x T P => by
  subst hp; exact lift (fun t q => XT.lmul P.here P.ex rfl (P.d hd) rfl q) (r x T P)
theorem Go.lxor (pc' : Nat) (hp : pc + 1 = pc') {x1 y1 : Int64} (hd : decode B.by pc = .ok (.lxor, 1))  (r : GoC CC LL Q Z B k n h pc' Ls (.long (x1 ^^^ y1) :: st)) : GoC CC LL Q Z B k n h pc Ls (.long y1 :: .long x1 :: st) := fun x T P => by
  subst hp; exact lift (fun t q => XT.lxor P.here P.ex rfl (P.d hd) rfl q) (r x T P)
theorem Go.lor (pc' : Nat) (hp : pc + 1 = pc') {x1 y1 : Int64} (hd : decode B.by pc = .ok (.lor, 1))  (r : GoC CC LL Q Z B k n h pc' Ls (.long (x1 ||| y1) :: st)) : GoC CC LL Q Z B k n h pc Ls (.long y1 :: .long x1 :: st) := fun x T P => by
  subst hp; exact lift (fun t q => XT.lor P.here P.ex rfl (P.d hd) rfl q) (r x T P)
theorem Go.lshl (pc' : Nat) (hp : pc + 1 = pc') {x1 : Int64} {y1 : Int32} (hd : decode B.by pc = .ok (.lshl, 1))  (r : GoC CC LL Q Z B k n h pc' Ls (.long (x1 <<< (y1.toInt64 &&& 63)) :: st)) : GoC CC LL Q Z B k n h pc Ls (.int y1 :: .long x1 :: st) := fun x T P => by
  subst hp; exact lift (fun t q => XT.lshl P.here P.ex rfl (P.d hd) rfl q) (r x T P)
theorem Go.lshr (pc' : Nat) (hp : pc + 1 = pc') {x1 : Int64} {y1 : Int32} (hd : decode B.by pc = .ok (.lshr, 1))  (r : GoC CC LL Q Z B k n h pc' Ls (.long (x1 >>> (y1.toInt64 &&& 63)) :: st)) : GoC CC LL Q Z B k n h pc Ls (.int y1 :: .long x1 :: st) := fun x T P => by
  subst hp; exact lift (fun t q => XT.lshr P.here P.ex rfl (P.d hd) rfl q) (r x T P)
theorem Go.lushr (pc' : Nat) (hp : pc + 1 = pc') {x1 : Int64} {y1 : Int32} (hd : decode B.by pc = .ok (.lushr, 1))  (r : GoC CC LL Q Z B k n h pc' Ls (.long (XT.ushrL x1 y1) :: st)) : GoC CC LL Q Z B k n h pc Ls (.int y1 :: .long x1 :: st) := fun x T P => by
  subst hp; exact lift (fun t q => XT.lushr P.here P.ex rfl (P.d hd) rfl q) (r x T P)
theorem Go.ldiv (pc' : Nat) (hp : pc + 1 = pc') {x1 y1 : Int64} (hd : decode B.by pc = .ok (.ldiv, 1)) (hy : y1 ≠ 0) (r : GoC CC LL Q Z B k n h pc' Ls (.long (x1 / y1) :: st)) : GoC CC LL Q Z B k n h pc Ls (.long y1 :: .long x1 :: st) := fun x T P => by
  subst hp; exact lift (fun t q => XT.ldiv P.here P.ex rfl (P.d hd) rfl hy q) (r x T P)
theorem Go.lrem (pc' : Nat) (hp : pc + 1 = pc') {x1 y1 : Int64} (hd : decode B.by pc = .ok (.lrem, 1)) (hy : y1 ≠ 0) (r : GoC CC LL Q Z B k n h pc' Ls (.long (x1 % y1) :: st)) : GoC CC LL Q Z B k n h pc Ls (.long y1 :: .long x1 :: st) := fun x T P => by
  subst hp; exact lift (fun t q => XT.lrem P.here P.ex rfl (P.d hd) rfl hy (by rw [lrem_mod]; exact q)) (r x T P)
theorem Go.lneg (pc' : Nat) (hp : pc + 1 = pc') {x1 : Int64} (hd : decode B.by pc = .ok (.lneg, 1))  (r : GoC CC LL Q Z B k n h pc' Ls (.long (-x1) :: st)) : GoC CC LL Q Z B k n h pc Ls (.long x1 :: st) := fun x T P => by
  subst hp; exact lift (fun t q => XT.lneg P.here P.ex rfl (P.d hd) rfl q) (r x T P)
theorem Go.ineg (pc' : Nat) (hp : pc + 1 = pc') {x1 : Int32} (hd : decode B.by pc = .ok (.ineg, 1))  (r : GoC CC LL Q Z B k n h pc' Ls (.int (-x1) :: st)) : GoC CC LL Q Z B k n h pc Ls (.int x1 :: st) := fun x T P => by
  subst hp; exact lift (fun t q => XS.ineg P.here P.ex rfl (P.d hd) rfl q) (r x T P)
theorem Go.i2l (pc' : Nat) (hp : pc + 1 = pc') {x1 : Int32} (hd : decode B.by pc = .ok (.i2l, 1))  (r : GoC CC LL Q Z B k n h pc' Ls (.long x1.toInt64 :: st)) : GoC CC LL Q Z B k n h pc Ls (.int x1 :: st) := fun x T P => by
  subst hp; exact lift (fun t q => XT.i2l P.here P.ex rfl (P.d hd) rfl q) (r x T P)
theorem Go.l2i (pc' : Nat) (hp : pc + 1 = pc') {x1 : Int64} (hd : decode B.by pc = .ok (.l2i, 1))  (r : GoC CC LL Q Z B k n h pc' Ls (.int x1.toInt32 :: st)) : GoC CC LL Q Z B k n h pc Ls (.long x1 :: st) := fun x T P => by
  subst hp; exact lift (fun t q => XT.l2i P.here P.ex rfl (P.d hd) rfl q) (r x T P)
theorem Go.i2b (pc' : Nat) (hp : pc + 1 = pc') {x1 : Int32} (hd : decode B.by pc = .ok (.i2b, 1))  (r : GoC CC LL Q Z B k n h pc' Ls (.int x1.toInt8.toInt32 :: st)) : GoC CC LL Q Z B k n h pc Ls (.int x1 :: st) := fun x T P => by
  subst hp; exact lift (fun t q => XT.i2b P.here P.ex rfl (P.d hd) rfl q) (r x T P)
theorem Go.i2c (pc' : Nat) (hp : pc + 1 = pc') {x1 : Int32} (hd : decode B.by pc = .ok (.i2c, 1))  (r : GoC CC LL Q Z B k n h pc' Ls (.int x1.toUInt32.toUInt16.toUInt32.toInt32 :: st)) : GoC CC LL Q Z B k n h pc Ls (.int x1 :: st) := fun x T P => by
  subst hp; exact lift (fun t q => XT.i2c P.here P.ex rfl (P.d hd) rfl q) (r x T P)
theorem Go.i2s (pc' : Nat) (hp : pc + 1 = pc') {x1 : Int32} (hd : decode B.by pc = .ok (.i2s, 1))  (r : GoC CC LL Q Z B k n h pc' Ls (.int x1.toInt16.toInt32 :: st)) : GoC CC LL Q Z B k n h pc Ls (.int x1 :: st) := fun x T P => by
  subst hp; exact lift (fun t q => XT.i2s P.here P.ex rfl (P.d hd) rfl q) (r x T P)
theorem Go.lcmp (pc' : Nat) (hp : pc + 1 = pc') {x1 y1 : Int64} (hd : decode B.by pc = .ok (.lcmp, 1))  (r : GoC CC LL Q Z B k n h pc' Ls (.int (XT.cmpL x1 y1) :: st)) : GoC CC LL Q Z B k n h pc Ls (.long y1 :: .long x1 :: st) := fun x T P => by
  subst hp; exact lift (fun t q => XT.lcmp P.here P.ex rfl (P.d hd) rfl q) (r x T P)
theorem Go.i2d (pc' : Nat) (hp : pc + 1 = pc') {x1 : Int32} (hd : decode B.by pc = .ok (.i2d, 1))  (r : GoC CC LL Q Z B k n h pc' Ls (.double (FP.i2d x1) :: st)) : GoC CC LL Q Z B k n h pc Ls (.int x1 :: st) := fun x T P => by
  subst hp; exact lift (fun t q => XS.i2dS P.here P.ex rfl (P.d hd) rfl rfl q) (r x T P)
theorem Go.l2d (pc' : Nat) (hp : pc + 1 = pc') {x1 : Int64} (hd : decode B.by pc = .ok (.l2d, 1))  (r : GoC CC LL Q Z B k n h pc' Ls (.double (FP.l2d x1) :: st)) : GoC CC LL Q Z B k n h pc Ls (.long x1 :: st) := fun x T P => by
  subst hp; exact lift (fun t q => XS.l2dS P.here P.ex rfl (P.d hd) rfl rfl q) (r x T P)
theorem Go.dcmp (pc' : Nat) (hp : pc + 1 = pc') {o : CmpOp} {x1 y1 : UInt64} (v : Int32) (hd : decode B.by pc = .ok (.dcmp o, 1)) (hv : cmpValue (FP.dcmp x1 y1) o = v) (r : GoC CC LL Q Z B k n h pc' Ls (.int v :: st)) : GoC CC LL Q Z B k n h pc Ls (.double y1 :: .double x1 :: st) := fun x T P => by
  subst hp; exact lift (fun t q => XS.dcmpS P.here P.ex rfl (P.d hd) rfl hv q) (r x T P)
theorem Go.ddiv (pc' : Nat) (hp : pc + 1 = pc') {x1 y1 : UInt64} (hd : decode B.by pc = .ok (.ddiv, 1)) (hn : Jvm.Free.Fl.NoNaN64 (FP.ddiv x1 y1)) (r : GoC CC LL Q Z B k n h pc' Ls (.double (FP.ddiv x1 y1) :: st)) : GoC CC LL Q Z B k n h pc Ls (.double y1 :: .double x1 :: st) := fun x T P => by
  subst hp; exact lift (fun t q => XS.ddivS P.here P.ex rfl (P.d hd) rfl hn rfl q) (r x T P)
theorem Go.dup (pc' : Nat) (hp : pc + 1 = pc') {v : Value} (hd : decode B.by pc = .ok (.dup, 1)) (hc : v.category = 1) (r : GoC CC LL Q Z B k n h pc' Ls (v :: v :: st)) : GoC CC LL Q Z B k n h pc Ls (v :: st) := fun x T P => by
  subst hp; exact lift (fun t q => XS.dup P.here P.ex rfl (P.d hd) rfl hc q) (r x T P)
theorem Go.pop (pc' : Nat) (hp : pc + 1 = pc') {v : Value} (hd : decode B.by pc = .ok (.pop, 1)) (hc : v.category = 1) (r : GoC CC LL Q Z B k n h pc' Ls (st)) : GoC CC LL Q Z B k n h pc Ls (v :: st) := fun x T P => by
  subst hp; exact lift (fun t q => XT.pop P.here P.ex rfl (P.d hd) rfl hc q) (r x T P)
theorem Go.dupX1 (pc' : Nat) (hp : pc + 1 = pc') {v w : Value} (hd : decode B.by pc = .ok (.dup_x1, 1)) (hc : v.category = 1) (hc' : w.category = 1) (r : GoC CC LL Q Z B k n h pc' Ls (v :: w :: v :: st)) : GoC CC LL Q Z B k n h pc Ls (v :: w :: st) := fun x T P => by
  subst hp; exact lift (fun t q => XT.dupX1 P.here P.ex rfl (P.d hd) rfl hc hc' q) (r x T P)
theorem Go.dup2 (pc' : Nat) (hp : pc + 1 = pc') {v w : Value} (hd : decode B.by pc = .ok (.dup2, 1)) (hc : v.category = 1) (hc' : w.category = 1) (r : GoC CC LL Q Z B k n h pc' Ls (v :: w :: v :: w :: st)) : GoC CC LL Q Z B k n h pc Ls (v :: w :: st) := fun x T P => by
  subst hp; exact lift (fun t q => XT.dup2 P.here P.ex rfl (P.d hd) rfl hc hc' q) (r x T P)
theorem Go.dup2L (pc' : Nat) (hp : pc + 1 = pc') {v : Int64} (hd : decode B.by pc = .ok (.dup2, 1))  (r : GoC CC LL Q Z B k n h pc' Ls (.long v :: .long v :: st)) : GoC CC LL Q Z B k n h pc Ls (.long v :: st) := fun x T P => by
  subst hp; exact lift (fun t q => XT.dup2L P.here P.ex rfl (P.d hd) rfl q) (r x T P)
theorem Go.iinc (pc' : Nat) (hp : pc + 3 = pc') {i : Nat} {cst : Int} {x1 : Int32} (v : Int32) (hd : decode B.by pc = .ok (.iinc i cst, 3)) (hv : Int32.ofInt cst = v) (hl : Ls[i]? = some (.val (.int x1))) (hl' : storeLocals Ls i (.int (x1 + v)) = some Ls') (r : GoC CC LL Q Z B k n h pc' Ls' (st)) : GoC CC LL Q Z B k n h pc Ls (st) := fun x T P => by
  subst hp; exact lift (fun t q => XT.iincV P.here P.ex rfl v (P.d hd) hv hl hl' q) (r x T P)
theorem Go.irem (pc' : Nat) (hp : pc + 1 = pc') {x1 y1 : Int32} (hd : decode B.by pc = .ok (.irem, 1)) (hy : y1 ≠ 0) (r : GoC CC LL Q Z B k n h pc' Ls (.int (x1 % y1) :: st)) : GoC CC LL Q Z B k n h pc Ls (.int y1 :: .int x1 :: st) := fun x T P => by
  subst hp; obtain ⟨_, _, _, X, _⟩ := id P; exact lift (fun t q => iremM X P.ex rfl (P.d hd) rfl hy q) (r x T P)
theorem Go.goto (pc' : Nat) {o : Int} (hd : decode B.by pc = .ok (.goto o, 3)) (h0 : 0 ≤ (pc : Int) + o) (hp : ((pc : Int) + o).toNat = pc') (r : GoC CC LL Q Z B k n h pc' Ls st) : GoC CC LL Q Z B k n h pc Ls st := fun x T P =>
  lift (fun t q => XS.goto P.here P.ex rfl (pc0 := pc) rfl (P.d hd) h0 hp q) (r x T P)
theorem Go.icmp_lt (pT pF : Nat) {x1 y1 : Int32} {o : Int} (hd : decode B.by pc = .ok (.if_icmp .lt o, 3)) (h0 : 0 ≤ (pc : Int) + o) (hT : ((pc : Int) + o).toNat = pT) (hF : pc + 3 = pF) (rT : x1 < y1 → GoC CC LL Q Z B k n h pT Ls st) (rF : ¬ x1 < y1 → GoC CC LL Q Z B k n h pF Ls st) : GoC CC LL Q Z B k n h pc Ls (.int y1 :: .int x1 :: st) := fun x T P => by
  subst hF
  by_cases c : x1 < y1
  · exact lift (fun t q => XS.icmpYes P.here P.ex rfl (pc0 := pc) rfl (P.d hd) rfl (tlt c).1 h0 hT q) (rT c x T P)
  · exact lift (fun t q => XS.icmpNo P.here P.ex rfl (P.d hd) rfl (flt c).1 q) (rF c x T P)
theorem Go.if_lt (pT pF : Nat) {x1 : Int32} {o : Int} (hd : decode B.by pc = .ok (.ifCond .lt o, 3)) (h0 : 0 ≤ (pc : Int) + o) (hT : ((pc : Int) + o).toNat = pT) (hF : pc + 3 = pF) (rT : x1 < 0 → GoC CC LL Q Z B k n h pT Ls st) (rF : ¬ x1 < 0 → GoC CC LL Q Z B k n h pF Ls st) : GoC CC LL Q Z B k n h pc Ls (.int x1 :: st) := fun x T P => by
  subst hF
  by_cases c : x1 < 0
  · exact lift (fun t q => XS.ifYes P.here P.ex rfl (pc0 := pc) rfl (P.d hd) rfl ((if0 _ _).trans (tlt c).1) h0 hT q) (rT c x T P)
  · exact lift (fun t q => XS.ifNo P.here P.ex rfl (P.d hd) rfl ((if0 _ _).trans (flt c).1) q) (rF c x T P)
theorem Go.icmp_ge (pT pF : Nat) {x1 y1 : Int32} {o : Int} (hd : decode B.by pc = .ok (.if_icmp .ge o, 3)) (h0 : 0 ≤ (pc : Int) + o) (hT : ((pc : Int) + o).toNat = pT) (hF : pc + 3 = pF) (rT : ¬ x1 < y1 → GoC CC LL Q Z B k n h pT Ls st) (rF : x1 < y1 → GoC CC LL Q Z B k n h pF Ls st) : GoC CC LL Q Z B k n h pc Ls (.int y1 :: .int x1 :: st) := fun x T P => by
  subst hF
  by_cases c : ¬ x1 < y1
  · exact lift (fun t q => XS.icmpYes P.here P.ex rfl (pc0 := pc) rfl (P.d hd) rfl (flt c).2.1 h0 hT q) (rT c x T P)
  · replace c := Decidable.not_not.mp c
    exact lift (fun t q => XS.icmpNo P.here P.ex rfl (P.d hd) rfl (tlt c).2.1 q) (rF c x T P)
theorem Go.if_ge (pT pF : Nat) {x1 : Int32} {o : Int} (hd : decode B.by pc = .ok (.ifCond .ge o, 3)) (h0 : 0 ≤ (pc : Int) + o) (hT : ((pc : Int) + o).toNat = pT) (hF : pc + 3 = pF) (rT : ¬ x1 < 0 → GoC CC LL Q Z B k n h pT Ls st) (rF : x1 < 0 → GoC CC LL Q Z B k n h pF Ls st) : GoC CC LL Q Z B k n h pc Ls (.int x1 :: st) := fun x T P => by
  subst hF
  by_cases c : ¬ x1 < 0
  · exact lift (fun t q => XS.ifYes P.here P.ex rfl (pc0 := pc) rfl (P.d hd) rfl ((if0 _ _).trans (flt c).2.1) h0 hT q) (rT c x T P)
  · replace c := Decidable.not_not.mp c
    exact lift (fun t q => XS.ifNo P.here P.ex rfl (P.d hd) rfl ((if0 _ _).trans (tlt c).2.1) q) (rF c x T P)
theorem Go.icmp_gt (pT pF : Nat) {x1 y1 : Int32} {o : Int} (hd : decode B.by pc = .ok (.if_icmp .gt o, 3)) (h0 : 0 ≤ (pc : Int) + o) (hT : ((pc : Int) + o).toNat = pT) (hF : pc + 3 = pF) (rT : y1 < x1 → GoC CC LL Q Z B k n h pT Ls st) (rF : ¬ y1 < x1 → GoC CC LL Q Z B k n h pF Ls st) : GoC CC LL Q Z B k n h pc Ls (.int y1 :: .int x1 :: st) := fun x T P => by
  subst hF
  by_cases c : y1 < x1
  · exact lift (fun t q => XS.icmpYes P.here P.ex rfl (pc0 := pc) rfl (P.d hd) rfl (tlt c).2.2.1 h0 hT q) (rT c x T P)
  · exact lift (fun t q => XS.icmpNo P.here P.ex rfl (P.d hd) rfl (flt c).2.2.1 q) (rF c x T P)
theorem Go.if_gt (pT pF : Nat) {x1 : Int32} {o : Int} (hd : decode B.by pc = .ok (.ifCond .gt o, 3)) (h0 : 0 ≤ (pc : Int) + o) (hT : ((pc : Int) + o).toNat = pT) (hF : pc + 3 = pF) (rT : 0 < x1 → GoC CC LL Q Z B k n h pT Ls st) (rF : ¬ 0 < x1 → GoC CC LL Q Z B k n h pF Ls st) : GoC CC LL Q Z B k n h pc Ls (.int x1 :: st) := fun x T P => by
  subst hF
  by_cases c : 0 < x1
  · exact lift (fun t q => XS.ifYes P.here P.ex rfl (pc0 := pc) rfl (P.d hd) rfl ((if0 _ _).trans (tlt c).2.2.1) h0 hT q) (rT c x T P)
  · exact lift (fun t q => XS.ifNo P.here P.ex rfl (P.d hd) rfl ((if0 _ _).trans (flt c).2.2.1) q) (rF c x T P)
theorem Go.icmp_le (pT pF : Nat) {x1 y1 : Int32} {o : Int} (hd : decode B.by pc = .ok (.if_icmp .le o, 3)) (h0 : 0 ≤ (pc : Int) + o) (hT : ((pc : Int) + o).toNat = pT) (hF : pc + 3 = pF) (rT : ¬ y1 < x1 → GoC CC LL Q Z B k n h pT Ls st) (rF : y1 < x1 → GoC CC LL Q Z B k n h pF Ls st) : GoC CC LL Q Z B k n h pc Ls (.int y1 :: .int x1 :: st) := fun x T P => by
  subst hF
  by_cases c : ¬ y1 < x1
  · exact lift (fun t q => XS.icmpYes P.here P.ex rfl (pc0 := pc) rfl (P.d hd) rfl (flt c).2.2.2 h0 hT q) (rT c x T P)
  · replace c := Decidable.not_not.mp c
    exact lift (fun t q => XS.icmpNo P.here P.ex rfl (P.d hd) rfl (tlt c).2.2.2 q) (rF c x T P)
theorem Go.if_le (pT pF : Nat) {x1 : Int32} {o : Int} (hd : decode B.by pc = .ok (.ifCond .le o, 3)) (h0 : 0 ≤ (pc : Int) + o) (hT : ((pc : Int) + o).toNat = pT) (hF : pc + 3 = pF) (rT : ¬ 0 < x1 → GoC CC LL Q Z B k n h pT Ls st) (rF : 0 < x1 → GoC CC LL Q Z B k n h pF Ls st) : GoC CC LL Q Z B k n h pc Ls (.int x1 :: st) := fun x T P => by
  subst hF
  by_cases c : ¬ 0 < x1
  · exact lift (fun t q => XS.ifYes P.here P.ex rfl (pc0 := pc) rfl (P.d hd) rfl ((if0 _ _).trans (flt c).2.2.2) h0 hT q) (rT c x T P)
  · replace c := Decidable.not_not.mp c
    exact lift (fun t q => XS.ifNo P.here P.ex rfl (P.d hd) rfl ((if0 _ _).trans (tlt c).2.2.2) q) (rF c x T P)
theorem Go.icmp_eq (pT pF : Nat) {x1 y1 : Int32} {o : Int} (hd : decode B.by pc = .ok (.if_icmp .eq o, 3)) (h0 : 0 ≤ (pc : Int) + o) (hT : ((pc : Int) + o).toNat = pT) (hF : pc + 3 = pF) (rT : x1 = y1 → GoC CC LL Q Z B k n h pT Ls st) (rF : ¬ x1 = y1 → GoC CC LL Q Z B k n h pF Ls st) : GoC CC LL Q Z B k n h pc Ls (.int y1 :: .int x1 :: st) := fun x T P => by
  subst hF
  by_cases c : x1 = y1
  · exact lift (fun t q => XS.icmpYes P.here P.ex rfl (pc0 := pc) rfl (P.d hd) rfl (teq c).1 h0 hT q) (rT c x T P)
  · exact lift (fun t q => XS.icmpNo P.here P.ex rfl (P.d hd) rfl (feq c).1 q) (rF c x T P)
theorem Go.if_eq (pT pF : Nat) {x1 : Int32} {o : Int} (hd : decode B.by pc = .ok (.ifCond .eq o, 3)) (h0 : 0 ≤ (pc : Int) + o) (hT : ((pc : Int) + o).toNat = pT) (hF : pc + 3 = pF) (rT : x1 = 0 → GoC CC LL Q Z B k n h pT Ls st) (rF : ¬ x1 = 0 → GoC CC LL Q Z B k n h pF Ls st) : GoC CC LL Q Z B k n h pc Ls (.int x1 :: st) := fun x T P => by
  subst hF
  by_cases c : x1 = 0
  · exact lift (fun t q => XS.ifYes P.here P.ex rfl (pc0 := pc) rfl (P.d hd) rfl ((if0 _ _).trans (teq c).1) h0 hT q) (rT c x T P)
  · exact lift (fun t q => XS.ifNo P.here P.ex rfl (P.d hd) rfl ((if0 _ _).trans (feq c).1) q) (rF c x T P)
theorem Go.icmp_ne (pT pF : Nat) {x1 y1 : Int32} {o : Int} (hd : decode B.by pc = .ok (.if_icmp .ne o, 3)) (h0 : 0 ≤ (pc : Int) + o) (hT : ((pc : Int) + o).toNat = pT) (hF : pc + 3 = pF) (rT : ¬ x1 = y1 → GoC CC LL Q Z B k n h pT Ls st) (rF : x1 = y1 → GoC CC LL Q Z B k n h pF Ls st) : GoC CC LL Q Z B k n h pc Ls (.int y1 :: .int x1 :: st) := fun x T P => by
  subst hF
  by_cases c : ¬ x1 = y1
  · exact lift (fun t q => XS.icmpYes P.here P.ex rfl (pc0 := pc) rfl (P.d hd) rfl (feq c).2 h0 hT q) (rT c x T P)
  · replace c := Decidable.not_not.mp c
    exact lift (fun t q => XS.icmpNo P.here P.ex rfl (P.d hd) rfl (teq c).2 q) (rF c x T P)
theorem Go.if_ne (pT pF : Nat) {x1 : Int32} {o : Int} (hd : decode B.by pc = .ok (.ifCond .ne o, 3)) (h0 : 0 ≤ (pc : Int) + o) (hT : ((pc : Int) + o).toNat = pT) (hF : pc + 3 = pF) (rT : ¬ x1 = 0 → GoC CC LL Q Z B k n h pT Ls st) (rF : x1 = 0 → GoC CC LL Q Z B k n h pF Ls st) : GoC CC LL Q Z B k n h pc Ls (.int x1 :: st) := fun x T P => by
  subst hF
  by_cases c : ¬ x1 = 0
  · exact lift (fun t q => XS.ifYes P.here P.ex rfl (pc0 := pc) rfl (P.d hd) rfl ((if0 _ _).trans (feq c).2) h0 hT q) (rT c x T P)
  · replace c := Decidable.not_not.mp c
    exact lift (fun t q => XS.ifNo P.here P.ex rfl (P.d hd) rfl ((if0 _ _).trans (teq c).2) q) (rF c x T P)
theorem Go.ifnull_r (pF : Nat) {o : Int} {b : Addr} (hd : decode B.by pc = .ok (.ifnull o, 3)) (hF : pc + 3 = pF) (r : GoC CC LL Q Z B k n h pF Ls st) : GoC CC LL Q Z B k n h pc Ls (.ref b :: st) := fun x T P => by
  subst hF; exact lift (fun t q => XS.ifnullNo P.here P.ex rfl (P.d hd) rfl q) (r x T P)
theorem Go.ifnull_n (pT : Nat) {o : Int} (hd : decode B.by pc = .ok (.ifnull o, 3)) (h0 : 0 ≤ (pc : Int) + o) (hT : ((pc : Int) + o).toNat = pT) (r : GoC CC LL Q Z B k n h pT Ls st) : GoC CC LL Q Z B k n h pc Ls (.null :: st) := fun x T P =>
  lift (fun t q => XS.ifnullYes P.here P.ex rfl (pc0 := pc) rfl (P.d hd) rfl h0 hT q) (r x T P)
theorem Go.ifnonnull_r (pT : Nat) {o : Int} {b : Addr} (hd : decode B.by pc = .ok (.ifnonnull o, 3)) (h0 : 0 ≤ (pc : Int) + o) (hT : ((pc : Int) + o).toNat = pT) (r : GoC CC LL Q Z B k n h pT Ls st) : GoC CC LL Q Z B k n h pc Ls (.ref b :: st) := fun x T P =>
  lift (fun t q => XT.ifnonnullYes P.here P.ex rfl (pc0 := pc) rfl (P.d hd) rfl h0 hT q) (r x T P)
theorem Go.ifnonnull_n (pF : Nat) {o : Int} (hd : decode B.by pc = .ok (.ifnonnull o, 3)) (hF : pc + 3 = pF) (r : GoC CC LL Q Z B k n h pF Ls st) : GoC CC LL Q Z B k n h pc Ls (.null :: st) := fun x T P => by
  subst hF; exact lift (fun t q => XT.ifnonnullNo P.here P.ex rfl (P.d hd) rfl q) (r x T P)
theorem Go.acmp_eq (pT pF : Nat) {v w : Value} {o : Int} (hd : decode B.by pc = .ok (.if_acmp .eq o, 3)) (h0 : 0 ≤ (pc : Int) + o) (hT : ((pc : Int) + o).toNat = pT) (hF : pc + 3 = pF) (hv : v.isRef = true) (hw : w.isRef = true) (rT : v = w → GoC CC LL Q Z B k n h pT Ls st) (rF : ¬ v = w → GoC CC LL Q Z B k n h pF Ls st) : GoC CC LL Q Z B k n h pc Ls (w :: v :: st) := fun x T P => by
  subst hF
  by_cases c : v = w
  · exact lift (fun t q => XT.acmpYes P.here P.ex rfl (pc0 := pc) rfl (P.d hd) rfl hv hw (XT.aa_eq_t c) h0 hT q) (rT c x T P)
  · exact lift (fun t q => XT.acmpNo P.here P.ex rfl (P.d hd) rfl hv hw (XT.aa_eq_f c) q) (rF c x T P)
theorem Go.acmp_ne (pT pF : Nat) {v w : Value} {o : Int} (hd : decode B.by pc = .ok (.if_acmp .ne o, 3)) (h0 : 0 ≤ (pc : Int) + o) (hT : ((pc : Int) + o).toNat = pT) (hF : pc + 3 = pF) (hv : v.isRef = true) (hw : w.isRef = true) (rT : ¬ v = w → GoC CC LL Q Z B k n h pT Ls st) (rF : v = w → GoC CC LL Q Z B k n h pF Ls st) : GoC CC LL Q Z B k n h pc Ls (w :: v :: st) := fun x T P => by
  subst hF
  by_cases c : ¬ v = w
  · exact lift (fun t q => XT.acmpYes P.here P.ex rfl (pc0 := pc) rfl (P.d hd) rfl hv hw (XT.aa_ne_t c) h0 hT q) (rT c x T P)
  · replace c := Decidable.not_not.mp c
    exact lift (fun t q => XT.acmpNo P.here P.ex rfl (P.d hd) rfl hv hw (XT.aa_ne_f c) q) (rF c x T P)
theorem En.zz (E : En CC Z x B) : Z.Warmed39 x.s.vm := E.2.2.2.2.2.2.1
theorem En.own (E : En CC Z x B) : x.s.vm.findClass B.y.cls = some x.m.cls := E.2.2.2.1
theorem En.ml (E : En CC Z x B) : x.c.maxLocals = B.ml := E.2.2.1
theorem En.rt (E : En CC Z x B) : x.meth.sig.returnType = B.rt := E.2.2.2.2.2.1
theorem En.nl (E : En CC Z x B) : x.meth.locks = false := E.2.2.2.2.2.2.2.1
/-! ## constants of the pool -/
theorem Go.ldcI (pc' : Nat) (hp : pc + 2 = pc') {ix : Nat} {v : Int32} (i : Nat) (hd : decode B.by pc = .ok (.ldc ix, 2)) (w : B.tb[i]? = some (.constant B.y.cls ix v)) (r : GoC CC LL Q Z B k n h pc' Ls (.int v :: st)) : GoC CC LL Q Z B k n h pc Ls st := fun x T P => by
  subst hp
  obtain ⟨a0, hw⟩ := P.wd.w
  obtain ⟨E, _, _, X, _⟩ := id P
  exact lift (fun t q => X.ldcI P.ex E.own (mv E.zz (hw w)) rfl (P.d hd) q) (r x T P)
theorem Go.ldcWI (pc' : Nat) (hp : pc + 3 = pc') {ix : Nat} {v : Int32} (i : Nat) (hd : decode B.by pc = .ok (.ldc_w ix, 3)) (w : B.tb[i]? = some (.constant B.y.cls ix v)) (r : GoC CC LL Q Z B k n h pc' Ls (.int v :: st)) : GoC CC LL Q Z B k n h pc Ls st := fun x T P => by
  subst hp
  obtain ⟨a0, hw⟩ := P.wd.w
  obtain ⟨E, _, _, X, _⟩ := id P
  exact lift (fun t q => X.ldcWI P.ex E.own (mv E.zz (hw w)) rfl (P.d hd) q) (r x T P)
theorem Go.ldc2J (pc' : Nat) (hp : pc + 3 = pc') {ix : Nat} {v : Int64} (i : Nat) (hd : decode B.by pc = .ok (.ldc2_w ix, 3)) (w : B.tb[i]? = some (.constantLong B.y.cls ix v)) (r : GoC CC LL Q Z B k n h pc' Ls (.long v :: st)) : GoC CC LL Q Z B k n h pc Ls st := fun x T P => by
  subst hp
  obtain ⟨a0, hw⟩ := P.wd.w
  obtain ⟨E, _, _, X, _⟩ := id P
  exact lift (fun t q => X.ldc2J P.ex E.own (mv E.zz (hw w)) rfl (P.d hd) q) (r x T P)
theorem Go.ldc2D (pc' : Nat) (hp : pc + 3 = pc') {ix : Nat} {v : UInt64} (i : Nat) (hd : decode B.by pc = .ok (.ldc2_w ix, 3)) (w : B.tb[i]? = some (.constantDouble B.y.cls ix v)) (r : GoC CC LL Q Z B k n h pc' Ls (.double v :: st)) : GoC CC LL Q Z B k n h pc Ls st := fun x T P => by
  subst hp
  obtain ⟨a0, hw⟩ := P.wd.w
  obtain ⟨E, _, _, X, _⟩ := id P
  exact lift (fun t q => X.ldc2DoubleC P.ex E.own (mv E.zz (hw w)) (g := mkF x.m pc Ls st) rfl (P.d hd) t q) (r x T P)
/-! ## objects -/
theorem store_one {l l' : Array Slot} {i : Nat} {v : Value} {o : Slot} (hold : l[i]? = some o) (ho : One o) (hv : v.category = 1) (hl : l.setIfInBounds i (.val v) = l') : storeLocals l i v = some l' := by
  rw [XS.store1 hold ho hv, hl]
theorem ltN {a : Addr} {m : Nat} (q : @LT.lt Nat instLTNat a m) : @LT.lt Nat instLTNat a m := q
theorem keep_ext (E : Ext h h') : Keep h h' [] := (Keep.refl h []).ext E
theorem keep_wr {a : Addr} {sl : Nat} {v : Value} (W : Wr h h' a sl v) : Keep h h' [a] := Keep.of_wr W
theorem ext_keep {H : Heap} {ws : List Addr} (E : Ext H h) (K : Keep h h' ws) (q : ∀ y ∈ ws, H.size ≤ y) : Ext H h' :=
  ⟨Nat.le_trans E.1 K.1, fun y c r => K.2.1 y c (E.2 y c r) fun z => absurd (Array.getElem?_eq_some_iff.mp r).1 (Nat.not_lt.mpr (q y z))⟩
theorem ge1 {H : Nat} {a : Addr} (q : H ≤ a) : ∀ y ∈ [a], H ≤ y := allS q all0
theorem fr_snoc {K : Nat} {locs : List Loc} {a : Addr} {sl : Nat} (N : Fr K locs) (q : K ≤ a) : Fr K (locs ++ [⟨a, sl⟩]) := N.app fun y hy => by cases List.mem_singleton.mp hy; exact q
theorem Go.newO (pc' : Nat) (hp : pc + 3 = pc') {C : String} {ix sz : Nat} (i1 i2 i3 : Nat) (hd : decode B.by pc = .ok (.new ix, 3)) (w1 : B.tb[i1]? = some (.classLink B.y.cls ix C)) (w2 : B.tb[i2]? = some (.instantiable C sz)) (w3 : B.tb[i3]? = some (.initialized C)) (hc : k + 1 ≤ B.R.cells) (hl : n + sz ≤ B.R.slots)
    (r : ∀ (h' : Heap) (a : Addr), @Eq Nat a h.size → Z.heap.size ≤ a → Keep h h' [] → Exa Z h' a C → (∀ (i : Nat) {O nm d : String} {ty : FieldType}, B.tb[i]? = some (.lays C O nm d) ∨ B.tb[i]? = some (.laysFinal C O nm d) → parseFieldDescriptor d = some ty → Fld Z h' a O nm d (defaultValue ty)) → GoC CC LL Q Z B (k + 1) (n + sz) h' pc' Ls (.ref a :: st)) : GoC CC LL Q Z B k n h pc Ls st := fun x T P => by
  subst hp
  obtain ⟨a0, hw⟩ := P.wd.w
  obtain ⟨E, O', locs, X, e, N⟩ := id P
  obtain ⟨T', h', X', e', Ex, A, D, -, s'⟩ := RoadKit.newO X P.ex E.zz E.own (hw w1) (hw w2) (hw w3) e (g := mkF x.m pc Ls st) rfl (P.d hd) hc hl
  exact lift s' (r h' h.size rfl P.le (keep_ext Ex) A (fun i {O nm d ty} q ht => D (q.imp (fun z => hw z) (fun z => hw z)) ht) x T' ⟨E, ⟨⟨Nat.le_trans O'.1.1 Ex.1, fun y c q => Ex.2 y c (O'.1.2 y c q)⟩, O'.2.mono Ex.1⟩, locs, X', e', N⟩)
theorem Go.getF (pc' : Nat) (hp : pc + 3 = pc') {O nm d : String} {ix : Nat} {a : Addr} {v : Value} (i : Nat) (hd : decode B.by pc = .ok (.getfield ix, 3)) (w : B.tb[i]? = some (.fieldLink B.y.cls ix O nm d)) (F : Fld Z h a O nm d v) (r : GoC CC LL Q Z B k n h pc' Ls (v :: st)) : GoC CC LL Q Z B k n h pc Ls (.ref a :: st) := fun x T P => by
  subst hp
  obtain ⟨a0, hw⟩ := P.wd.w
  obtain ⟨E, O', locs, X, e, N⟩ := id P
  obtain ⟨T', X', e', s'⟩ := RoadKit.getF X P.ex E.zz E.own (host := "") (Or.inl (hw w)) Via.refl e F (g := mkF x.m pc Ls (.ref a :: st)) rfl rfl (P.d hd)
  exact lift s' (r x T' ⟨E, O', locs, X', e', N⟩)
theorem Go.getFN (pc' : Nat) (hp : pc + 3 = pc') {O nm d host : String} {ix : Nat} {a : Addr} {v : Value} (i : Nat) (hd : decode B.by pc = .ok (.getfield ix, 3)) (w : B.tb[i]? = some (.fieldLinkNest B.y.cls ix O nm d host)) (F : Fld Z h a O nm d v) (r : GoC CC LL Q Z B k n h pc' Ls (v :: st)) : GoC CC LL Q Z B k n h pc Ls (.ref a :: st) := fun x T P => by
  subst hp
  obtain ⟨a0, hw⟩ := P.wd.w
  obtain ⟨E, O', locs, X, e, N⟩ := id P
  obtain ⟨T', X', e', s'⟩ := RoadKit.getF X P.ex E.zz E.own (host := host) (Or.inr (hw w)) Via.refl e F (g := mkF x.m pc Ls (.ref a :: st)) rfl rfl (P.d hd)
  exact lift s' (r x T' ⟨E, O', locs, X', e', N⟩)
theorem Go.getFV (pc' : Nat) (hp : pc + 3 = pc') {R0 O nm d : String} {ix : Nat} {a : Addr} {v : Value} (i j : Nat) (hd : decode B.by pc = .ok (.getfield ix, 3)) (w : B.tb[i]? = some (.fieldLink B.y.cls ix R0 nm d)) (w2 : B.tb[j]? = some (.sameField R0 O nm d)) (F : Fld Z h a O nm d v) (r : GoC CC LL Q Z B k n h pc' Ls (v :: st)) : GoC CC LL Q Z B k n h pc Ls (.ref a :: st) := fun x T P => by
  subst hp
  obtain ⟨a0, hw⟩ := P.wd.w
  obtain ⟨E, O', locs, X, e, N⟩ := id P
  obtain ⟨T', X', e', s'⟩ := RoadKit.getF X P.ex E.zz E.own (host := "") (Or.inl (hw w)) (Via.of (hw w2)) e F (g := mkF x.m pc Ls (.ref a :: st)) rfl rfl (P.d hd)
  exact lift s' (r x T' ⟨E, O', locs, X', e', N⟩)
theorem Go.putF (pc' : Nat) (hp : pc + 3 = pc') {C O nm d : String} {ix sz : Nat} {ty : FieldType} {a : Addr} {v v' old : Value} (i1 i2 i3 : Nat) (hd : decode B.by pc = .ok (.putfield ix, 3)) (w1 : B.tb[i1]? = some (.fieldLink B.y.cls ix O nm d)) (F : Fld Z h a O nm d old) (Ea : Exa Z h a C)
    (L : B.tb[i2]? = some (.lays C O nm d) ∨ (B.tb[i2]? = some (.laysFinal C O nm d) ∧ B.y.cls = O ∧ B.y.name = "<init>")) (w3 : B.tb[i3]? = some (.instantiable C sz)) (hty : parseFieldDescriptor d = some ty) (hn : narrow ty v = v') (hf : fits ty v' = true) (ge : Z.heap.size ≤ a)
    (r : ∀ h' : Heap, Keep h h' [a] → Wr h h' a (RoadKit.slotOf Z O nm d) v' → Fld Z h' a O nm d v' → GoC CC (fun _ => True) Q Z B k n h' pc' Ls st) : GoC CC LL Q Z B k n h pc Ls (v :: .ref a :: st) := fun x T P => by
  subst hp
  obtain ⟨a0, hw⟩ := P.wd.w
  obtain ⟨E, O', locs, X, e, N⟩ := id P
  obtain ⟨T', h', X', e', W, s'⟩ := putFN X P.ex E.zz E.own (hw w1) Via.refl e F Ea (L.imp (fun z => hw z) (fun z => ⟨hw z.1, z.2.1, E.2.2.2.2.1.trans z.2.2⟩)) (hw w3) hty hn hf (g := mkF x.m pc Ls (v :: .ref a :: st)) rfl rfl (P.d hd)
  exact lift s' (r h' (keep_wr W) W (F.same W) x T' ⟨E, ⟨ext_keep O'.1 (keep_wr W) (ge1 ge), O'.2.mono (keep_wr W).1⟩, _, X', e', fr_snoc N.1 ge, trivial⟩)
theorem Go.putFV (pc' : Nat) (hp : pc + 3 = pc') {R0 C O nm d : String} {ix sz : Nat} {ty : FieldType} {a : Addr} {v v' old : Value} (i1 i2 i3 i4 : Nat) (hd : decode B.by pc = .ok (.putfield ix, 3)) (w1 : B.tb[i1]? = some (.fieldLink B.y.cls ix R0 nm d)) (w4 : B.tb[i4]? = some (.sameField R0 O nm d)) (F : Fld Z h a O nm d old) (Ea : Exa Z h a C)
    (L : B.tb[i2]? = some (.lays C O nm d) ∨ (B.tb[i2]? = some (.laysFinal C O nm d) ∧ B.y.cls = O ∧ B.y.name = "<init>")) (w3 : B.tb[i3]? = some (.instantiable C sz)) (hty : parseFieldDescriptor d = some ty) (hn : narrow ty v = v') (hf : fits ty v' = true) (ge : Z.heap.size ≤ a)
    (r : ∀ h' : Heap, Keep h h' [a] → Wr h h' a (RoadKit.slotOf Z O nm d) v' → Fld Z h' a O nm d v' → GoC CC (fun _ => True) Q Z B k n h' pc' Ls st) : GoC CC LL Q Z B k n h pc Ls (v :: .ref a :: st) := fun x T P => by
  subst hp
  obtain ⟨a0, hw⟩ := P.wd.w
  obtain ⟨E, O', locs, X, e, N⟩ := id P
  obtain ⟨T', h', X', e', W, s'⟩ := putFN X P.ex E.zz E.own (hw w1) (Via.of (hw w4)) e F Ea (L.imp (fun z => hw z) (fun z => ⟨hw z.1, z.2.1, E.2.2.2.2.1.trans z.2.2⟩)) (hw w3) hty hn hf (g := mkF x.m pc Ls (v :: .ref a :: st)) rfl rfl (P.d hd)
  exact lift s' (r h' (keep_wr W) W (F.same W) x T' ⟨E, ⟨ext_keep O'.1 (keep_wr W) (ge1 ge), O'.2.mono (keep_wr W).1⟩, _, X', e', fr_snoc N.1 ge, trivial⟩)
/-- another field of the object that was written -/
theorem Fld.oth {C O nm d O2 nm2 d2 : String} {tb : List Cond} {a b : Addr} {v w : Value} {t t' : FieldType} (hw : Wd Z tb) (F : Fld Z h b O nm d w) (W : Wr h h' a (RoadKit.slotOf Z O2 nm2 d2) v) (i j : Nat) (L1 : tb[i]? = some (.lays C O nm d) ∨ tb[i]? = some (.laysFinal C O nm d)) (L2 : tb[j]? = some (.lays C O2 nm2 d2) ∨ tb[j]? = some (.laysFinal C O2 nm2 d2))
    (hn : nm ≠ nm2) (ht : parseFieldDescriptor d = some t) (ht' : parseFieldDescriptor d2 = some t') : Fld Z h' b O nm d w := by
  obtain ⟨a0, hw⟩ := hw.w
  exact F.other W (Or.inr (RoadKit.slot_ne (a0 := a0) (L1.imp (fun z => hw z) (fun z => hw z)) (L2.imp (fun z => hw z) (fun z => hw z)) hn ht ht'))
theorem Go.getS (pc' : Nat) (hp : pc + 3 = pc') {O nm d : String} {ix : Nat} {v : Value} (i : Nat) (hd : decode B.by pc = .ok (.getstatic ix, 3)) (w : B.tb[i]? = some (.fieldLink B.y.cls ix O nm d)) (F : Sta Z Z.heap O nm d v) (r : GoC CC LL Q Z B k n h pc' Ls (v :: st)) : GoC CC LL Q Z B k n h pc Ls st := fun x T P => by
  subst hp
  obtain ⟨a0, hw⟩ := P.wd.w
  obtain ⟨E, O', locs, X, e, N⟩ := id P
  obtain ⟨T', X', e', s'⟩ := RoadKit.getS X P.ex E.zz (host := "") E.own (hw w) Via.refl e (F.ext O'.1) (g := mkF x.m pc Ls st) rfl (P.d hd)
  exact lift s' (r x T' ⟨E, O', locs, X', e', N⟩)
theorem Go.getSN (pc' : Nat) (hp : pc + 3 = pc') {O nm d host : String} {ix : Nat} {v : Value} (i : Nat) (hd : decode B.by pc = .ok (.getstatic ix, 3)) (w : B.tb[i]? = some (.fieldLinkNest B.y.cls ix O nm d host)) (F : Sta Z Z.heap O nm d v) (r : GoC CC LL Q Z B k n h pc' Ls (v :: st)) : GoC CC LL Q Z B k n h pc Ls st := fun x T P => by
  subst hp
  obtain ⟨a0, hw⟩ := P.wd.w
  obtain ⟨E, O', locs, X, e, N⟩ := id P
  obtain ⟨T', X', e', s'⟩ := getS2 X P.ex E.zz (host := host) E.own (Or.inr (hw w)) Via.refl e (F.ext O'.1) (g := mkF x.m pc Ls st) rfl (P.d hd)
  exact lift s' (r x T' ⟨E, O', locs, X', e', N⟩)
theorem Go.castY (pc' : Nat) (hp : pc + 3 = pc') {K : String} {ix : Nat} {a : Addr} (i : Nat) (hd : decode B.by pc = .ok (.checkcast ix, 3)) (w : B.tb[i]? = some (.classLink B.y.cls ix K)) (F : Ins Z h a K true) (r : GoC CC LL Q Z B k n h pc' Ls (.ref a :: st)) : GoC CC LL Q Z B k n h pc Ls (.ref a :: st) := fun x T P => by
  subst hp
  obtain ⟨a0, hw⟩ := P.wd.w
  obtain ⟨E, O', locs, X, e, N⟩ := id P
  obtain ⟨T', X', e', s'⟩ := RoadKit.castY X P.ex E.zz E.own (hw w) e F (g := mkF x.m pc Ls (.ref a :: st)) rfl rfl (P.d hd)
  exact lift s' (r x T' ⟨E, O', locs, X', e', N⟩)
theorem Go.instY (pc' : Nat) (hp : pc + 3 = pc') {K : String} {ix : Nat} {a : Addr} (i : Nat) (hd : decode B.by pc = .ok (.instanceof ix, 3)) (w : B.tb[i]? = some (.classLink B.y.cls ix K)) (F : Ins Z h a K true) (r : GoC CC LL Q Z B k n h pc' Ls (.int 1 :: st)) : GoC CC LL Q Z B k n h pc Ls (.ref a :: st) := fun x T P => by
  subst hp
  obtain ⟨a0, hw⟩ := P.wd.w
  obtain ⟨E, O', locs, X, e, N⟩ := id P
  obtain ⟨T', X', e', s'⟩ := RoadKit.instY X P.ex E.zz E.own (hw w) e F (g := mkF x.m pc Ls (.ref a :: st)) rfl rfl (P.d hd)
  exact lift s' (r x T' ⟨E, O', locs, X', e', N⟩)
theorem Go.instNo (pc' : Nat) (hp : pc + 3 = pc') {C K : String} {ix : Nat} {a : Addr} (i : Nat) (hd : decode B.by pc = .ok (.instanceof ix, 3)) (w : B.tb[i]? = some (.classLink B.y.cls ix K)) (Ea : Exa Z h a C) (F : ∃ c t, Z.vm.findClass C = some c ∧ Z.vm.findClass K = some t ∧ Z.vm.assignable c t = false) (r : GoC CC LL Q Z B k n h pc' Ls (.int 0 :: st)) : GoC CC LL Q Z B k n h pc Ls (.ref a :: st) := fun x T P => by
  subst hp
  obtain ⟨a0, hw⟩ := P.wd.w
  obtain ⟨E, O', locs, X, e, N⟩ := id P
  obtain ⟨T', X', e', s'⟩ := RoadKit.instNo X P.ex E.zz E.own (hw w) e Ea F (g := mkF x.m pc Ls (.ref a :: st)) rfl rfl (P.d hd)
  exact lift s' (r x T' ⟨E, O', locs, X', e', N⟩)
theorem Go.initO (pc' : Nat) (hp : pc + 3 = pc') {ix : Nat} {a : Addr} (i1 i2 i3 : Nat) (hd : decode B.by pc = .ok (.invokespecial ix, 3)) (w1 : B.tb[i1]? = some (.methodLink B.y.cls ix Lib.objectInit)) (w2 : B.tb[i2]? = some (.instanceMethod Lib.objectInit)) (w3 : B.tb[i3]? = some (.code Lib.objectInit ⟨#[0xb1]⟩ 1 none)) (hs : Ls.size = B.ml) (hf : 1 ≤ B.R.frames) {W : Nat} (hW : (st.map fun v => v.category).sum ≤ W) (hl : W + 12 ≤ B.R.locals)
    (r : GoC CC LL Q Z B k n h pc' Ls st) : GoC CC LL Q Z B k n h pc Ls (.ref a :: st) := fun x T P => by
  subst hp
  obtain ⟨a0, hw⟩ := P.wd.w
  obtain ⟨E, O', locs, X, e, N⟩ := id P
  obtain ⟨T', X', e', s'⟩ := RoadKit.initO X P.ex E.zz E.own (hw w1) (hw w2) (hw w3) e (g := mkF x.m pc Ls (.ref a :: st)) rfl (by rw [E.ml]; exact hs) rfl (P.d hd) hf (W := W) (by show 2 * 0 + _ ≤ _; omega) hl
  exact lift s' (r x T' ⟨E, O', locs, X', e', N⟩)
/-! ## arrays -/
theorem Ary.lt {a : Addr} {ty : FieldType} {vs : List Value} (A : Ary Z h a ty vs) : a < h.size := by obtain ⟨c, A, -⟩ := A; exact A.lt
theorem Ary.len {a : Addr} {ty : FieldType} {vs : List Value} (A : Ary Z h a ty vs) : vs.length < 2 ^ 31 := by obtain ⟨c, -, -, r, -⟩ := A; exact r
theorem len_ofNat {m : Nat} (hm : m < 2 ^ 31) : (Int32.ofNat m).toInt = m := Int32.toInt_ofNat_of_lt hm
theorem ofNat_zero {m : Nat} (hm : m < 2 ^ 31) : Int32.ofNat m = 0 ↔ m = 0 := by
  constructor
  · intro q; have := len_ofNat hm; rw [q] at this; have z : (0 : Int32).toInt = 0 := rfl; omega
  · intro q; subst q; rfl
theorem Ary.keep {a : Addr} {ty : FieldType} {vs : List Value} {ws : List Addr} (A : Ary Z h a ty vs) (K : Keep h h' ws) (q : a ∉ ws) : Ary Z h' a ty vs := by
  obtain ⟨c, A, r⟩ := A; exact ⟨c, ⟨K.2.1 a c A.1 q, A.2⟩, r⟩
theorem Ary.ext {a : Addr} {ty : FieldType} {vs : List Value} (E : Ext h h') (A : Ary Z h a ty vs) : Ary Z h' a ty vs := by
  obtain ⟨c, A, r⟩ := A; exact ⟨c, A.ext E, r⟩
theorem Aov.keep {a : Addr} {C : String} {ws : List Addr} (A : Aov Z h a C) (K : Keep h h' ws) : Aov Z h' a C := by
  obtain ⟨c, A, r⟩ := A; obtain ⟨c', q1, q2, -⟩ := K.2.2 a c A; exact ⟨c', q1, q2 ▸ r⟩
theorem Ins.keep {a : Addr} {C : String} {b : Bool} {ws : List Addr} (A : Ins Z h a C b) (K : Keep h h' ws) : Ins Z h' a C b := by
  obtain ⟨c, cT, A, r1, r2⟩ := A; obtain ⟨c', q1, q2, q3, -⟩ := K.2.2 a c A; exact ⟨c', cT, q1, r1, by rw [q2, q3]; exact r2⟩
theorem Sta.keepO {C nm d : String} {w : Value} (E : Ext Z.heap h) (F : Sta Z Z.heap C nm d w) : Sta Z h C nm d w := F.ext E
theorem ix_in {m : Nat} {j : Int32} (h0 : 0 ≤ j.toInt) (h1 : j.toInt < m) : ¬ (j < 0 ∨ m ≤ j.toNatClampNeg) := by
  intro q
  rcases q with q | q
  · rw [Int32.lt_iff_toInt_lt] at q; have : (0 : Int32).toInt = 0 := rfl; omega
  · have := nat_of (j := j) (by rw [Int32.lt_iff_toInt_lt]; have : (0 : Int32).toInt = 0 := rfl; omega); omega
theorem ix_nat {m : Nat} {j : Int32} (h0 : j.toInt = m) : j.toNatClampNeg = m := by
  have := nat_of (j := j) (by rw [Int32.lt_iff_toInt_lt]; have : (0 : Int32).toInt = 0 := rfl; omega); omega
theorem len_nat {m : Nat} (h : m < 2 ^ 31) : m.toInt32.toInt = m := len_toInt h
theorem slots_at {c : Cell} {vs : List Value} (e : c.slots.toList = vs) (j : Nat) : c.slots[j]? = vs[j]? := by rw [← e]; simp
theorem Go.newA (pc' : Nat) (hp : pc + 2 = pc') {aty : ArrayType} {m : Int32} (i cap N : Nat) (hd : decode B.by pc = .ok (.newarray aty, 2)) (w : B.tb[i]? = some (.arrayClass (newarray.typeOf aty))) (hN : m.toInt = N) (hcap : N ≤ cap) (hb : cap * 8 ≤ 536870912) (hc : k + 1 ≤ B.R.cells) (hl : n + cap ≤ B.R.slots)
    (r : ∀ (h' : Heap) (a : Addr), @Eq Nat a h.size → Z.heap.size ≤ a → Keep h h' [] → Ary Z h' a (newarray.typeOf aty) (List.replicate N (defaultValue (newarray.typeOf aty))) → Exa Z h' a ("[" ++ (newarray.typeOf aty).toString) → GoC CC LL Q Z B (k + 1) (n + cap) h' pc' Ls (.ref a :: st)) : GoC CC LL Q Z B k n h pc Ls (.int m :: st) := fun x T P => by
  subst hp
  obtain ⟨a0, hw⟩ := P.wd.w
  obtain ⟨E, O', locs, X, e, N'⟩ := id P
  have hm : ¬ m < 0 := by rw [Int32.lt_iff_toInt_lt]; have : (0 : Int32).toInt = 0 := rfl; omega
  obtain ⟨T', h', cA, X', e', Ex, A, A', s'⟩ := newPE X P.ex E.zz (hw w) e (g := mkF x.m pc Ls (.int m :: st)) rfl (P.d hd) rfl hm (cap := cap) (by rw [ix_nat hN]; exact hcap) hb hc hl rfl
  have hlen : N < 2 ^ 31 := by have := m.toInt_lt; omega
  refine lift s' (r h' h.size rfl P.le (keep_ext Ex) ⟨_, A, ?_, ?_, ?_⟩ A' x T' ⟨E, ⟨⟨Nat.le_trans O'.1.1 Ex.1, fun y c q => Ex.2 y c (O'.1.2 y c q)⟩, O'.2.mono Ex.1⟩, locs, X', e', N'⟩)
  · show (Array.replicate _ _).toList = _
    rw [ix_nat hN, Array.toList_replicate]
  · rw [List.length_replicate]; exact hlen
  · intro v hv
    rw [List.eq_of_mem_replicate hv]
    cases aty <;> rfl
theorem Go.newR (pc' : Nat) (hp : pc + 3 = pc') {C : String} {ix : Nat} {m : Int32} (i1 i2 cap N : Nat) (hd : decode B.by pc = .ok (.anewarray ix, 3)) (w1 : B.tb[i1]? = some (.classLink B.y.cls ix C)) (w2 : B.tb[i2]? = some (.arrayOver (.object C))) (hN : m.toInt = N) (hcap : N ≤ cap) (hb : cap * 8 ≤ 536870912) (hc : k + 1 ≤ B.R.cells) (hl : n + cap ≤ B.R.slots)
    (r : ∀ (h' : Heap) (a : Addr), @Eq Nat a h.size → Z.heap.size ≤ a → Keep h h' [] → Ary Z h' a (.object C) (List.replicate N .null) → Exa Z h' a ("[" ++ (FieldType.object C).toString) → Aov Z h' a C → GoC CC LL Q Z B (k + 1) (n + cap) h' pc' Ls (.ref a :: st)) : GoC CC LL Q Z B k n h pc Ls (.int m :: st) := fun x T P => by
  subst hp
  obtain ⟨a0, hw⟩ := P.wd.w
  obtain ⟨E, O', locs, X, e, N'⟩ := id P
  have hm : ¬ m < 0 := by rw [Int32.lt_iff_toInt_lt]; have : (0 : Int32).toInt = 0 := rfl; omega
  obtain ⟨T', h', cA, X', e', Ex, A, A', O1, s'⟩ := newRE X P.ex E.zz E.own (hw w1) (hw w2) e (g := mkF x.m pc Ls (.int m :: st)) rfl (P.d hd) rfl hm (cap := cap) (by rw [ix_nat hN]; exact hcap) hb hc hl rfl
  have hlen : N < 2 ^ 31 := by have := m.toInt_lt; omega
  refine lift s' (r h' h.size rfl P.le (keep_ext Ex) ⟨_, A, ?_, ?_, ?_⟩ A' ⟨_, A.1, O1⟩ x T' ⟨E, ⟨⟨Nat.le_trans O'.1.1 Ex.1, fun y c q => Ex.2 y c (O'.1.2 y c q)⟩, O'.2.mono Ex.1⟩, locs, X', e', N'⟩)
  · show (Array.replicate _ _).toList = _
    rw [ix_nat hN, Array.toList_replicate]; rfl
  · rw [List.length_replicate]; exact hlen
  · intro v hv
    rw [List.eq_of_mem_replicate hv]; rfl
theorem Go.alen (pc' : Nat) (hp : pc + 1 = pc') {ty : FieldType} {a : Addr} {vs : List Value} (v : Int32) (hd : decode B.by pc = .ok (.arraylength, 1)) (A : Ary Z h a ty vs) (hv : v.toInt = vs.length) (r : GoC CC LL Q Z B k n h pc' Ls (.int v :: st)) : GoC CC LL Q Z B k n h pc Ls (.ref a :: st) := fun x T P => by
  subst hp
  obtain ⟨E, O', locs, X, e, N'⟩ := id P
  obtain ⟨c, A, e1, e2, e3⟩ := A
  have : c.slots.size.toInt32 = v := by
    have q : c.slots.size = vs.length := by rw [← e1]; simp
    apply Int32.toInt_inj.mp
    rw [q, hv, len_toInt e2]
  exact lift (fun t q => X.arraylength P.ex (by rw [e]; exact A.1) (State.isArrayOf_alike E.zz.alike A.2.1) (g := mkF x.m pc Ls (.ref a :: st)) rfl rfl (P.d hd) t (by rw [this]; exact q)) (r x T P)
theorem Go.iaload (pc' : Nat) (hp : pc + 1 = pc') {a : Addr} {vs : List Value} {j : Int32} (v : Int32) (hd : decode B.by pc = .ok (.iaload, 1)) (A : Ary Z h a .int vs) (jn : Nat) (hj : j.toInt = jn) (hv : vs[jn]? = some (.int v)) (r : GoC CC LL Q Z B k n h pc' Ls (.int v :: st)) : GoC CC LL Q Z B k n h pc Ls (.int j :: .ref a :: st) := fun x T P => by
  subst hp
  obtain ⟨E, O', locs, X, e, N'⟩ := id P
  obtain ⟨c, A, e1, e2, e3⟩ := A
  have q : c.slots.size = vs.length := by rw [← e1]; simp
  have hlt := (List.getElem?_eq_some_iff.mp hv).1
  exact lift (fun t q' => X.iaload P.ex (j := j) (v := .int v) (by rw [e]; exact A.1) (State.isArrayOf_alike E.zz.alike A.2.1) A.2.2 (ix_in (by omega) (by omega)) (by rw [ix_nat hj, slots_at e1]; exact hv) (g := mkF x.m pc Ls (.int j :: .ref a :: st)) rfl rfl (P.d hd) t q') (r x T P)
theorem Go.laload (pc' : Nat) (hp : pc + 1 = pc') {a : Addr} {vs : List Value} {j : Int32} (v : Int64) (hd : decode B.by pc = .ok (.laload, 1)) (A : Ary Z h a .long vs) (jn : Nat) (hj : j.toInt = jn) (hv : vs[jn]? = some (.long v)) (r : GoC CC LL Q Z B k n h pc' Ls (.long v :: st)) : GoC CC LL Q Z B k n h pc Ls (.int j :: .ref a :: st) := fun x T P => by
  subst hp
  obtain ⟨E, O', locs, X, e, N'⟩ := id P
  obtain ⟨c, A, e1, e2, e3⟩ := A
  have q : c.slots.size = vs.length := by rw [← e1]; simp
  have hlt := (List.getElem?_eq_some_iff.mp hv).1
  exact lift (fun t q' => X.laload P.ex (j := j) (v := .long v) (by rw [e]; exact A.1) (State.isArrayOf_alike E.zz.alike A.2.1) A.2.2 (ix_in (by omega) (by omega)) (by rw [ix_nat hj, slots_at e1]; exact hv) (g := mkF x.m pc Ls (.int j :: .ref a :: st)) rfl rfl (P.d hd) t q') (r x T P)
theorem Go.caload (pc' : Nat) (hp : pc + 1 = pc') {a : Addr} {vs : List Value} {j : Int32} (v : Int32) (hd : decode B.by pc = .ok (.caload, 1)) (A : Ary Z h a .char vs) (jn : Nat) (hj : j.toInt = jn) (hv : vs[jn]? = some (.int v)) (r : GoC CC LL Q Z B k n h pc' Ls (.int v :: st)) : GoC CC LL Q Z B k n h pc Ls (.int j :: .ref a :: st) := fun x T P => by
  subst hp
  obtain ⟨E, O', locs, X, e, N'⟩ := id P
  obtain ⟨c, A, e1, e2, e3⟩ := A
  have q : c.slots.size = vs.length := by rw [← e1]; simp
  have hlt := (List.getElem?_eq_some_iff.mp hv).1
  exact lift (fun t q' => X.caload P.ex (j := j) (v := .int v) (by rw [e]; exact A.1) (State.isArrayOf_alike E.zz.alike A.2.1) A.2.2 (ix_in (by omega) (by omega)) (by rw [ix_nat hj, slots_at e1]; exact hv) (g := mkF x.m pc Ls (.int j :: .ref a :: st)) rfl rfl (P.d hd) t q') (r x T P)
theorem Go.saload (pc' : Nat) (hp : pc + 1 = pc') {a : Addr} {vs : List Value} {j : Int32} (v : Int32) (hd : decode B.by pc = .ok (.saload, 1)) (A : Ary Z h a .short vs) (jn : Nat) (hj : j.toInt = jn) (hv : vs[jn]? = some (.int v)) (r : GoC CC LL Q Z B k n h pc' Ls (.int v :: st)) : GoC CC LL Q Z B k n h pc Ls (.int j :: .ref a :: st) := fun x T P => by
  subst hp
  obtain ⟨E, O', locs, X, e, N'⟩ := id P
  obtain ⟨c, A, e1, e2, e3⟩ := A
  have q : c.slots.size = vs.length := by rw [← e1]; simp
  have hlt := (List.getElem?_eq_some_iff.mp hv).1
  exact lift (fun t q' => X.saload P.ex (j := j) (v := .int v) (by rw [e]; exact A.1) (State.isArrayOf_alike E.zz.alike A.2.1) A.2.2 (ix_in (by omega) (by omega)) (by rw [ix_nat hj, slots_at e1]; exact hv) (g := mkF x.m pc Ls (.int j :: .ref a :: st)) rfl rfl (P.d hd) t q') (r x T P)
theorem Go.baload (pc' : Nat) (hp : pc + 1 = pc') {a : Addr} {vs : List Value} {j : Int32} (v : Int32) (hd : decode B.by pc = .ok (.baload, 1)) (A : Ary Z h a .byte vs) (jn : Nat) (hj : j.toInt = jn) (hv : vs[jn]? = some (.int v)) (r : GoC CC LL Q Z B k n h pc' Ls (.int v :: st)) : GoC CC LL Q Z B k n h pc Ls (.int j :: .ref a :: st) := fun x T P => by
  subst hp
  obtain ⟨E, O', locs, X, e, N'⟩ := id P
  obtain ⟨c, A, e1, e2, e3⟩ := A
  have q : c.slots.size = vs.length := by rw [← e1]; simp
  have hlt := (List.getElem?_eq_some_iff.mp hv).1
  exact lift (fun t q' => X.baloadBytes P.ex (j := j) (v := .int v) (by rw [e]; exact A.1) (State.isArrayOf_alike E.zz.alike A.2.1) A.2.2 (ix_in (by omega) (by omega)) (by rw [ix_nat hj, slots_at e1]; exact hv) (g := mkF x.m pc Ls (.int j :: .ref a :: st)) rfl rfl (P.d hd) t q') (r x T P)
theorem Go.zaload (pc' : Nat) (hp : pc + 1 = pc') {a : Addr} {vs : List Value} {j : Int32} (v : Int32) (hd : decode B.by pc = .ok (.baload, 1)) (A : Ary Z h a .boolean vs) (jn : Nat) (hj : j.toInt = jn) (hv : vs[jn]? = some (.int v)) (r : GoC CC LL Q Z B k n h pc' Ls (.int v :: st)) : GoC CC LL Q Z B k n h pc Ls (.int j :: .ref a :: st) := fun x T P => by
  subst hp
  obtain ⟨E, O', locs, X, e, N'⟩ := id P
  obtain ⟨c, A, e1, e2, e3⟩ := A
  have q : c.slots.size = vs.length := by rw [← e1]; simp
  have hlt := (List.getElem?_eq_some_iff.mp hv).1
  exact lift (fun t q' => X.baloadBooleans P.ex (j := j) (v := .int v) (by rw [e]; exact A.1) (State.isArrayOf_alike E.zz.alike A.2.1) A.2.2 (ix_in (by omega) (by omega)) (by rw [ix_nat hj, slots_at e1]; exact hv) (g := mkF x.m pc Ls (.int j :: .ref a :: st)) rfl rfl (P.d hd) t q') (r x T P)
theorem Go.aaload (pc' : Nat) (hp : pc + 1 = pc') {ty : FieldType} {a : Addr} {vs : List Value} {j : Int32} (v : Value) (hd : decode B.by pc = .ok (.aaload, 1)) (hty : ty.isReference = true) (A : Ary Z h a ty vs) (jn : Nat) (hj : j.toInt = jn) (hv : vs[jn]? = some v) (r : GoC CC LL Q Z B k n h pc' Ls (v :: st)) : GoC CC LL Q Z B k n h pc Ls (.int j :: .ref a :: st) := fun x T P => by
  subst hp
  obtain ⟨E, O', locs, X, e, N'⟩ := id P
  obtain ⟨c, A, e1, e2, e3⟩ := A
  have q : c.slots.size = vs.length := by rw [← e1]; simp
  have hlt := (List.getElem?_eq_some_iff.mp hv).1
  exact lift (fun t q' => X.aaload P.ex (j := j) (v := v) (by rw [e]; exact A.1) (State.isArrayOf_alike E.zz.alike A.2.1) hty A.2.2 (ix_in (by omega) (by omega)) (by rw [ix_nat hj, slots_at e1]; exact hv) (g := mkF x.m pc Ls (.int j :: .ref a :: st)) rfl rfl (P.d hd) t q') (r x T P)
/-- a store into an array -/
theorem Ary.set {a : Addr} {ty : FieldType} {vs : List Value} {j : Nat} {v : Value} {c : Cell} (A : Arr Z h a c ty) (e1 : c.slots.toList = vs) (e2 : vs.length < 2 ^ 31) (e3 : ∀ v ∈ vs, fits ty v = true) (W : Wr h h' a j v) (hv : fits ty v = true) : Ary Z h' a ty (vs.set j v) := by
  refine ⟨c.setSlot j v, A.same W, ?_, by rw [List.length_set]; exact e2, fun w hw => ?_⟩
  · show (c.slots.setIfInBounds j v).toList = _
    rw [Array.toList_setIfInBounds, e1]
  · rcases List.mem_or_eq_of_mem_set hw with q | rfl
    · exact e3 _ q
    · exact hv
theorem Go.stI (pc' : Nat) (hp : pc + 1 = pc') {a : Addr} {vs : List Value} {j : Int32} {v : Int32} (hd : decode B.by pc = .ok (.iastore, 1)) (A : Ary Z h a .int vs) (jn : Nat) (hj : j.toInt = jn) (hlt : jn < vs.length) (ge : Z.heap.size ≤ a)
    (r : ∀ h' : Heap, Keep h h' [a] → Ary Z h' a .int (vs.set jn (.int v)) → GoC CC (fun _ => True) Q Z B k n h' pc' Ls st) : GoC CC LL Q Z B k n h pc Ls (.int v :: .int j :: .ref a :: st) := fun x T P => by
  subst hp
  obtain ⟨E, O', locs, X, e, N⟩ := id P
  obtain ⟨c, A, e1, e2, e3⟩ := A
  have q : c.slots.size = vs.length := by rw [← e1]; simp
  obtain ⟨T', h', X', e', W, s'⟩ := RoadKit.stI X P.ex E.zz e A (j := j) (ix_in (by omega) (by omega)) (g := mkF x.m pc Ls (.int v :: .int j :: .ref a :: st)) rfl rfl (P.d hd)
  rw [ix_nat hj] at W
  exact lift s' (r h' (keep_wr W) (Ary.set A e1 e2 e3 W (rfl)) x T' ⟨E, ⟨ext_keep O'.1 (keep_wr W) (ge1 ge), O'.2.mono (keep_wr W).1⟩, _, X', e', fr_snoc N.1 ge, trivial⟩)
theorem Go.stJ (pc' : Nat) (hp : pc + 1 = pc') {a : Addr} {vs : List Value} {j : Int32} {v : Int64} (hd : decode B.by pc = .ok (.lastore, 1)) (A : Ary Z h a .long vs) (jn : Nat) (hj : j.toInt = jn) (hlt : jn < vs.length) (ge : Z.heap.size ≤ a)
    (r : ∀ h' : Heap, Keep h h' [a] → Ary Z h' a .long (vs.set jn (.long v)) → GoC CC (fun _ => True) Q Z B k n h' pc' Ls st) : GoC CC LL Q Z B k n h pc Ls (.long v :: .int j :: .ref a :: st) := fun x T P => by
  subst hp
  obtain ⟨E, O', locs, X, e, N⟩ := id P
  obtain ⟨c, A, e1, e2, e3⟩ := A
  have q : c.slots.size = vs.length := by rw [← e1]; simp
  obtain ⟨T', h', X', e', W, s'⟩ := RoadKit.stJ X P.ex E.zz e A (j := j) (ix_in (by omega) (by omega)) (g := mkF x.m pc Ls (.long v :: .int j :: .ref a :: st)) rfl rfl (P.d hd)
  rw [ix_nat hj] at W
  exact lift s' (r h' (keep_wr W) (Ary.set A e1 e2 e3 W (rfl)) x T' ⟨E, ⟨ext_keep O'.1 (keep_wr W) (ge1 ge), O'.2.mono (keep_wr W).1⟩, _, X', e', fr_snoc N.1 ge, trivial⟩)
theorem Go.stC (pc' : Nat) (hp : pc + 1 = pc') {a : Addr} {vs : List Value} {j : Int32} {v : Int32} (hd : decode B.by pc = .ok (.castore, 1)) (A : Ary Z h a .char vs) (jn : Nat) (hj : j.toInt = jn) (hlt : jn < vs.length) (ge : Z.heap.size ≤ a)
    (r : ∀ h' : Heap, Keep h h' [a] → Ary Z h' a .char (vs.set jn (.int (nar .char v))) → GoC CC (fun _ => True) Q Z B k n h' pc' Ls st) : GoC CC LL Q Z B k n h pc Ls (.int v :: .int j :: .ref a :: st) := fun x T P => by
  subst hp
  obtain ⟨E, O', locs, X, e, N⟩ := id P
  obtain ⟨c, A, e1, e2, e3⟩ := A
  have q : c.slots.size = vs.length := by rw [← e1]; simp
  obtain ⟨T', h', X', e', W, s'⟩ := RoadKit.stC X P.ex E.zz e A (j := j) (ix_in (by omega) (by omega)) (g := mkF x.m pc Ls (.int v :: .int j :: .ref a :: st)) rfl rfl (P.d hd)
  rw [ix_nat hj] at W
  exact lift s' (r h' (keep_wr W) (Ary.set A e1 e2 e3 W (fits_nar_char v)) x T' ⟨E, ⟨ext_keep O'.1 (keep_wr W) (ge1 ge), O'.2.mono (keep_wr W).1⟩, _, X', e', fr_snoc N.1 ge, trivial⟩)
theorem Go.stS (pc' : Nat) (hp : pc + 1 = pc') {a : Addr} {vs : List Value} {j : Int32} {v : Int32} (hd : decode B.by pc = .ok (.sastore, 1)) (A : Ary Z h a .short vs) (jn : Nat) (hj : j.toInt = jn) (hlt : jn < vs.length) (ge : Z.heap.size ≤ a)
    (r : ∀ h' : Heap, Keep h h' [a] → Ary Z h' a .short (vs.set jn (.int (nar .short v))) → GoC CC (fun _ => True) Q Z B k n h' pc' Ls st) : GoC CC LL Q Z B k n h pc Ls (.int v :: .int j :: .ref a :: st) := fun x T P => by
  subst hp
  obtain ⟨E, O', locs, X, e, N⟩ := id P
  obtain ⟨c, A, e1, e2, e3⟩ := A
  have q : c.slots.size = vs.length := by rw [← e1]; simp
  obtain ⟨T', h', X', e', W, s'⟩ := RoadKit.stS X P.ex E.zz e A (j := j) (ix_in (by omega) (by omega)) (g := mkF x.m pc Ls (.int v :: .int j :: .ref a :: st)) rfl rfl (P.d hd)
  rw [ix_nat hj] at W
  exact lift s' (r h' (keep_wr W) (Ary.set A e1 e2 e3 W (fits_nar_short v)) x T' ⟨E, ⟨ext_keep O'.1 (keep_wr W) (ge1 ge), O'.2.mono (keep_wr W).1⟩, _, X', e', fr_snoc N.1 ge, trivial⟩)
theorem Go.stB (pc' : Nat) (hp : pc + 1 = pc') {a : Addr} {vs : List Value} {j : Int32} {v : Int32} (hd : decode B.by pc = .ok (.bastore, 1)) (A : Ary Z h a .byte vs) (jn : Nat) (hj : j.toInt = jn) (hlt : jn < vs.length) (ge : Z.heap.size ≤ a)
    (r : ∀ h' : Heap, Keep h h' [a] → Ary Z h' a .byte (vs.set jn (.int (nar .byte v))) → GoC CC (fun _ => True) Q Z B k n h' pc' Ls st) : GoC CC LL Q Z B k n h pc Ls (.int v :: .int j :: .ref a :: st) := fun x T P => by
  subst hp
  obtain ⟨E, O', locs, X, e, N⟩ := id P
  obtain ⟨c, A, e1, e2, e3⟩ := A
  have q : c.slots.size = vs.length := by rw [← e1]; simp
  obtain ⟨T', h', X', e', W, s'⟩ := RoadKit.stB X P.ex E.zz e A (j := j) (ix_in (by omega) (by omega)) (g := mkF x.m pc Ls (.int v :: .int j :: .ref a :: st)) rfl rfl (P.d hd)
  rw [ix_nat hj] at W
  exact lift s' (r h' (keep_wr W) (Ary.set A e1 e2 e3 W (fits_nar_byte v)) x T' ⟨E, ⟨ext_keep O'.1 (keep_wr W) (ge1 ge), O'.2.mono (keep_wr W).1⟩, _, X', e', fr_snoc N.1 ge, trivial⟩)
theorem Go.stZ (pc' : Nat) (hp : pc + 1 = pc') {a : Addr} {vs : List Value} {j : Int32} {v : Int32} (hd : decode B.by pc = .ok (.bastore, 1)) (A : Ary Z h a .boolean vs) (jn : Nat) (hj : j.toInt = jn) (hlt : jn < vs.length) (ge : Z.heap.size ≤ a)
    (r : ∀ h' : Heap, Keep h h' [a] → Ary Z h' a .boolean (vs.set jn (.int (nar .boolean v))) → GoC CC (fun _ => True) Q Z B k n h' pc' Ls st) : GoC CC LL Q Z B k n h pc Ls (.int v :: .int j :: .ref a :: st) := fun x T P => by
  subst hp
  obtain ⟨E, O', locs, X, e, N⟩ := id P
  obtain ⟨c, A, e1, e2, e3⟩ := A
  have q : c.slots.size = vs.length := by rw [← e1]; simp
  obtain ⟨T', h', X', e', W, s'⟩ := RoadKit.stZ X P.ex E.zz e A (j := j) (ix_in (by omega) (by omega)) (g := mkF x.m pc Ls (.int v :: .int j :: .ref a :: st)) rfl rfl (P.d hd)
  rw [ix_nat hj] at W
  exact lift s' (r h' (keep_wr W) (Ary.set A e1 e2 e3 W (fits_nar_bool v)) x T' ⟨E, ⟨ext_keep O'.1 (keep_wr W) (ge1 ge), O'.2.mono (keep_wr W).1⟩, _, X', e', fr_snoc N.1 ge, trivial⟩)
theorem Go.stR (pc' : Nat) (hp : pc + 1 = pc') {C : String} {a b : Addr} {vs : List Value} {j : Int32} (hd : decode B.by pc = .ok (.aastore, 1)) (A : Ary Z h a (.object C) vs) (O : Aov Z h a C) (I : Ins Z h b C true) (jn : Nat) (hj : j.toInt = jn) (hlt : jn < vs.length) (ge : Z.heap.size ≤ a)
    (r : ∀ h' : Heap, Keep h h' [a] → Ary Z h' a (.object C) (vs.set jn (.ref b)) → GoC CC (fun _ => True) Q Z B k n h' pc' Ls st) : GoC CC LL Q Z B k n h pc Ls (.ref b :: .int j :: .ref a :: st) := fun x T P => by
  subst hp
  obtain ⟨E, O', locs, X, e, N⟩ := id P
  obtain ⟨c, A, e1, e2, e3⟩ := A
  obtain ⟨c', q1, q2⟩ := O
  cases q1.symm.trans A.1
  have q : c.slots.size = vs.length := by rw [← e1]; simp
  obtain ⟨T', h', X', e', W, s'⟩ := RoadKit.stR X P.ex E.zz e A (j := j) (v := .ref b) (ix_in (by omega) (by omega)) rfl (Sto.of A q2 I) (g := mkF x.m pc Ls (.ref b :: .int j :: .ref a :: st)) rfl rfl (P.d hd)
  rw [ix_nat hj] at W
  exact lift s' (r h' (keep_wr W) (Ary.set A e1 e2 e3 W rfl) x T' ⟨E, ⟨ext_keep O'.1 (keep_wr W) (ge1 ge), O'.2.mono (keep_wr W).1⟩, _, X', e', fr_snoc N.1 ge, trivial⟩)
/-! ## returns -/
theorem ret_core {v : Option Value} {T : State} {locs : List Loc} {fs : List Frame} (E : En CC Z x B) (O' : Ext Z.heap h ∧ Sn x h) (e : T.heap = h) (N : Fr Z.heap.size locs ∧ LL locs) (hk : k ≤ B.R.cells) (hn : n ≤ B.R.slots) (hQ : Q v h)
    (hs : Steps x.p.tables x.e x.below (T.setTop (mkF x.m pc Ls st)) (T.setFrames fs)) (hrun : (T.setFrames fs).status = .running) (hended : Ended (T.setFrames fs) x.below (.returned v)) (hW : x.s.WarmedH (T.setFrames fs).vm) (hsame : x.s.sameButNew ({ T.setFrames fs with vm := x.s.vm } : State) locs k n) : Rn Q Z x B T pc Ls st := by
  subst e
  obtain ⟨O1, vm0, k0, e0, hS, hk0⟩ := O'
  rw [e0] at hW hsame
  obtain ⟨r1, r2, r3⟩ := hS.ended hW (show k0 ≤ (T.setFrames fs).heap.size from hk0) hsame
  exact ⟨T.setFrames fs, _, hs, hrun, hended, _, locs, rfl, ⟨hQ, O1, N.1⟩, ⟨_, rfl⟩, r1, r2, r3.mono hk hn⟩
/-- the walk goes on over another table -/
theorem reb_sp {U : State} {L : List Loc} (E : En CC Z x B) (O' : Ext Z.heap h ∧ Sn x h) (e : T.heap = h) (hS : x.s.Since U.vm U.heap.size) (hg : T.heap.size ≤ U.heap.size) (O2 : Ext Z.heap U.heap) (X1 : Stand x.p x.l x.e B.R (x.s.setVm U.vm) x.m x.args x.below x.meth x.c U L k n) (N : Fr Z.heap.size L) : Sp (fun _ => True) (fun _ => True) Z (x.reb U.vm) B U k n U.heap := by
  obtain ⟨O1, vm0, k0, e0, hS0, hk0⟩ := O'
  obtain ⟨E1, E2, E3, E4, E5, E6, E7, E8, E9⟩ := E
  have hk1 : k0 ≤ T.heap.size := by rw [e]; exact hk0
  refine ⟨⟨E1, E2, E3, ?_, E5, E6, ?_, E8, E9.1, trivial⟩, ⟨O2, U.vm, U.heap.size, rfl, ?_, Nat.le_refl _⟩, L, ?_, rfl, N, trivial⟩
  · show U.vm.findClass B.y.cls = _
    rw [hS.1.alike.findClass]; exact E4
  · exact State.Warmed39.trans (t := x.s) E7 hS.1
  · rw [e0] at hS
    exact hS0.trans hS (Nat.le_trans hk1 hg)
  · rw [e0] at X1
    exact X1
theorem Go.retV (hd : decode B.by pc = .ok (.return_, 1)) (ht : B.rt = none) (hk : k ≤ B.R.cells) (hn : n ≤ B.R.slots) (hQ : Q none h) : GoC CC LL Q Z B k n h pc Ls [] := fun x T P => by
  obtain ⟨E, O', locs, X, e, N⟩ := id P
  obtain ⟨fs, hr, hrun, hended, hW, hsame⟩ := X.leave (v := none) (fun _ => rfl) E.nl
  exact ret_core E O' e N hk hn hQ (X.returnOut P.ex (E.rt.trans ht) (P.d hd) hr) hrun hended hW hsame
theorem Go.retI {z : Int32} (hd : decode B.by pc = .ok (.ireturn, 1)) (ht : B.rt = some .int) (hk : k ≤ B.R.cells) (hn : n ≤ B.R.slots) (hQ : Q (some (.int z)) h) : GoC CC LL Q Z B k n h pc Ls [.int z] := fun x T P => by
  obtain ⟨E, O', locs, X, e, N⟩ := id P
  obtain ⟨fs, hr, hrun, hended, hW, hsame⟩ := X.leave (v := some (.int z)) (fun q => by rw [E.rt, ht] at q; cases q) E.nl
  exact ret_core E O' e N hk hn hQ (X.ireturnOut P.ex (E.rt.trans ht) rfl (Or.inl rfl) (P.d hd) hr) hrun hended hW hsame
theorem Go.retN {z z' : Int32} {t : FieldType} (hd : decode B.by pc = .ok (.ireturn, 1)) (ht : B.rt = some t) (hz : t = .boolean ∨ t = .byte ∨ t = .char ∨ t = .short) (hq : nar t z = z') (hk : k ≤ B.R.cells) (hn : n ≤ B.R.slots) (hQ : Q (some (.int z')) h) : GoC CC LL Q Z B k n h pc Ls (.int z :: st) := fun x T P => by
  subst hq
  obtain ⟨E, O', locs, X, e, N⟩ := id P
  obtain ⟨fs, hr, hrun, hended, hW, hsame⟩ := X.leave (v := some (.int (nar t z))) (fun q => by rw [E.rt, ht] at q; cases q) E.nl
  exact ret_core E O' e N hk hn hQ (RoadKit.retN X P.ex (E.rt.trans ht) hz (P.d hd) hr) hrun hended hW hsame
theorem Go.retJ {z : Int64} (hd : decode B.by pc = .ok (.lreturn, 1)) (ht : B.rt = some .long) (hk : k ≤ B.R.cells) (hn : n ≤ B.R.slots) (hQ : Q (some (.long z)) h) : GoC CC LL Q Z B k n h pc Ls [.long z] := fun x T P => by
  obtain ⟨E, O', locs, X, e, N⟩ := id P
  obtain ⟨fs, hr, hrun, hended, hW, hsame⟩ := X.leave (v := some (.long z)) (fun q => by rw [E.rt, ht] at q; cases q) E.nl
  exact ret_core E O' e N hk hn hQ (X.lreturnOut P.ex (E.rt.trans ht) (P.d hd) hr) hrun hended hW hsame
theorem Go.retD {z : UInt64} (hd : decode B.by pc = .ok (.dreturn, 1)) (ht : B.rt = some .double) (hk : k ≤ B.R.cells) (hn : n ≤ B.R.slots) (hQ : Q (some (.double z)) h) : GoC CC LL Q Z B k n h pc Ls (.double z :: st) := fun x T P => by
  obtain ⟨E, O', locs, X, e, N⟩ := id P
  obtain ⟨fs, hr, hrun, hended, hW, hsame⟩ := X.leave (v := some (.double z)) (fun q => by rw [E.rt, ht] at q; cases q) E.nl
  exact ret_core E O' e N hk hn hQ (retOut X P.ex (i := .dreturn) (E.rt.trans ht) rfl (Or.inr (Or.inr (Or.inl ⟨rfl, rfl, _, rfl⟩))) (P.d hd) hr) hrun hended hW hsame
theorem Go.retA {z : Value} {t : FieldType} (hd : decode B.by pc = .ok (.areturn, 1)) (ht : B.rt = some t) (hr' : t.isReference = true) (hz : z.isRef = true) (hk : k ≤ B.R.cells) (hn : n ≤ B.R.slots) (hQ : Q (some z) h) : GoC CC LL Q Z B k n h pc Ls [z] := fun x T P => by
  obtain ⟨E, O', locs, X, e, N⟩ := id P
  obtain ⟨fs, hr, hrun, hended, hW, hsame⟩ := X.leave (v := some z) (fun q => by rw [E.rt, ht] at q; cases q) E.nl
  exact ret_core E O' e N hk hn hQ (X.areturnOut P.ex hz (E.rt.trans ht) hr' (P.d hd) hr) hrun hended hW hsame
/-! ## calls -/
theorem Con.back {C : Bd} {as : Array Value} {Qc : Option Value → Heap → Prop} {len W : Nat} (K : Con Z C as h Qc) (P : Sp CC LL Z x B T k n h) (i j : Nat) (wc : B.tb[i]? = some (.code C.y C.by C.ml C.rt)) (wz : B.tb[j]? = some (.initialized C.y.cls)) (hf : C.R.frames + 1 ≤ B.R.frames) (hl : W + (C.ml + 11) + C.R.locals ≤ B.R.locals) :
    BackS x.l B.R x.p x.e x.below x.s x.args C.y len W (fun A a => a = as ∧ A.U.heap = h ∧ A.cells + C.R.cells ≤ B.R.cells ∧ A.slots + C.R.slots ≤ B.R.slots)
      (fun A _ v D => ∃ L, (Qc v D.U.heap ∧ Ext Z.heap D.U.heap ∧ Fr Z.heap.size L) ∧ D.locs = A.locs ++ L ∧ D.cells = A.cells + C.R.cells ∧ D.slots = A.slots + C.R.slots) := by
  obtain ⟨a0, hw⟩ := P.wd.w
  exact backOfS (a0 := a0) (Q := fun v h' L => Qc v h' ∧ Ext Z.heap h' ∧ Fr Z.heap.size L) (K P.old x.l []) P.1.zz (hw wc) (hw wz) hf hl
theorem Go.callS (pc' : Nat) (hp : pc + 3 = pc') {C : Bd} {Qc : Option Value → Heap → Prop} {ix : Nat} (argsL : List Value) {st : List Value} (i1 i2 i3 i4 : Nat) (K : Con Z C argsL.toArray h Qc) (hd : decode B.by pc = .ok (.invokestatic ix, 3)) (w1 : B.tb[i1]? = some (.methodLink B.y.cls ix C.y)) (w2 : B.tb[i2]? = some (.static C.y)) (w3 : B.tb[i3]? = some (.initialized C.y.cls)) (w4 : B.tb[i4]? = some (.code C.y C.by C.ml C.rt))
    (hy : C.y.cls ≠ "java/lang/invoke/MethodHandle" ∧ C.y.cls ≠ "java/lang/invoke/VarHandle") {ps : List FieldType} {rt : Option FieldType} (hpd : parseMethodDescriptor C.y.desc = some ⟨ps, rt⟩) (hlen : argsL.length = ps.length) (hs : Ls.size = B.ml) (hst : st = argsL.reverse ++ rest) {W : Nat} (hW : (rest.map fun v => v.category).sum ≤ W) (hf : C.R.frames + 1 ≤ B.R.frames) (hl : W + (C.ml + 11) + C.R.locals ≤ B.R.locals) (hc : k + C.R.cells ≤ B.R.cells) (hn : n + C.R.slots ≤ B.R.slots)
    (r : ∀ (v : Option Value) (h' : Heap), Qc v h' → Go Q Z B (k + C.R.cells) (n + C.R.slots) h' pc' Ls (v.toList ++ rest)) : GoC CC LL Q Z B k n h pc Ls st := fun x T P => by
  subst hp hst
  obtain ⟨a0, hw⟩ := P.wd.w
  obtain ⟨E, O', locs, X, e, N⟩ := id P
  obtain ⟨v, vm₁, ⟨T1, L1, k1, n1⟩, -, X1, hS1, hg1, ⟨Lc, hQ, l1, y1, z1⟩, st1⟩ := RoadKit.callSS X P.ex (y := C.y) E.own (mvT E.zz (hw w1)) (mvT E.zz (hw w2)) (mvT E.zz (hw w3)) (mvT E.zz (hw w4)) hy (K.back (W := W) P i4 i3 w4 w3 hf hl) (g := mkF x.m pc Ls (argsL.reverse ++ rest)) rfl (by rw [E.ml]; exact hs) (argsL := argsL) (rest := rest) (lenOf hpd hlen) rfl (by show 2 * 0 + _ ≤ _; omega) (P.d hd) (fun _ _ => ⟨rfl, e, hc, hn⟩)
  dsimp only [Pt.U, Pt.locs, Pt.cells, Pt.slots] at X1 hS1 hg1 l1 y1 z1 st1 hQ
  subst l1 y1 z1
  exact liftS st1 (r v T1.heap hQ.1 (x.reb T1.vm) T1 (reb_sp E O' e hS1 hg1 hQ.2.1 X1 (N.1.app hQ.2.2)))
theorem Go.callI (pc' : Nat) (hp : pc + 3 = pc') {C : Bd} {Qc : Option Value → Heap → Prop} {ix : Nat} (a : Addr) (argsL : List Value) {st : List Value} (i1 i2 i3 i4 : Nat) (K : Con Z C (.ref a :: argsL).toArray h Qc) (hd : decode B.by pc = .ok (.invokespecial ix, 3)) (w1 : B.tb[i1]? = some (.methodLink B.y.cls ix C.y)) (w2 : B.tb[i2]? = some (.instanceMethod C.y)) (w3 : B.tb[i3]? = some (.initialized C.y.cls)) (w4 : B.tb[i4]? = some (.code C.y C.by C.ml none)) (hrt : C.rt = none) (hi : C.y.name = "<init>")
    (hy : C.y.cls ≠ "java/lang/invoke/MethodHandle" ∧ C.y.cls ≠ "java/lang/invoke/VarHandle") {ps : List FieldType} {rt : Option FieldType} (hpd : parseMethodDescriptor C.y.desc = some ⟨ps, rt⟩) (hlen : argsL.length = ps.length) (hs : Ls.size = B.ml) (hst : st = argsL.reverse ++ .ref a :: rest) {W : Nat} (hW : (rest.map fun v => v.category).sum ≤ W) (hf : C.R.frames + 1 ≤ B.R.frames) (hl : W + (C.ml + 11) + C.R.locals ≤ B.R.locals) (hc : k + C.R.cells ≤ B.R.cells) (hn : n + C.R.slots ≤ B.R.slots)
    (r : ∀ (v : Option Value) (h' : Heap), Qc v h' → Go Q Z B (k + C.R.cells) (n + C.R.slots) h' pc' Ls (v.toList ++ rest)) : GoC CC LL Q Z B k n h pc Ls st := fun x T P => by
  subst hp hst
  obtain ⟨a0, hw⟩ := P.wd.w
  obtain ⟨E, O', locs, X, e, N⟩ := id P
  obtain ⟨v, vm₁, ⟨T1, L1, k1, n1⟩, -, X1, hS1, hg1, ⟨Lc, hQ, l1, y1, z1⟩, st1⟩ := X.specialBackS P.ex (y := C.y) hi E.own (mvT E.zz (hw w1)) (mvT E.zz (hw w2)) (mvT E.zz (hw w4)) hy (K.back (W := W) P i4 i3 (by rw [hrt]; exact w4) w3 hf hl) (g := mkF x.m pc Ls (argsL.reverse ++ .ref a :: rest)) rfl (by rw [E.ml]; exact hs) (Steps.refl _) (a := a) (argsL := argsL) (rest := rest) (lenOf hpd hlen) rfl (by show 2 * 0 + _ ≤ _; omega) (P.d hd) (fun _ _ => ⟨rfl, e, hc, hn⟩)
  dsimp only [Pt.U, Pt.locs, Pt.cells, Pt.slots] at X1 hS1 hg1 l1 y1 z1 st1 hQ
  subst l1 y1 z1
  exact liftS st1 (r v T1.heap hQ.1 (x.reb T1.vm) T1 (reb_sp E O' e hS1 hg1 hQ.2.1 X1 (N.1.app hQ.2.2)))
theorem Go.callV (pc' : Nat) (hp : pc + 3 = pc') {C : Bd} {Qc : Option Value → Heap → Prop} {ix : Nat} {D : String} (a : Addr) (argsL : List Value) {st : List Value} (i1 i2 i3 i4 i5 i6 : Nat) (K : Con Z C (.ref a :: argsL).toArray h Qc) (Ea : Exa Z h a D) (hd : decode B.by pc = .ok (.invokevirtual ix, 3)) (w1 : B.tb[i1]? = some (.methodLink B.y.cls ix C.y)) (w2 : B.tb[i2]? = some (.declares C.y)) (w3 : B.tb[i3]? = some (.selects D C.y C.y)) (w4 : B.tb[i4]? = some (.instanceMethod C.y)) (w5 : B.tb[i5]? = some (.initialized C.y.cls)) (w6 : B.tb[i6]? = some (.code C.y C.by C.ml C.rt))
    (hy : C.y.cls ≠ "java/lang/invoke/MethodHandle" ∧ C.y.cls ≠ "java/lang/invoke/VarHandle") {ps : List FieldType} {rt : Option FieldType} (hpd : parseMethodDescriptor C.y.desc = some ⟨ps, rt⟩) (hlen : argsL.length = ps.length) (hs : Ls.size = B.ml) (hst : st = argsL.reverse ++ .ref a :: rest) {W : Nat} (hW : (rest.map fun v => v.category).sum ≤ W) (hf : C.R.frames + 1 ≤ B.R.frames) (hl : W + (C.ml + 11) + C.R.locals ≤ B.R.locals) (hc : k + C.R.cells ≤ B.R.cells) (hn : n + C.R.slots ≤ B.R.slots)
    (r : ∀ (v : Option Value) (h' : Heap), Qc v h' → Go Q Z B (k + C.R.cells) (n + C.R.slots) h' pc' Ls (v.toList ++ rest)) : GoC CC LL Q Z B k n h pc Ls st := fun x T P => by
  subst hp hst
  obtain ⟨a0, hw⟩ := P.wd.w
  obtain ⟨E, O', locs, X, e, N⟩ := id P
  obtain ⟨cq, kq, qa, qb, qc⟩ := isOf E.zz e Ea
  obtain ⟨v, vm₁, ⟨T1, L1, k1, n1⟩, -, X1, hS1, hg1, ⟨Lc, hQ, l1, y1, z1⟩, st1⟩ := X.virtualBackS P.ex (y := C.y) (z := C.y) E.own (mvT E.zz (hw w1)) (mvT E.zz (hw w2)) (notFace_of_selects (args := #[]) (mvT E.zz (hw w3))) (mvT E.zz (hw w3)) (mvT E.zz (hw w4)) hy (K.back (W := W) P i6 i5 w6 w5 hf hl) qa qc (g := mkF x.m pc Ls (argsL.reverse ++ .ref a :: rest)) rfl (by rw [E.ml]; exact hs) (Steps.refl _) (argsL := argsL) (rest := rest) (lenOf hpd hlen) rfl (by show 2 * 0 + _ ≤ _; omega) (P.d hd) (fun _ _ => ⟨rfl, e, hc, hn⟩)
  dsimp only [Pt.U, Pt.locs, Pt.cells, Pt.slots] at X1 hS1 hg1 l1 y1 z1 st1 hQ
  subst l1 y1 z1
  exact liftS st1 (r v T1.heap hQ.1 (x.reb T1.vm) T1 (reb_sp E O' e hS1 hg1 hQ.2.1 X1 (N.1.app hQ.2.2)))
theorem Go.callP (pc' : Nat) (hp : pc + 3 = pc') {C : Bd} {Qc : Option Value → Heap → Prop} {ix : Nat} {D : String} (a : Addr) (argsL : List Value) {st : List Value} (i1 i2 i3 i4 i5 i6 : Nat) (K : Con Z C (.ref a :: argsL).toArray h Qc) (Ea : Exa Z h a D) (hd : decode B.by pc = .ok (.invokevirtual ix, 3)) (w1 : B.tb[i1]? = some (.methodLink B.y.cls ix C.y)) (w2 : B.tb[i2]? = some (.instanceMethod C.y)) (w3 : B.tb[i3]? = some (.selects C.y.cls C.y C.y)) (w4 : B.tb[i4]? = some (.privateMethod C.y)) (w5 : B.tb[i5]? = some (.initialized C.y.cls)) (w6 : B.tb[i6]? = some (.code C.y C.by C.ml C.rt))
    (hy : C.y.cls ≠ "java/lang/invoke/MethodHandle" ∧ C.y.cls ≠ "java/lang/invoke/VarHandle") {ps : List FieldType} {rt : Option FieldType} (hpd : parseMethodDescriptor C.y.desc = some ⟨ps, rt⟩) (hlen : argsL.length = ps.length) (hs : Ls.size = B.ml) (hst : st = argsL.reverse ++ .ref a :: rest) {W : Nat} (hW : (rest.map fun v => v.category).sum ≤ W) (hf : C.R.frames + 1 ≤ B.R.frames) (hl : W + (C.ml + 11) + C.R.locals ≤ B.R.locals) (hc : k + C.R.cells ≤ B.R.cells) (hn : n + C.R.slots ≤ B.R.slots)
    (r : ∀ (v : Option Value) (h' : Heap), Qc v h' → Go Q Z B (k + C.R.cells) (n + C.R.slots) h' pc' Ls (v.toList ++ rest)) : GoC CC LL Q Z B k n h pc Ls st := fun x T P => by
  subst hp hst
  obtain ⟨a0, hw⟩ := P.wd.w
  obtain ⟨E, O', locs, X, e, N⟩ := id P
  obtain ⟨cq, qa, qb⟩ := Ea.cell
  obtain ⟨v, vm₁, ⟨T1, L1, k1, n1⟩, -, X1, hS1, hg1, ⟨Lc, hQ, l1, y1, z1⟩, st1⟩ := X.privateBackS P.ex (y := C.y) E.own (mvT E.zz (hw w1)) (mvT E.zz (hw w2)) (mvT E.zz (hw w3)) (Cond.privateMethod_at (mvP E.zz (hw w4) (args := #[]))) (mvT E.zz (hw w6)) hy (K.back (W := W) P i6 i5 w6 w5 hf hl) (g := mkF x.m pc Ls (argsL.reverse ++ .ref a :: rest)) rfl (by rw [E.ml]; exact hs) (Steps.refl _) (a := a) (by rw [e]; exact qa) qb (argsL := argsL) (rest := rest) (lenOf hpd hlen) rfl (by show 2 * 0 + _ ≤ _; omega) (P.d hd) (fun _ _ => ⟨rfl, e, hc, hn⟩)
  dsimp only [Pt.U, Pt.locs, Pt.cells, Pt.slots] at X1 hS1 hg1 l1 y1 z1 st1 hQ
  subst l1 y1 z1
  exact liftS st1 (r v T1.heap hQ.1 (x.reb T1.vm) T1 (reb_sp E O' e hS1 hg1 hQ.2.1 X1 (N.1.app hQ.2.2)))
theorem Go.callP2 (pc' : Nat) (hp : pc + 3 = pc') {C : Bd} {Qc : Option Value → Heap → Prop} {ix : Nat} {D : String} {sz : Nat} (a : Addr) (argsL : List Value) {st : List Value} (i1 i2 i3 i4 i5 i6 : Nat) (K : Con Z C (.ref a :: argsL).toArray h Qc) (Ea : Exa Z h a D) (hd : decode B.by pc = .ok (.invokevirtual ix, 3)) (w1 : B.tb[i1]? = some (.methodLink B.y.cls ix C.y)) (w2 : B.tb[i2]? = some (.instanceMethod C.y)) (w3 : B.tb[i3]? = some (.instantiable C.y.cls sz)) (w4 : B.tb[i4]? = some (.privateMethod C.y)) (w5 : B.tb[i5]? = some (.initialized C.y.cls)) (w6 : B.tb[i6]? = some (.code C.y C.by C.ml C.rt))
    (hy : C.y.cls ≠ "java/lang/invoke/MethodHandle" ∧ C.y.cls ≠ "java/lang/invoke/VarHandle") {ps : List FieldType} {rt : Option FieldType} (hpd : parseMethodDescriptor C.y.desc = some ⟨ps, rt⟩) (hlen : argsL.length = ps.length) (hs : Ls.size = B.ml) (hst : st = argsL.reverse ++ .ref a :: rest) {W : Nat} (hW : (rest.map fun v => v.category).sum ≤ W) (hf : C.R.frames + 1 ≤ B.R.frames) (hl : W + (C.ml + 11) + C.R.locals ≤ B.R.locals) (hc : k + C.R.cells ≤ B.R.cells) (hn : n + C.R.slots ≤ B.R.slots)
    (r : ∀ (v : Option Value) (h' : Heap), Qc v h' → Go Q Z B (k + C.R.cells) (n + C.R.slots) h' pc' Ls (v.toList ++ rest)) : GoC CC LL Q Z B k n h pc Ls st := fun x T P => by
  subst hp hst
  obtain ⟨a0, hw⟩ := P.wd.w
  obtain ⟨E, O', locs, X, e, N⟩ := id P
  have hsel0 : (Cond.selects C.y.cls C.y C.y).before a0 Z = true := by
    obtain ⟨t, kt, i1, i2, i3, i4, -⟩ := Cond.instantiable_spec (hw w3)
    exact selects_self_of_private i1 i2 (Bool.or_eq_false_iff.mp i4).1 (Cond.privateMethod_at (hw w4)) (hw w2) hy
  obtain ⟨cq, qa, qb⟩ := Ea.cell
  obtain ⟨v, vm₁, ⟨T1, L1, k1, n1⟩, -, X1, hS1, hg1, ⟨Lc, hQ, l1, y1, z1⟩, st1⟩ := X.privateBackS P.ex (y := C.y) E.own (mvT E.zz (hw w1)) (mvT E.zz (hw w2)) (mvT E.zz hsel0) (Cond.privateMethod_at (mvP E.zz (hw w4) (args := #[]))) (mvT E.zz (hw w6)) hy (K.back (W := W) P i6 i5 w6 w5 hf hl) (g := mkF x.m pc Ls (argsL.reverse ++ .ref a :: rest)) rfl (by rw [E.ml]; exact hs) (Steps.refl _) (a := a) (by rw [e]; exact qa) qb (argsL := argsL) (rest := rest) (lenOf hpd hlen) rfl (by show 2 * 0 + _ ≤ _; omega) (P.d hd) (fun _ _ => ⟨rfl, e, hc, hn⟩)
  dsimp only [Pt.U, Pt.locs, Pt.cells, Pt.slots] at X1 hS1 hg1 l1 y1 z1 st1 hQ
  subst l1 y1 z1
  exact liftS st1 (r v T1.heap hQ.1 (x.reb T1.vm) T1 (reb_sp E O' e hS1 hg1 hQ.2.1 X1 (N.1.app hQ.2.2)))
theorem Go.callF (pc' : Nat) (hp : pc + 5 = pc') {C : Bd} {Qc : Option Value → Heap → Prop} {ix ct : Nat} {y : MethodName} {D : String} (a : Addr) (argsL : List Value) {st : List Value} (i1 i2 i3 i4 i5 i6 i7 i8 i9 i10 : Nat) (K : Con Z C (.ref a :: argsL).toArray h Qc) (Ea : Exa Z h a D) (hd : decode B.by pc = .ok (.invokeinterface ix ct, 5)) (w1 : B.tb[i1]? = some (.methodLink B.y.cls ix y)) (w2 : B.tb[i2]? = some (.declares y)) (w3 : B.tb[i3]? = some (.interfaceMethod y.cls y.cls y.name y.desc)) (w4 : B.tb[i4]? = some (.selects D y C.y)) (w5 : B.tb[i5]? = some (.instanceMethod C.y)) (w6 : B.tb[i6]? = some (.publicMethod C.y)) (w7 : B.tb[i7]? = some (.unhidden D y.name y.desc)) (w8 : B.tb[i8]? = some (.castable D y.cls)) (w9 : B.tb[i9]? = some (.initialized C.y.cls)) (w10 : B.tb[i10]? = some (.code C.y C.by C.ml C.rt)) (hk : ((Cond.interfaceMethod y.cls y.cls y.name y.desc).onTables && (Cond.interfaceMethod y.cls y.cls y.name y.desc).keepsFace) = true)
    (hy : y.cls ≠ "java/lang/invoke/MethodHandle" ∧ y.cls ≠ "java/lang/invoke/VarHandle") {ps : List FieldType} {rt : Option FieldType} (hpd : parseMethodDescriptor y.desc = some ⟨ps, rt⟩) (hlen : argsL.length = ps.length) (hs : Ls.size = B.ml) (hst : st = argsL.reverse ++ .ref a :: rest) {W : Nat} (hW : (rest.map fun v => v.category).sum ≤ W) (hf : C.R.frames + 1 ≤ B.R.frames) (hl : W + (C.ml + 11) + C.R.locals ≤ B.R.locals) (hc : k + C.R.cells ≤ B.R.cells) (hn : n + C.R.slots ≤ B.R.slots)
    (r : ∀ (v : Option Value) (h' : Heap), Qc v h' → Go Q Z B (k + C.R.cells) (n + C.R.slots) h' pc' Ls (v.toList ++ rest)) : GoC CC LL Q Z B k n h pc Ls st := fun x T P => by
  subst hp hst
  obtain ⟨a0, hw⟩ := P.wd.w
  obtain ⟨E, O', locs, X, e, N⟩ := id P
  obtain ⟨cq, kq, qa, qb, qc⟩ := isOf E.zz e Ea
  obtain ⟨v, vm₁, ⟨T1, L1, k1, n1⟩, -, X1, hS1, hg1, ⟨Lc, hQ, l1, y1, z1⟩, st1⟩ := X.interfaceBackS P.ex (xi := y) (y := C.y) E.own (mvT E.zz (hw w1)) (mvT E.zz (hw w2)) (mvT E.zz (hw w3) hk) (mvT E.zz (hw w4)) (mvT E.zz (hw w5)) (mvT E.zz (hw w6)) (mvT E.zz (hw w7)) (mvT E.zz (hw w8)) hy (K.back (W := W) P i10 i9 w10 w9 hf hl) qa qb qc (g := mkF x.m pc Ls (argsL.reverse ++ .ref a :: rest)) rfl (by rw [E.ml]; exact hs) (Steps.refl _) (argsL := argsL) (rest := rest) (lenOf hpd hlen) rfl (by show 2 * 0 + _ ≤ _; omega) (P.d hd) (fun _ _ => ⟨rfl, e, hc, hn⟩)
  dsimp only [Pt.U, Pt.locs, Pt.cells, Pt.slots] at X1 hS1 hg1 l1 y1 z1 st1 hQ
  subst l1 y1 z1
  exact liftS st1 (r v T1.heap hQ.1 (x.reb T1.vm) T1 (reb_sp E O' e hS1 hg1 hQ.2.1 X1 (N.1.app hQ.2.2)))
theorem Go.callVU (pc' : Nat) (hp : pc + 3 = pc') {C : Bd} {Qc : Option Value → Heap → Prop} {ix : Nat} {y : MethodName} {D ow : String} (a : Addr) (argsL : List Value) {st : List Value} (i1 i2 i3 i4 i5 i6 i7 : Nat) (K : Con Z C (.ref a :: argsL).toArray h Qc) (Ea : Exa Z h a D) (hd : decode B.by pc = .ok (.invokevirtual ix, 3)) (w1 : B.tb[i1]? = some (.methodLink B.y.cls ix y)) (w2 : B.tb[i2]? = some (.sameMethod y.cls ow y.name y.desc)) (w3 : B.tb[i3]? = some (.declares ⟨ow, y.name, y.desc⟩)) (w4 : B.tb[i4]? = some (.selects D y C.y)) (w5 : B.tb[i5]? = some (.instanceMethod C.y)) (w6 : B.tb[i6]? = some (.initialized C.y.cls)) (w7 : B.tb[i7]? = some (.code C.y C.by C.ml C.rt))
    (hy : ow ≠ "java/lang/invoke/MethodHandle" ∧ ow ≠ "java/lang/invoke/VarHandle") {ps : List FieldType} {rt : Option FieldType} (hpd : parseMethodDescriptor y.desc = some ⟨ps, rt⟩) (hlen : argsL.length = ps.length) (hs : Ls.size = B.ml) (hst : st = argsL.reverse ++ .ref a :: rest) {W : Nat} (hW : (rest.map fun v => v.category).sum ≤ W) (hf : C.R.frames + 1 ≤ B.R.frames) (hl : W + (C.ml + 11) + C.R.locals ≤ B.R.locals) (hc : k + C.R.cells ≤ B.R.cells) (hn : n + C.R.slots ≤ B.R.slots)
    (r : ∀ (v : Option Value) (h' : Heap), Qc v h' → Go Q Z B (k + C.R.cells) (n + C.R.slots) h' pc' Ls (v.toList ++ rest)) : GoC CC LL Q Z B k n h pc Ls st := fun x T P => by
  subst hp hst
  obtain ⟨a0, hw⟩ := P.wd.w
  obtain ⟨E, O', locs, X, e, N⟩ := id P
  obtain ⟨cq, kq, qa, qb, qc⟩ := isOf E.zz e Ea
  obtain ⟨v, vm₁, ⟨T1, L1, k1, n1⟩, -, X1, hS1, hg1, ⟨Lc, hQ, l1, y1, z1⟩, st1⟩ := X.virtualBackUpS P.ex (x := y) (y := C.y) E.own (mvT E.zz (hw w1)) (mvT E.zz (hw w2)) (mvT E.zz (hw w3)) hy (mvT E.zz (hw w4)) (mvT E.zz (hw w5)) (K.back (W := W) P i7 i6 w7 w6 hf hl) qa qc (g := mkF x.m pc Ls (argsL.reverse ++ .ref a :: rest)) rfl (by rw [E.ml]; exact hs) (Steps.refl _) (argsL := argsL) (rest := rest) (lenOf hpd hlen) rfl (by show 2 * 0 + _ ≤ _; omega) (P.d hd) (fun _ _ => ⟨rfl, e, hc, hn⟩)
  dsimp only [Pt.U, Pt.locs, Pt.cells, Pt.slots] at X1 hS1 hg1 l1 y1 z1 st1 hQ
  subst l1 y1 z1
  exact liftS st1 (r v T1.heap hQ.1 (x.reb T1.vm) T1 (reb_sp E O' e hS1 hg1 hQ.2.1 X1 (N.1.app hQ.2.2)))
theorem Go.ldcS (pc' : Nat) (hp : pc + 2 = pc') {ix : Nat} {text : String} (i j1 j2 j3 j4 j5 j6 j7 : Nat) (hd : decode B.by pc = .ok (.ldc ix, 2)) (w : B.tb[i]? = some (.stringLink B.y.cls ix text)) (wS : ∃ js : List Nat, js = [j1, j2, j3, j4, j5, j6, j7] ∧ (js.map fun j => B.tb[j]?) = Bundle.stringAtoms.map some) {c0 : Nat} (hn : 4 * text.toList.length ≤ c0) (hb : c0 ≤ 536870912) (hc : k + 2 ≤ B.R.cells) (hl : n + (c0 + 4) ≤ B.R.slots)
    (r : ∀ (h' : Heap) (a : Addr), Keep h h' [] → Go Q Z B (k + 2) (n + (c0 + 4)) h' pc' Ls (.ref a :: st)) : GoC CC LL Q Z B k n h pc Ls st := fun x T P => by
  subst hp
  obtain ⟨a0, hw⟩ := P.wd.w
  obtain ⟨E, O', locs, X, e, N⟩ := id P
  have hwS : ∀ d ∈ Bundle.stringAtoms, d.before a0 Z = true := by
    obtain ⟨js, -, hj⟩ := wS
    intro d hd
    have : some d ∈ (js.map fun j => B.tb[j]?) := by rw [hj]; exact List.mem_map_of_mem hd
    obtain ⟨j, -, q⟩ := List.mem_map.mp this
    exact hw q
  obtain ⟨O1, vm0, k0, e0, hS, hk0⟩ := id O'
  obtain ⟨E1, E2, E3, E4, E5, E6, E7, E8, E9⟩ := id E
  rw [e0] at X E4 E7
  obtain ⟨a, T', h', k1, X', e', Ex, hS', hk1, hZ', hown', st'⟩ := RoadKit.ldcS X P.ex E7 E4 (hw w) hwS e hS hk0 (g := mkF x.m pc Ls st) rfl (P.d hd) hn hb hc hl
  refine lift (x := x) st' (r h' a (keep_ext Ex) (x.reb T'.vm) T' ⟨⟨E1, E2, E3, hown', E5, E6, hZ', E8, E9.1, trivial⟩, ⟨⟨Nat.le_trans O1.1 Ex.1, fun y c q => Ex.2 y c (O1.2 y c q)⟩, T'.vm, k1, rfl, hS', hk1⟩, locs, X', e', N.1, trivial⟩)
theorem Go.weak (r : Go Q Z B k n h pc Ls st) : GoC CC LL Q Z B k n h pc Ls st := fun x T P => r x T (by
  obtain ⟨⟨E1, E2, E3, E4, E5, E6, E7, E8, E9, -⟩, O, locs, X, e, N, -⟩ := P
  exact ⟨⟨E1, E2, E3, E4, E5, E6, E7, E8, E9, trivial⟩, O, locs, X, e, N, trivial⟩)
/-- no constant was interned since Z; the frame began at the heap h0 -/
def Cln (Z : State) (h0 : Heap) : Cx → Prop := fun x => x.s.vm.interned = Z.vm.interned ∧ x.o.heap = h0
def Nil : List Loc → Prop := fun L => L = []
def ConV (Z : State) (B : Bd) (as : Array Value) (h0 : Heap) (Q : Option Value → Heap → Prop) : Prop :=
  Ext Z.heap h0 → ∀ (l : Launch) (ws : List Cond), MetFree l B.y (head1 (Cond.code B.y B.by B.ml B.rt :: ws) B.R) (fun a U => a = as ∧ Z.Warmed39 U.vm ∧ U.heap = h0 ∧ U.vm.interned = Z.vm.interned) (fun _ _ _ _ _ => True)
    (fun _ U o U' => ∃ v L, o = .returned v ∧ (Q v U'.heap ∧ Ext Z.heap U'.heap ∧ Fr Z.heap.size L) ∧ ReturnedEndW U o U' L B.R.cells B.R.slots)
theorem ConV.mk {as : Array Value} {h0 : Heap} (hw : Wd Z B.tb) (hpn : plainFor B.y = true) (hef : ∀ m, entryFrame m as B.ml = mkF m 0 Ls [])
    (body : Ext Z.heap h0 → GoC (Cln Z h0) Nil Q Z B 0 0 h0 0 Ls []) : ConV Z B as h0 Q := by
  intro hE l ws
  refine MetFree.of_bodySF hpn hisR ?_
  intro p e s m args below meth c s₁ Bd hml0 hP hK
  obtain ⟨rfl, hZ, hh, hi⟩ := hP
  have X0 : Stand p l e B.R s m args below meth c s₁ [] 0 0 := Stand.of_body Bd
  have e0 : s₁.heap = h0 := by rw [← hh, Bd.state]; rfl
  obtain ⟨t, o, h1, h2, h3, h4⟩ := body hE (p, l, e, s, m, args, below, meth, c, s) s₁ ⟨⟨Bd.exec, Bd.bytes, hml0, findClass_of_methodNamed Bd.named, (name_of_methodNamed Bd.named Bd.method).1, Bd.returns, hZ, Bd.notSynchronized, hw, hi, hh⟩, ⟨hE, s.vm, 0, rfl, (State.WarmedH.refl s).since 0, Nat.zero_le _⟩, [], X0, e0, Fr.nil _, rfl⟩
  exact ⟨t, o, castTop (hef m) h1, h2, h3, h4⟩
theorem ConV.back {C : Bd} {as : Array Value} {Qc : Option Value → Heap → Prop} {len W : Nat} {H0 : Heap} (K : ConV Z C as h Qc) (P : Sp (Cln Z H0) LL Z x B T k n h) (i j : Nat) (wc : B.tb[i]? = some (.code C.y C.by C.ml C.rt)) (wz : B.tb[j]? = some (.initialized C.y.cls)) (hf : C.R.frames + 1 ≤ B.R.frames) (hl : W + (C.ml + 11) + C.R.locals ≤ B.R.locals) :
    BackS x.l B.R x.p x.e x.below x.s x.args C.y len W (fun A a => a = as ∧ A.U.heap = h ∧ A.cells + C.R.cells ≤ B.R.cells ∧ A.slots + C.R.slots ≤ B.R.slots)
      (fun A _ v D => ∃ L, (Qc v D.U.heap ∧ Ext Z.heap D.U.heap ∧ Fr Z.heap.size L) ∧ D.locs = A.locs ++ L ∧ D.cells = A.cells + C.R.cells ∧ D.slots = A.slots + C.R.slots) := by
  obtain ⟨a0, hw⟩ := P.wd.w
  have hZ := P.1.zz
  have hi : x.s.vm.interned = Z.vm.interned := P.1.2.2.2.2.2.2.2.2.2.1
  exact BackS.of_freeW (bytes := C.by) (maxL := C.ml) (ret := C.rt) (E := fun _ _ o t L k n => k = C.R.cells ∧ n = C.R.slots ∧ ∃ v, o = .returned v ∧ (Qc v t.heap ∧ Ext Z.heap t.heap ∧ Fr Z.heap.size L)) (K P.old x.l []) hf hl
    (fun m meth c A a Y hp => have hU : Z.Warmed39 A.U.vm := wtrans hZ Y.warmed
      ⟨by show (Cond.and _ .tt).before a A.U = true; rw [Cond.before_and, mv hU (hw wc)]; rfl, mv hU (hw wc), mv hU (hw wz), hp.2.2.1, hp.2.2.2⟩)
    (fun m meth c A a g mk Y hp => ⟨hp.1, wtrans hZ Y.warmed, hp.2.1, Y.warmed.interned_eq.trans hi⟩) (fun _ _ _ _ _ _ _ _ _ => trivial)
    (fun _ _ _ _ ⟨v, L, h1, h2, h3⟩ => ⟨L, _, _, h3, rfl, rfl, v, h1, h2⟩)
    (fun m meth c A a g mk v t L k n Y hp _ _ ⟨e1, e2, v', e3, e4⟩ => by cases e3; subst e1 e2; exact ⟨L, e4, rfl, rfl, rfl⟩)
theorem Go.callIV (pc' : Nat) (hp : pc + 3 = pc') {C : Bd} {Qc : Option Value → Heap → Prop} {ix : Nat} (a : Addr) (argsL : List Value) {st : List Value} (i1 i2 i3 i4 : Nat) {H0 : Heap} (K : ConV Z C (.ref a :: argsL).toArray h Qc) (hd : decode B.by pc = .ok (.invokespecial ix, 3)) (w1 : B.tb[i1]? = some (.methodLink B.y.cls ix C.y)) (w2 : B.tb[i2]? = some (.instanceMethod C.y)) (w3 : B.tb[i3]? = some (.initialized C.y.cls)) (w4 : B.tb[i4]? = some (.code C.y C.by C.ml none)) (hrt : C.rt = none) (hi : C.y.name = "<init>")
    (hy : C.y.cls ≠ "java/lang/invoke/MethodHandle" ∧ C.y.cls ≠ "java/lang/invoke/VarHandle") {ps : List FieldType} {rt : Option FieldType} (hpd : parseMethodDescriptor C.y.desc = some ⟨ps, rt⟩) (hlen : argsL.length = ps.length) (hs : Ls.size = B.ml) (hst : st = argsL.reverse ++ .ref a :: rest) {W : Nat} (hW : (rest.map fun v => v.category).sum ≤ W) (hf : C.R.frames + 1 ≤ B.R.frames) (hl : W + (C.ml + 11) + C.R.locals ≤ B.R.locals) (hc : k + C.R.cells ≤ B.R.cells) (hn : n + C.R.slots ≤ B.R.slots)
    (r : ∀ (v : Option Value) (h' : Heap), Qc v h' → Go Q Z B (k + C.R.cells) (n + C.R.slots) h' pc' Ls (v.toList ++ rest)) : GoC (Cln Z H0) LL Q Z B k n h pc Ls st := fun x T P => by
  subst hp hst
  obtain ⟨a0, hw⟩ := P.wd.w
  obtain ⟨E, O', locs, X, e, N⟩ := id P
  obtain ⟨v, vm₁, ⟨T1, L1, k1, n1⟩, -, X1, hS1, hg1, ⟨Lc, hQ, l1, y1, z1⟩, st1⟩ := X.specialBackS P.ex (y := C.y) hi E.own (mvT E.zz (hw w1)) (mvT E.zz (hw w2)) (mvT E.zz (hw w4)) hy (K.back (W := W) P i4 i3 (by rw [hrt]; exact w4) w3 hf hl) (g := mkF x.m pc Ls (argsL.reverse ++ .ref a :: rest)) rfl (by rw [E.ml]; exact hs) (Steps.refl _) (a := a) (argsL := argsL) (rest := rest) (lenOf hpd hlen) rfl (by show 2 * 0 + _ ≤ _; omega) (P.d hd) (fun _ _ => ⟨rfl, e, hc, hn⟩)
  dsimp only [Pt.U, Pt.locs, Pt.cells, Pt.slots] at X1 hS1 hg1 l1 y1 z1 st1 hQ
  subst l1 y1 z1
  exact liftS st1 (r v T1.heap hQ.1 (x.reb T1.vm) T1 (reb_sp E O' e hS1 hg1 hQ.2.1 X1 (N.1.app hQ.2.2)))
theorem ary_arv' {a : Addr} {c0 : ClassId} {ty : FieldType} {z : Int32} {vs : List Value} {d : Value} (F : Arv Z h a c0 ty z vs d) (hl : z.toNatClampNeg = vs.length) : Ary Z h a ty vs := by
  obtain ⟨c, A, -, S, hz, H, G⟩ := F
  have e : c.slots.toList = vs := by
    apply List.ext_getElem?
    intro i
    rw [Array.getElem?_toList]
    by_cases hi : i < vs.length
    · rw [H i (by omega)]
      simp [List.getD, hi]
    · rw [List.getElem?_eq_none (by omega), Array.getElem?_eq_none (by omega)]
  refine ⟨c, A, e, ?_, fun v hv => ?_⟩
  · rw [← hl]; have := nat_of (j := z) hz; have := z.toInt_lt; omega
  · obtain ⟨i, hi, rfl⟩ := List.mem_iff_getElem.mp hv
    have := G i (by omega)
    simpa [List.getD, hi] using this
theorem Go.ldcV (pc' : Nat) (hp : pc + 2 = pc') {H0 : Heap} (hE0 : Ext Z.heap H0) {ix : Nat} {text : String} {vs : List Value} {z : Int32} (i j1 j2 j3 j4 j5 j6 j7 : Nat) (hd : decode B.by pc = .ok (.ldc ix, 2)) (w : B.tb[i]? = some (.stringLink B.y.cls ix text)) (wS : ∃ js : List Nat, js = [j1, j2, j3, j4, j5, j6, j7] ∧ (js.map fun j => B.tb[j]?) = Bundle.stringAtoms.map some) (hh : Jvm.Lit.constHeld Z B.y.cls ix) (hcw : ∀ a0, Jvm.Lit.compactW.before a0 Z = true)
    (ht : (∀ c ∈ text.toList, c.toNat < 256) ∧ text.toList.map (fun c => Value.int (Jvm.Lit.byteI c.toNat.toUInt16)) = vs) (hz : ¬ z < 0) (hzl : z.toNatClampNeg = vs.length) {c0 : Nat} (hn : 4 * text.toList.length ≤ c0) (hb : c0 ≤ 536870912) (hc : k + 2 ≤ B.R.cells) (hl : n + (c0 + 4) ≤ B.R.slots)
    (r : ∀ (h' : Heap) (a b : Addr), Keep h h' [] → Exa Z h' a "java/lang/String" → Fld Z h' a "java/lang/String" "coder" "B" (.int 0) → Fld Z h' a "java/lang/String" "value" "[B" (.ref b) → Ary Z h' b .byte vs → GoC (fun x => Lit x.s B.y.cls ix a) (fun _ => True) Q Z B (k + 2) (n + (c0 + 4)) h' pc' Ls (.ref a :: st)) : GoC (Cln Z H0) Nil Q Z B k n h pc Ls st := fun x T P => by
  subst hp
  obtain ⟨a0, hw⟩ := P.wd.w
  obtain ⟨E, O', locs, X, e, N, hnil⟩ := id P
  have hwS : ∀ d ∈ Bundle.stringAtoms, d.before a0 Z = true := by
    obtain ⟨js, -, hj⟩ := wS
    intro d hd
    have : some d ∈ (js.map fun j => B.tb[j]?) := by rw [hj]; exact List.mem_map_of_mem hd
    obtain ⟨j, -, q⟩ := List.mem_map.mp this
    exact hw q
  obtain ⟨O1, vm0, k0, e0, hS, hk0⟩ := id O'
  obtain ⟨E1, E2, E3, E4, E5, E6, E7, E8, E9, E10, E11⟩ := id E
  rw [e0] at X E4 E7 E10
  have I : IB Z vm0 [] := ⟨#[], by rw [Array.append_empty]; exact E10, fun q hq => by simp at hq⟩
  cases (show locs = [] from hnil)
  obtain ⟨a, T', h', k1, b, kb, X', e', Ex, hS', hk1, hZ', hown', r8, r9, r10, r11, -, -, -, hlit, st'⟩ := RoadKit.ldcSVL X P.ex E7 E4 (hw w) hwS e hS hk0 (Fr.nil _) (fun b cl q => by rw [E11]; exact hE0.2 b cl q) I (by simp) hh (hcw a0) ht hz hzl (g := mkF x.m pc Ls st) rfl (P.d hd) hn hb hc hl
  refine lift (x := x) st' (r h' a b (keep_ext Ex) r8 r9 r10 (ary_arv' r11 hzl) (x.reb T'.vm) T' ⟨⟨E1, E2, E3, hown', E5, E6, hZ', E8, E9, hlit⟩, ⟨⟨Nat.le_trans O1.1 Ex.1, fun y c q => Ex.2 y c (O1.2 y c q)⟩, T'.vm, k1, rfl, hS', hk1⟩, [], X', e', Fr.nil _, trivial⟩)
theorem Go.ldcAgain (pc' : Nat) (hp : pc + 2 = pc') {ix : Nat} {text : String} {a : Addr} (i : Nat) (hd : decode B.by pc = .ok (.ldc ix, 2)) (w : B.tb[i]? = some (.stringLink B.y.cls ix text)) (r : GoC (fun x => Lit x.s B.y.cls ix a) LL Q Z B k n h pc' Ls (.ref a :: st)) : GoC (fun x => Lit x.s B.y.cls ix a) LL Q Z B k n h pc Ls st := fun x T P => by
  subst hp
  obtain ⟨a0, hw⟩ := P.wd.w
  obtain ⟨E, O', locs, X, e, N, hnil⟩ := id P
  obtain ⟨O1, vm0, k0, e0, hS, hk0⟩ := id O'
  obtain ⟨E1, E2, E3, E4, E5, E6, E7, E8, E9, E10⟩ := id E
  rw [e0] at X E4 E7 E10
  exact lift (fun t q => RoadKit.ldcAgain X P.ex E7 E4 (hw w) E10 (g := mkF x.m pc Ls st) rfl (P.d hd) t q) (r x T P)
end St
end Jvm.Ow
namespace Jvm.Ow
open Sem ClassFile Op Lib Jvm.Stand Jvm.Free Jvm.LawKit Jvm.RoadKit
section More
variable {CC : Cx → Prop} {LL : List Loc → Prop} {Q : Option Value → Heap → Prop} {Z : State} {x : Cx} {B : Bd} {T : State} {k n : Nat} {h h' : Heap} {pc : Nat} {Ls Ls' : Array Slot} {st rest : List Value}
theorem Go.instNull (pc' : Nat) (hp : pc + 3 = pc') {ix : Nat} (hd : decode B.by pc = .ok (.instanceof ix, 3)) (r : GoC CC LL Q Z B k n h pc' Ls (.int 0 :: st)) : GoC CC LL Q Z B k n h pc Ls (.null :: st) := fun x T P => by
  subst hp
  obtain ⟨E, O', locs, X, e, N⟩ := id P
  exact lift (fun t q => X.instanceofNull P.ex (g := mkF x.m pc Ls (.null :: st)) rfl rfl (P.d hd) t q) (r x T P)
theorem ary_arv {a : Addr} {c0 : ClassId} {ty : FieldType} {z : Int32} {vs : List Value} {d : Value} (F : Arv Z h a c0 ty z vs d) (hl : z.toNatClampNeg = vs.length) : Ary Z h a ty vs := by
  obtain ⟨c, A, -, S, hz, H, G⟩ := F
  have e : c.slots.toList = vs := by
    apply List.ext_getElem?
    intro i
    rw [Array.getElem?_toList]
    by_cases hi : i < vs.length
    · rw [H i (by omega)]
      simp [List.getD, hi]
    · rw [List.getElem?_eq_none (by omega), Array.getElem?_eq_none (by omega)]
  refine ⟨c, A, e, ?_, fun v hv => ?_⟩
  · rw [← hl]; have := nat_of (j := z) hz; have := z.toInt_lt; omega
  · obtain ⟨i, hi, rfl⟩ := List.mem_iff_getElem.mp hv
    have := G i (by omega)
    simpa [List.getD, hi] using this
theorem Go.grid (pc' : Nat) (hp : pc + 4 = pc') {ad C : String} {ty : FieldType} {ix : Nat} {m1 m2 : Int32} (i1 i2 i3 N M cap : Nat) (hd : decode B.by pc = .ok (.multianewarray ix 2, 4)) (hC : (FieldType.array ty).toString = C) (had : "[" ++ C = ad) (w1 : B.tb[i1]? = some (.classLink B.y.cls ix ad)) (w2 : B.tb[i2]? = some (.arrayOver (.array ty))) (w3 : B.tb[i3]? = some (.arrayClass ty))
    (hN : m1.toInt = N) (hM : m2.toInt = M) (hcap : M ≤ cap) (hb : cap * 8 ≤ 536870912) (hb1 : N ≤ 1000) (hdf : fits ty (defaultValue ty) = true) (hdd : (defaultValue ty).isDefault = true) (hc : k + (1 + N) ≤ B.R.cells) (hl : n + (N + N * cap) ≤ B.R.slots)
    (r : ∀ (h' : Heap) (a : Addr), @Eq Nat a h.size → Z.heap.size ≤ a → Keep h h' [] → Ary Z h' a (.array ty) ((List.range N).map fun j => .ref (a + 1 + j)) → (∀ j, j < N → Ary Z h' (a + 1 + j) ty (List.replicate M (defaultValue ty))) → GoC CC LL Q Z B (k + (1 + N)) (n + (N + N * cap)) h' pc' Ls (.ref a :: st)) : GoC CC LL Q Z B k n h pc Ls (.int m2 :: .int m1 :: st) := fun x T P => by
  subst hp
  obtain ⟨a0, hw⟩ := P.wd.w
  obtain ⟨E, O', locs, X, e, N'⟩ := id P
  have z0 : (0 : Int32).toInt = 0 := rfl
  have hm1 : ¬ m1 < 0 := by rw [Int32.lt_iff_toInt_lt]; omega
  have hm2 : ¬ m2 < 0 := by rw [Int32.lt_iff_toInt_lt]; omega
  obtain ⟨T', h', cA, comp, X', e', Ex, A, -, -, R1, s'⟩ := gridM X P.ex E.zz E.own hC had (hw w1) (hw w2) (hw w3) e (g := mkF x.m pc Ls (.int m2 :: .int m1 :: st)) rfl (P.d hd) rfl hm1 hm2 (N := N) (ix_nat hN) rfl (cap := cap) (by rw [ix_nat hM]; exact hcap) hb hb1 hdf hdd hc hl
  have hlen : M < 2 ^ 31 := by have := m2.toInt_lt; omega
  refine lift s' (r h' h.size rfl P.le (keep_ext Ex) ?_ (fun j hj => ?_) x T' ⟨E, ⟨⟨Nat.le_trans O'.1.1 Ex.1, fun y c q => Ex.2 y c (O'.1.2 y c q)⟩, O'.2.mono Ex.1⟩, locs, X', e', N'⟩)
  · have := ary_arv A (by rw [ix_nat hN]; simp)
    rw [List.map_map] at this
    exact this
  · obtain ⟨A1, -⟩ := R1 j (h.size + 1 + j) (by simp [hj])
    refine ⟨_, A1, ?_, by rw [List.length_replicate]; exact hlen, fun v hv => ?_⟩
    · show (Array.replicate _ _).toList = _
      rw [ix_nat hM, Array.toList_replicate]
    · rw [List.eq_of_mem_replicate hv]; exact hdf
/-- a class right under the root is not assignable to another plain class -/
theorem not_asg {tb : List Cond} (hw : Wd Z tb) {C S K : String} {sz : Nat} (i1 i2 i3 : Nat) (w1 : tb[i1]? = some (.superclass C S)) (w2 : tb[i2]? = some (.noSuperclass S)) (w3 : tb[i3]? = some (.instantiable K sz)) (n1 : C ≠ K) (n2 : S ≠ K) : ∃ c t, Z.vm.findClass C = some c ∧ Z.vm.findClass K = some t ∧ Z.vm.assignable c t = false := by
  obtain ⟨a0, hw⟩ := hw.w
  obtain ⟨c, h0⟩ := found_sup (hw w1)
  obtain ⟨p, k, kp, h1, h2, h3, h4, h5, -, h7⟩ := Cond.superclass_spec h0 (hw w1)
  obtain ⟨c', k', g1, g2, g3, -, -⟩ := Cond.noSuperclass_spec (hw w2)
  cases g1.symm.trans h1
  cases g2.symm.trans h3
  obtain ⟨t, kt, i1, i2, i3, i4, -⟩ := Cond.instantiable_spec (hw w3)
  have ne1 := ids_ne h0 i1 n1
  have ne2 := ids_ne h1 i1 n2
  have hi : kt.isInterface = false := (Bool.or_eq_false_iff.mp i4).1
  refine ⟨c, t, h0, i1, ?_⟩
  show Z.vm.assignableAux (255 + 1) c t = false
  have sub : ∀ fuel, Z.vm.isSubclassAux fuel c t = false := by
    intro fuel
    cases fuel with
    | zero => rfl
    | succ f =>
      cases f with
      | zero => simp [Vm.isSubclassAux, ne1, h2, h4]
      | succ f => simp [Vm.isSubclassAux, ne1, ne2, h2, h4, h3, g3]
  simp [Vm.assignableAux, ne1, h2, i2, h5, i3, hi, Vm.isSubclass, sub]
theorem Go.lswHit (pc' : Nat) {dflt : Int} {pairs : Array (Int × Int)} {len : Nat} {z : Int32} {a off : Int} (hd : decode B.by pc = .ok (.lookupswitch dflt pairs, len)) (hsort : (pairs.toList.zip (pairs.toList.drop 1)).all (fun (a, next) => a.1 < next.1) = true) (hfind : pairs.find? (·.1 == z.toInt) = some (a, off)) (h0 : 0 ≤ (pc : Int) + off) (hp : ((pc : Int) + off).toNat = pc') (r : GoC CC LL Q Z B k n h pc' Ls st) : GoC CC LL Q Z B k n h pc Ls (.int z :: st) := fun x T P => by
  subst hp
  obtain ⟨E, O', locs, X, e, N⟩ := id P
  exact lift (fun t q => X.lookupswitchHit P.ex (g := mkF x.m pc Ls (.int z :: st)) rfl rfl (P.d hd) hsort hfind h0 t q) (r x T P)
theorem Go.lswMiss (pc' : Nat) {dflt : Int} {pairs : Array (Int × Int)} {len : Nat} {z : Int32} (hd : decode B.by pc = .ok (.lookupswitch dflt pairs, len)) (hsort : (pairs.toList.zip (pairs.toList.drop 1)).all (fun (a, next) => a.1 < next.1) = true) (hfind : pairs.find? (·.1 == z.toInt) = none) (h0 : 0 ≤ (pc : Int) + dflt) (hp : ((pc : Int) + dflt).toNat = pc') (r : GoC CC LL Q Z B k n h pc' Ls st) : GoC CC LL Q Z B k n h pc Ls (.int z :: st) := fun x T P => by
  subst hp
  obtain ⟨E, O', locs, X, e, N⟩ := id P
  exact lift (fun t q => X.lookupswitchMiss P.ex (g := mkF x.m pc Ls (.int z :: st)) rfl rfl (P.d hd) hsort hfind h0 t q) (r x T P)
theorem Go.tswIn (pc' : Nat) {dflt low high : Int} {offs : Array Int} {len : Nat} {z : Int32} {off : Int} (hd : decode B.by pc = .ok (.tableswitch dflt low high offs, len)) (hin : ¬ (z.toInt < low ∨ z.toInt > high)) (ho : offs[(z.toInt - low).toNat]? = some off) (h0 : 0 ≤ (pc : Int) + off) (hp : ((pc : Int) + off).toNat = pc') (r : GoC CC LL Q Z B k n h pc' Ls st) : GoC CC LL Q Z B k n h pc Ls (.int z :: st) := fun x T P => by
  subst hp
  obtain ⟨E, O', locs, X, e, N⟩ := id P
  exact lift (fun t q => X.tableswitchIn P.ex (g := mkF x.m pc Ls (.int z :: st)) rfl rfl (P.d hd) hin ho h0 t q) (r x T P)
end More
theorem own_fs {s : State} {args : Array Value} {t : Term} {C n d : String} {a : Addr} {v : Value} (ev : t.eval args s none [] s = some (.ref a)) (ef : (Term.field t C n d).eval args s none [] s = some v) : Fld s s.heap a C n d v := by
  rw [fld_at ev] at ef; exact Fld.start ef
theorem own_fe {s : State} {args : Array Value} {t t2 : Term} {C n d : String} {a b : Addr} (ev : t.eval args s none [] s = some (.ref a)) (eb : t2.eval args s none [] s = some (.ref b)) (hx : (Cond.eq (Term.field t C n d) t2).value args s none s [] = some true) : Fld s s.heap a C n d (.ref b) := by
  refine own_fs ev ?_
  cases hf : (Term.field t C n d).eval args s none [] s with
  | none => simp [Cond.value, hf] at hx
  | some v => cases v <;> simp [Cond.value, hf, eb] at hx ⊢; exact hx
theorem own_ar0 {s : State} {args : Array Value} {t : Term} {ty : FieldType} {a : Addr} (ev : t.eval args s none [] s = some (.ref a)) (hx : (Cond.arrayOf t ty).value args s none s [] = some true) (hl : (Cond.eq (Term.length t) (Term.int 0)).value args s none s [] = some true) : Ary s s.heap a ty [] := by
  obtain ⟨c, A⟩ := Arr.start ev hx
  have hA : s.arrayAt? a = some c := Arr.fin (Vm.Alike.refl _) A
  have e0 : c.slots.size = 0 := by
    by_cases h31 : c.slots.size < 2 ^ 31
    · have e := len_f ev hA h31
      have e2 : (c.slots.size.toInt32 : Int32) = 0 := by simpa [Cond.value, Term.eval, ev, hA, h31] using hl
      exact (ofNat_zero h31).mp e2
    · exfalso
      have e : (Term.length t).eval args s none [] s = none := by simp [Term.eval, ev, hA, h31]
      simp [Cond.value, e] at hl
  exact ⟨c, A, by simpa using e0, by decide, fun v hv => by cases hv⟩
theorem own_na {Z : State} {h : Heap} {tb : List Cond} (hw : Wd Z tb) {C : String} {sz : Nat} (i : Nat) (w : tb[i]? = some (.instantiable C sz)) {a b : Addr} {ty : FieldType} {vs : List Value} (F : Exa Z h a C) (G : Ary Z h b ty vs) : b ≠ a := by
  obtain ⟨a0, hw⟩ := hw.w
  obtain ⟨c, A, -⟩ := G
  exact (ne_arr F (hw w) A).symm
theorem own_ins {Z : State} {h : Heap} {tb : List Cond} (hw : Wd Z tb) {C K : String} (i : Nat) (w : tb[i]? = some (.castable C K)) {a : Addr} (F : Exa Z h a C) : Ins Z h a K true := by
  obtain ⟨a0, hw⟩ := hw.w
  exact Ins.of_exa F (hw w)
end Jvm.Ow
namespace Jvm.Pilot.@@N@@
open Jvm Jvm.ClassFile Sem Op Lib Jvm.Free Jvm.Stand Jvm.LawKit Jvm.RoadKit Bundle Jvm.Ow Jvm.Pilot.@@N@@.Jvm.D
abbrev IL (xs : List Int32) : List Value := xs.map Value.int
theorem IL.get {xs : List Int32} {j : Nat} (hj : j < xs.length) : (IL xs)[j]? = some (.int (xs.getD j 0)) := by simp [List.getD, hj]
theorem IL.len {xs : List Int32} : (IL xs).length = xs.length := by simp
def Ch (c : Int32) : Prop := 0 ≤ c.toInt ∧ c.toInt < 65536
def lo (c : Int32) : Int32 := nar .byte (c >>> ((0 : Int32) &&& 31)).toInt8.toInt32
def hi (c : Int32) : Int32 := nar .byte (c >>> ((8 : Int32) &&& 31)).toInt8.toInt32
def l1 (c : Int32) : Int32 := nar .byte c.toInt8.toInt32
def gc (b0 b1 : Int32) : Int32 := nar .char (((b0 &&& (255 : Int32)) <<< ((0 : Int32) &&& 31)) ||| ((b1 &&& (255 : Int32)) <<< ((8 : Int32) &&& 31))).toUInt32.toUInt16.toUInt32.toInt32
def gl (b : Int32) : Int32 := nar .char (b &&& (255 : Int32)).toUInt32.toUInt16.toUInt32.toInt32
def mixf (h : Int64) : Int64 :=
  let a := (h ^^^ XT.ushrL h 33) * (-49064778989728563 : Int64)
  let b := (a ^^^ XT.ushrL a 33) * (-4265267296055464877 : Int64)
  b ^^^ XT.ushrL b 33
def unm (h : Int64) : Int64 :=
  let a := (h ^^^ XT.ushrL h 33) * (-7154897129451604005 : Int64)
  let b := (a ^^^ XT.ushrL a 33) * (5725274745694666757 : Int64)
  b ^^^ XT.ushrL b 33
theorem lo_at (c : Int32) : (lo c &&& (255 : Int32)).toInt = c.toInt % 256 := by
  have h1 : (lo c &&& (255 : Int32)).toInt = (lo c).toInt % (2 ^ 8 : Nat) := c_mask _ 255 8 (by decide) (by decide)
  have h2 := c_i2b ((c >>> ((0 : Int32) &&& 31)).toInt8.toInt32)
  have h3 := c_i2b (c >>> ((0 : Int32) &&& 31))
  have h4 : (c >>> ((0 : Int32) &&& 31)).toInt = c.toInt / (2 ^ 0 : Nat) := c_ishr c 0 0 (by decide)
  have h5 : (lo c).toInt = ((c >>> ((0 : Int32) &&& 31)).toInt8.toInt32.toInt8.toInt32).toInt := rfl
  omega
theorem hi_at (c : Int32) : (hi c &&& (255 : Int32)).toInt = c.toInt / 256 % 256 := by
  have h1 : (hi c &&& (255 : Int32)).toInt = (hi c).toInt % (2 ^ 8 : Nat) := c_mask _ 255 8 (by decide) (by decide)
  have h2 := c_i2b ((c >>> ((8 : Int32) &&& 31)).toInt8.toInt32)
  have h3 := c_i2b (c >>> ((8 : Int32) &&& 31))
  have h4 : (c >>> ((8 : Int32) &&& 31)).toInt = c.toInt / (2 ^ 8 : Nat) := c_ishr c 8 8 (by decide)
  have h5 : (hi c).toInt = ((c >>> ((8 : Int32) &&& 31)).toInt8.toInt32.toInt8.toInt32).toInt := rfl
  omega
theorem l1_at (c : Int32) : (l1 c &&& (255 : Int32)).toInt = c.toInt % 256 := by
  have h1 : (l1 c &&& (255 : Int32)).toInt = (l1 c).toInt % (2 ^ 8 : Nat) := c_mask _ 255 8 (by decide) (by decide)
  have h2 := c_i2b (c.toInt8.toInt32)
  have h3 := c_i2b c
  have h5 : (l1 c).toInt = (c.toInt8.toInt32.toInt8.toInt32).toInt := rfl
  omega
theorem nc_at (x : Int32) (h0 : 0 ≤ x.toInt) (h1 : x.toInt < 65536) : (nar .char x.toUInt32.toUInt16.toUInt32.toInt32).toInt = x.toInt := by
  have a := c_i2c x
  have b := c_i2c x.toUInt32.toUInt16.toUInt32.toInt32
  have e : (nar .char x.toUInt32.toUInt16.toUInt32.toInt32).toInt = (x.toUInt32.toUInt16.toUInt32.toInt32.toUInt32.toUInt16.toUInt32.toInt32).toInt := rfl
  omega
theorem own_gc {c : Int32} (h : Ch c) : gc (lo c) (hi c) = c := by
  obtain ⟨h1, h2⟩ := h
  apply Int32.toInt_inj.mp
  have a := lo_at c
  have b := hi_at c
  have d := c_ishl (lo c &&& (255 : Int32)) 0 0 (by decide)
  have e := c_ishl (hi c &&& (255 : Int32)) 8 8 (by decide)
  have r1 := Int32.toInt_lt ((lo c &&& (255 : Int32)) <<< ((0 : Int32) &&& 31))
  have r2 := Int32.le_toInt ((lo c &&& (255 : Int32)) <<< ((0 : Int32) &&& 31))
  have r3 := Int32.toInt_lt ((hi c &&& (255 : Int32)) <<< ((8 : Int32) &&& 31))
  have r4 := Int32.le_toInt ((hi c &&& (255 : Int32)) <<< ((8 : Int32) &&& 31))
  have f := c_or' ((lo c &&& (255 : Int32)) <<< ((0 : Int32) &&& 31)) ((hi c &&& (255 : Int32)) <<< ((8 : Int32) &&& 31)) 8 (by decide) 256 rfl (by omega) (by omega) (by omega)
  have r5 := Int32.toInt_lt (((lo c &&& (255 : Int32)) <<< ((0 : Int32) &&& 31)) ||| ((hi c &&& (255 : Int32)) <<< ((8 : Int32) &&& 31)))
  have r6 := Int32.le_toInt (((lo c &&& (255 : Int32)) <<< ((0 : Int32) &&& 31)) ||| ((hi c &&& (255 : Int32)) <<< ((8 : Int32) &&& 31)))
  rw [gc, nc_at _ (by omega) (by omega)]
  omega
theorem own_gl {c : Int32} (h : Ch c) (h' : ¬ (255 : Int32) < c) : gl (l1 c) = c := by
  rw [Int32.lt_iff_toInt_lt] at h'
  have o : (255 : Int32).toInt = 255 := rfl
  obtain ⟨h1, h2⟩ := h
  apply Int32.toInt_inj.mp
  have a := l1_at c
  rw [gl, nc_at _ (by omega) (by omega)]
  omega
theorem own_ch {p v : Int32} (h : p.toUInt32.toUInt16.toUInt32.toInt32 = v) : Ch v := by
  have := c_i2c p
  rw [h] at this
  constructor <;> omega
theorem own_nc {v : Int32} (h : Ch v) : nar .char v = v := by
  apply Int32.toInt_inj.mp
  have := c_i2c v
  show (v.toUInt32.toUInt16.toUInt32.toInt32).toInt = _
  have := h.1; have := h.2; omega
theorem ush_bv (x : Int64) : (XT.ushrL x 33).toBitVec = x.toBitVec >>> 33 := rfl
theorem xs33 (x : Int64) : (x ^^^ XT.ushrL x 33) ^^^ XT.ushrL (x ^^^ XT.ushrL x 33) 33 = x := by
  apply Int64.toBitVec_inj.mp
  rw [Int64.toBitVec_xor, ush_bv, Int64.toBitVec_xor, ush_bv, BitVec.ushiftRight_xor_distrib, ← BitVec.shiftRight_add, BitVec.ushiftRight_eq_zero (n := 33 + 33) (by decide), BitVec.xor_zero, BitVec.xor_assoc, BitVec.xor_self, BitVec.xor_zero]
theorem own_unm (h : Int64) : unm (mixf h) = h := by
  simp only [unm, mixf, xs33]
  rw [Int64.mul_assoc, show (-4265267296055464877 : Int64) * (-7154897129451604005) = 1 by decide, Int64.mul_one, xs33, Int64.mul_assoc, show (-49064778989728563 : Int64) * 5725274745694666757 = 1 by decide, Int64.mul_one, xs33]
theorem own_ceq (x : Int64) : XT.cmpL x x = 0 := by
  unfold XT.cmpL
  rw [if_neg (by rw [Int64.lt_iff_toInt_lt]; omega), if_pos rfl]
theorem own_dbl {j v : Int32} {jn : Nat} (hj : j.toInt = jn) (h9 : jn < 9) (h : j <<< ((1 : Int32) &&& 31) = v) : v.toInt = ((2 * jn : Nat) : Int) := by
  have := c_ishl j 1 1 (by decide)
  rw [h] at this
  have r1 := Int32.toInt_lt v
  have r2 := Int32.le_toInt v
  omega
theorem own_dbl1 {v : Int32} {jn : Nat} (h9 : jn < 9) (h : v.toInt = ((2 * jn : Nat) : Int)) : (v + (1 : Int32)).toInt = ((2 * jn + 1 : Nat) : Int) := by
  have o : (1 : Int32).toInt = 1 := rfl
  have := XT.add32 (x := v) (y := 1) ⟨by omega, by omega⟩
  omega
theorem own_il2 {Z : State} {h : Heap} {t : Addr} {us : List Int32} {i j : Nat} {x y : Int32} (A : Ary Z h t .byte (((IL us).set i (.int x)).set j (.int y))) : Ary Z h t .byte (IL ((us.set i x).set j y)) := by
  have e : IL ((us.set i x).set j y) = ((IL us).set i (.int x)).set j (.int y) := by simp only [IL, List.map_set]
  rw [e]; exact A
theorem own_ofne {i N : Nat} (h : i < N) (hN : N < 100) : ¬ Int32.ofNat i = Int32.ofNat N := fun q => by
  have a := Int32.toInt_ofNat_of_lt (n := i) (by omega)
  have b := Int32.toInt_ofNat_of_lt (n := N) (by omega)
  rw [q] at a; omega
theorem own_jn {j : Int32} {jn : Nat} (hj : j.toInt = jn) : ¬ j < 0 := by
  rw [Int32.lt_iff_toInt_lt]; have o : (0 : Int32).toInt = 0 := rfl; omega
theorem own_jl {j : Int32} {jn m : Nat} (hj : j.toInt = jn) (h : jn < m) (hm : m < 2 ^ 31) : j < Int32.ofNat m := by
  rw [Int32.lt_iff_toInt_lt, Int32.toInt_ofNat_of_lt hm]; omega
theorem own_fne {Z : State} {h : Heap} {a b : Addr} {C n d : String} {r : Addr} (F : Fld Z h a C n d (.ref r)) (G : Fld Z h b C n d .null) : a ≠ b := F.ne G (fun q => by cases q)
theorem own_gc1 {x0 : Int32} {i : Nat} (hin : i < 1) (h0 : Ch x0) : gc (([lo x0, hi x0] : List Int32).getD (2 * i) 0) (([lo x0, hi x0] : List Int32).getD (2 * i + 1) 0) = ([x0] : List Int32).getD i 0 := by
  rcases (show i = 0 by omega) with rfl
  · show gc (lo x0) (hi x0) = x0; exact own_gc h0
theorem own_gc2 {x0 x1 : Int32} {i : Nat} (hin : i < 2) (h0 : Ch x0) (h1 : Ch x1) : gc (([lo x0, hi x0, lo x1, hi x1] : List Int32).getD (2 * i) 0) (([lo x0, hi x0, lo x1, hi x1] : List Int32).getD (2 * i + 1) 0) = ([x0, x1] : List Int32).getD i 0 := by
  rcases (show i = 0 ∨ i = 1 by omega) with rfl | rfl
  · show gc (lo x0) (hi x0) = x0; exact own_gc h0
  · show gc (lo x1) (hi x1) = x1; exact own_gc h1
theorem own_gc3 {x0 x1 x2 : Int32} {i : Nat} (hin : i < 3) (h0 : Ch x0) (h1 : Ch x1) (h2 : Ch x2) : gc (([lo x0, hi x0, lo x1, hi x1, lo x2, hi x2] : List Int32).getD (2 * i) 0) (([lo x0, hi x0, lo x1, hi x1, lo x2, hi x2] : List Int32).getD (2 * i + 1) 0) = ([x0, x1, x2] : List Int32).getD i 0 := by
  rcases (show i = 0 ∨ i = 1 ∨ i = 2 by omega) with rfl | rfl | rfl
  · show gc (lo x0) (hi x0) = x0; exact own_gc h0
  · show gc (lo x1) (hi x1) = x1; exact own_gc h1
  · show gc (lo x2) (hi x2) = x2; exact own_gc h2
theorem own_gc4 {x0 x1 x2 x3 : Int32} {i : Nat} (hin : i < 4) (h0 : Ch x0) (h1 : Ch x1) (h2 : Ch x2) (h3 : Ch x3) : gc (([lo x0, hi x0, lo x1, hi x1, lo x2, hi x2, lo x3, hi x3] : List Int32).getD (2 * i) 0) (([lo x0, hi x0, lo x1, hi x1, lo x2, hi x2, lo x3, hi x3] : List Int32).getD (2 * i + 1) 0) = ([x0, x1, x2, x3] : List Int32).getD i 0 := by
  rcases (show i = 0 ∨ i = 1 ∨ i = 2 ∨ i = 3 by omega) with rfl | rfl | rfl | rfl
  · show gc (lo x0) (hi x0) = x0; exact own_gc h0
  · show gc (lo x1) (hi x1) = x1; exact own_gc h1
  · show gc (lo x2) (hi x2) = x2; exact own_gc h2
  · show gc (lo x3) (hi x3) = x3; exact own_gc h3
theorem own_si {s : State} {args : Array Value} {C n d : String} {v : Int32} (h : (Cond.eq (Term.static C n d) (Term.int v)).value args s none s [] = some true) (hi : (Cond.initializedFor C n d).before args s = true) : Sta s s.heap C n d (.int v) := by
  refine Sta.start (args := args) ?_ (Or.inl hi)
  cases hf : (Term.static C n d).eval args s none [] s with
  | none => simp [Cond.value, hf] at h
  | some w => cases w <;> simp [Cond.value, hf, Term.int_eval] at h ⊢; exact h
theorem d19_0 : decode jdk_52_method_4_code 0 = .ok (.getstatic 44, 3) := by decide +kernel
theorem d19_3 : decode jdk_52_method_4_code 3 = .ok (.ifCond .ne 25, 3) := by decide +kernel
theorem d19_28 : decode jdk_52_method_4_code 28 = .ok (.iload_n 1, 1) := by decide +kernel
theorem d19_29 : decode jdk_52_method_4_code 29 = .ok (.iconst 1, 1) := by decide +kernel
theorem d19_30 : decode jdk_52_method_4_code 30 = .ok (.ishl, 1) := by decide +kernel
theorem d19_31 : decode jdk_52_method_4_code 31 = .ok (.istore_n 1, 1) := by decide +kernel
theorem d19_32 : decode jdk_52_method_4_code 32 = .ok (.aload_n 0, 1) := by decide +kernel
theorem d19_33 : decode jdk_52_method_4_code 33 = .ok (.iload_n 1, 1) := by decide +kernel
theorem d19_34 : decode jdk_52_method_4_code 34 = .ok (.iinc 1 1, 3) := by decide +kernel
theorem d19_37 : decode jdk_52_method_4_code 37 = .ok (.iload_n 2, 1) := by decide +kernel
theorem d19_38 : decode jdk_52_method_4_code 38 = .ok (.getstatic 59, 3) := by decide +kernel
theorem d19_41 : decode jdk_52_method_4_code 41 = .ok (.ishr, 1) := by decide +kernel
theorem d19_42 : decode jdk_52_method_4_code 42 = .ok (.i2b, 1) := by decide +kernel
theorem d19_43 : decode jdk_52_method_4_code 43 = .ok (.bastore, 1) := by decide +kernel
theorem d19_44 : decode jdk_52_method_4_code 44 = .ok (.aload_n 0, 1) := by decide +kernel
theorem d19_45 : decode jdk_52_method_4_code 45 = .ok (.iload_n 1, 1) := by decide +kernel
theorem d19_46 : decode jdk_52_method_4_code 46 = .ok (.iload_n 2, 1) := by decide +kernel
theorem d19_47 : decode jdk_52_method_4_code 47 = .ok (.getstatic 63, 3) := by decide +kernel
theorem d19_50 : decode jdk_52_method_4_code 50 = .ok (.ishr, 1) := by decide +kernel
theorem d19_51 : decode jdk_52_method_4_code 51 = .ok (.i2b, 1) := by decide +kernel
theorem d19_52 : decode jdk_52_method_4_code 52 = .ok (.bastore, 1) := by decide +kernel
theorem d19_53 : decode jdk_52_method_4_code 53 = .ok (.return_, 1) := by decide +kernel
theorem pd19 : parseMethodDescriptor "([BII)V" = some ⟨[(.array .byte), .int, .int], none⟩ := by decide +kernel
theorem pn19 : plainFor (⟨"java/lang/StringUTF16", "putChar", "([BII)V"⟩ : MethodName) = true := by first | (refine plainFor_of_name ?_; simp [plainName, overriddenIn]; done) | (refine plainFor_of_name ?_; decide +kernel) | decide +kernel
abbrev B19 : Bd := ((⟨"java/lang/StringUTF16", "putChar", "([BII)V"⟩ : MethodName), jdk_52_method_4_code, 3, none, ({ frames := 0, cells := 0, slots := 0, locals := 0 } : Room), tables_1)
theorem ef19 (mid : MethodId) (t : Addr) (j : Int32) (x : Int32) : entryFrame mid (List.toArray [.ref t, .int j, .int x]) 3 = mkF mid 0 #[.val (.ref t), .val (.int j), .val (.int x)] [] := by first | (simp [entryFrame, mkF, argsToLocals, Value.category]; done) | rfl
def Q19 (Z : State) (t : Addr) (us : List Int32) (jn : Nat) (x : Int32) (h0 : Heap) (v : Option Value) (h : Heap) : Prop := v = none ∧ Keep h0 h [t] ∧ Ary Z h t .byte (IL ((us.set (2 * jn) (lo x)).set (2 * jn + 1) (hi x)))
set_option maxRecDepth 65536 in
set_option maxHeartbeats 40000000 in
theorem c19 (Z : State) (hw : Wd Z tables_1) (h0 : Heap) (t : Addr) (j : Int32) (x : Int32) (us : List Int32) (jn : Nat) (hj : j.toInt = jn) (hj9 : jn < 9) (hAs : Sta Z Z.heap "java/lang/StringUTF16" "$assertionsDisabled" "Z" (.int 1)) (hHi : Sta Z Z.heap "java/lang/StringUTF16" "HI_BYTE_SHIFT" "I" (.int 0)) (hLo : Sta Z Z.heap "java/lang/StringUTF16" "LO_BYTE_SHIFT" "I" (.int 8)) (hgt : Z.heap.size ≤ t) (hlt : 2 * jn + 1 < us.length) (hA : Ary Z h0 t .byte (IL us)) : Con Z B19 (List.toArray [.ref t, .int j, .int x]) h0 (Q19 Z t us jn x h0) := by
  refine Con.mk hw pn19 (fun mid => ef19 mid t j x) (Go.old fun hle' => ?_)
  have hle := hle'.1
  refine Go.getS 3 rfl (v := .int (1 : Int32)) 94 d19_0 rfl hAs ?_
  refine Go.if_ne 28 6 d19_3 (by decide) rfl rfl (fun (b1 : ¬ (1 : Int32) = 0) => ?_) (fun (b1 : (1 : Int32) = 0) => ?_)
  · refine Go.iloadN 29 rfl d19_28 rfl ?_
    refine Go.iconst 30 rfl (1 : Int32) d19_29 rfl ?_
    refine Go.ishl 31 rfl d19_30 ?_
    refine Go.nameI fun v2 hv2 => ?_
    have e1 : v2.toInt = ((2 * jn : Nat) : Int) := own_dbl hj hj9 hv2
    have e2 : (v2 + (1 : Int32)).toInt = ((2 * jn + 1 : Nat) : Int) := own_dbl1 hj9 e1
    refine Go.istoreN 32 rfl d19_31 (Ls' := #[.val (.ref t), .val (.int v2), .val (.int x)]) rfl ?_
    refine Go.aloadN 33 rfl d19_32 rfl rfl ?_
    refine Go.iloadN 34 rfl d19_33 rfl ?_
    refine Go.iinc 37 rfl (1 : Int32) d19_34 rfl rfl (Ls' := #[.val (.ref t), .val (.int (v2 + (1 : Int32))), .val (.int x)]) rfl ?_
    refine Go.iloadN 38 rfl d19_37 rfl ?_
    refine Go.getS 41 rfl (v := .int (0 : Int32)) 95 d19_38 rfl hHi ?_
    refine Go.ishr 42 rfl d19_41 ?_
    refine Go.i2b 43 rfl d19_42 ?_
    refine Go.stB 44 rfl d19_43 hA (2 * jn) e1 (by rw [IL.len]; omega) hgt fun h3 K4 A5 => ?_
    have A6 : Ary Z h3 t .byte ((IL us).set (2 * jn) (.int (lo x))) := A5
    refine Go.aloadN 45 rfl d19_44 rfl rfl ?_
    refine Go.iloadN 46 rfl d19_45 rfl ?_
    refine Go.iloadN 47 rfl d19_46 rfl ?_
    refine Go.getS 50 rfl (v := .int (8 : Int32)) 96 d19_47 rfl hLo ?_
    refine Go.ishr 51 rfl d19_50 ?_
    refine Go.i2b 52 rfl d19_51 ?_
    refine Go.stB 53 rfl d19_52 A6 (2 * jn + 1) e2 (by rw [List.length_set, IL.len]; omega) hgt fun h7 K8 A9 => ?_
    have A10 : Ary Z h7 t .byte (((IL us).set (2 * jn) (.int (lo x))).set (2 * jn + 1) (.int (hi x))) := A9
    exact Go.retV d19_53 rfl (by decide) (by decide) ⟨rfl, (((Keep.refl h0 [t]).trans K4 (by simp)).trans K8 (by simp)), own_il2 A10⟩
  · exact absurd b1 (show ¬ (1 : Int32) = 0 from by decide)
theorem d20_0 : decode jdk_52_method_5_code 0 = .ok (.getstatic 44, 3) := by decide +kernel
theorem d20_3 : decode jdk_52_method_5_code 3 = .ok (.ifCond .ne 25, 3) := by decide +kernel
theorem d20_28 : decode jdk_52_method_5_code 28 = .ok (.iload_n 1, 1) := by decide +kernel
theorem d20_29 : decode jdk_52_method_5_code 29 = .ok (.iconst 1, 1) := by decide +kernel
theorem d20_30 : decode jdk_52_method_5_code 30 = .ok (.ishl, 1) := by decide +kernel
theorem d20_31 : decode jdk_52_method_5_code 31 = .ok (.istore_n 1, 1) := by decide +kernel
theorem d20_32 : decode jdk_52_method_5_code 32 = .ok (.aload_n 0, 1) := by decide +kernel
theorem d20_33 : decode jdk_52_method_5_code 33 = .ok (.iload_n 1, 1) := by decide +kernel
theorem d20_34 : decode jdk_52_method_5_code 34 = .ok (.iinc 1 1, 3) := by decide +kernel
theorem d20_37 : decode jdk_52_method_5_code 37 = .ok (.baload, 1) := by decide +kernel
theorem d20_38 : decode jdk_52_method_5_code 38 = .ok (.sipush 255, 3) := by decide +kernel
theorem d20_41 : decode jdk_52_method_5_code 41 = .ok (.iand, 1) := by decide +kernel
theorem d20_42 : decode jdk_52_method_5_code 42 = .ok (.getstatic 59, 3) := by decide +kernel
theorem d20_45 : decode jdk_52_method_5_code 45 = .ok (.ishl, 1) := by decide +kernel
theorem d20_46 : decode jdk_52_method_5_code 46 = .ok (.aload_n 0, 1) := by decide +kernel
theorem d20_47 : decode jdk_52_method_5_code 47 = .ok (.iload_n 1, 1) := by decide +kernel
theorem d20_48 : decode jdk_52_method_5_code 48 = .ok (.baload, 1) := by decide +kernel
theorem d20_49 : decode jdk_52_method_5_code 49 = .ok (.sipush 255, 3) := by decide +kernel
theorem d20_52 : decode jdk_52_method_5_code 52 = .ok (.iand, 1) := by decide +kernel
theorem d20_53 : decode jdk_52_method_5_code 53 = .ok (.getstatic 63, 3) := by decide +kernel
theorem d20_56 : decode jdk_52_method_5_code 56 = .ok (.ishl, 1) := by decide +kernel
theorem d20_57 : decode jdk_52_method_5_code 57 = .ok (.ior, 1) := by decide +kernel
theorem d20_58 : decode jdk_52_method_5_code 58 = .ok (.i2c, 1) := by decide +kernel
theorem d20_59 : decode jdk_52_method_5_code 59 = .ok (.ireturn, 1) := by decide +kernel
theorem pd20 : parseMethodDescriptor "([BI)C" = some ⟨[(.array .byte), .int], some .char⟩ := by decide +kernel
theorem pn20 : plainFor (⟨"java/lang/StringUTF16", "getChar", "([BI)C"⟩ : MethodName) = true := by first | (refine plainFor_of_name ?_; simp [plainName, overriddenIn]; done) | (refine plainFor_of_name ?_; decide +kernel) | decide +kernel
abbrev B20 : Bd := ((⟨"java/lang/StringUTF16", "getChar", "([BI)C"⟩ : MethodName), jdk_52_method_5_code, 2, (some .char), ({ frames := 0, cells := 0, slots := 0, locals := 0 } : Room), tables_1)
theorem ef20 (mid : MethodId) (t : Addr) (j : Int32) : entryFrame mid (List.toArray [.ref t, .int j]) 2 = mkF mid 0 #[.val (.ref t), .val (.int j)] [] := by first | (simp [entryFrame, mkF, argsToLocals, Value.category]; done) | rfl
def Q20 (us : List Int32) (jn : Nat) (h0 : Heap) (v : Option Value) (h : Heap) : Prop := v = some (.int (gc (us.getD (2 * jn) 0) (us.getD (2 * jn + 1) 0))) ∧ h0 = h
set_option maxRecDepth 65536 in
set_option maxHeartbeats 40000000 in
theorem c20 (Z : State) (hw : Wd Z tables_1) (h0 : Heap) (t : Addr) (j : Int32) (us : List Int32) (jn : Nat) (hj : j.toInt = jn) (hj9 : jn < 9) (hAs : Sta Z Z.heap "java/lang/StringUTF16" "$assertionsDisabled" "Z" (.int 1)) (hHi : Sta Z Z.heap "java/lang/StringUTF16" "HI_BYTE_SHIFT" "I" (.int 0)) (hLo : Sta Z Z.heap "java/lang/StringUTF16" "LO_BYTE_SHIFT" "I" (.int 8)) (hlt : 2 * jn + 1 < us.length) (hA : Ary Z h0 t .byte (IL us)) : Con Z B20 (List.toArray [.ref t, .int j]) h0 (Q20 us jn h0) := by
  refine Con.mk hw pn20 (fun mid => ef20 mid t j) (Go.old fun hle' => ?_)
  have hle := hle'.1
  refine Go.getS 3 rfl (v := .int (1 : Int32)) 94 d20_0 rfl hAs ?_
  refine Go.if_ne 28 6 d20_3 (by decide) rfl rfl (fun (b1 : ¬ (1 : Int32) = 0) => ?_) (fun (b1 : (1 : Int32) = 0) => ?_)
  · refine Go.iloadN 29 rfl d20_28 rfl ?_
    refine Go.iconst 30 rfl (1 : Int32) d20_29 rfl ?_
    refine Go.ishl 31 rfl d20_30 ?_
    refine Go.nameI fun v2 hv2 => ?_
    have e1 : v2.toInt = ((2 * jn : Nat) : Int) := own_dbl hj hj9 hv2
    have e2 : (v2 + (1 : Int32)).toInt = ((2 * jn + 1 : Nat) : Int) := own_dbl1 hj9 e1
    refine Go.istoreN 32 rfl d20_31 (Ls' := #[.val (.ref t), .val (.int v2)]) rfl ?_
    refine Go.aloadN 33 rfl d20_32 rfl rfl ?_
    refine Go.iloadN 34 rfl d20_33 rfl ?_
    refine Go.iinc 37 rfl (1 : Int32) d20_34 rfl rfl (Ls' := #[.val (.ref t), .val (.int (v2 + (1 : Int32)))]) rfl ?_
    refine Go.baload 38 rfl (us.getD (2 * jn) 0) d20_37 hA (2 * jn) e1 (IL.get (by omega)) ?_
    refine Go.sipush 41 rfl (255 : Int32) d20_38 rfl ?_
    refine Go.iand 42 rfl d20_41 ?_
    refine Go.getS 45 rfl (v := .int (0 : Int32)) 95 d20_42 rfl hHi ?_
    refine Go.ishl 46 rfl d20_45 ?_
    refine Go.aloadN 47 rfl d20_46 rfl rfl ?_
    refine Go.iloadN 48 rfl d20_47 rfl ?_
    refine Go.baload 49 rfl (us.getD (2 * jn + 1) 0) d20_48 hA (2 * jn + 1) e2 (IL.get hlt) ?_
    refine Go.sipush 52 rfl (255 : Int32) d20_49 rfl ?_
    refine Go.iand 53 rfl d20_52 ?_
    refine Go.getS 56 rfl (v := .int (8 : Int32)) 96 d20_53 rfl hLo ?_
    refine Go.ishl 57 rfl d20_56 ?_
    refine Go.ior 58 rfl d20_57 ?_
    refine Go.i2c 59 rfl d20_58 ?_
    exact Go.retN (t := .char) (z' := (gc (us.getD (2 * jn) 0) (us.getD (2 * jn + 1) 0))) d20_59 rfl (by decide) rfl (by decide) (by decide) ⟨rfl, rfl⟩
  · exact absurd b1 (show ¬ (1 : Int32) = 0 from by decide)
theorem d18_0 : decode jdk_52_method_3_code 0 = .ok (.iload_n 0, 1) := by decide +kernel
theorem d18_1 : decode jdk_52_method_3_code 1 = .ok (.ifCond .ge 11, 3) := by decide +kernel
theorem d18_12 : decode jdk_52_method_3_code 12 = .ok (.iload_n 0, 1) := by decide +kernel
theorem d18_13 : decode jdk_52_method_3_code 13 = .ok (.ldc 20, 2) := by decide +kernel
theorem d18_15 : decode jdk_52_method_3_code 15 = .ok (.if_icmp .lt 40, 3) := by decide +kernel
theorem d18_55 : decode jdk_52_method_3_code 55 = .ok (.iload_n 0, 1) := by decide +kernel
theorem d18_56 : decode jdk_52_method_3_code 56 = .ok (.iconst 1, 1) := by decide +kernel
theorem d18_57 : decode jdk_52_method_3_code 57 = .ok (.ishl, 1) := by decide +kernel
theorem d18_58 : decode jdk_52_method_3_code 58 = .ok (.ireturn, 1) := by decide +kernel
theorem pd18 : parseMethodDescriptor "(I)I" = some ⟨[.int], some .int⟩ := by decide +kernel
theorem pn18 : plainFor (⟨"java/lang/StringUTF16", "newBytesLength", "(I)I"⟩ : MethodName) = true := by first | (refine plainFor_of_name ?_; simp [plainName, overriddenIn]; done) | (refine plainFor_of_name ?_; decide +kernel) | decide +kernel
abbrev B18 : Bd := ((⟨"java/lang/StringUTF16", "newBytesLength", "(I)I"⟩ : MethodName), jdk_52_method_3_code, 1, (some .int), ({ frames := 0, cells := 0, slots := 0, locals := 0 } : Room), tables_1)
theorem ef18n4 (mid : MethodId)  : entryFrame mid (List.toArray [.int (4 : Int32)]) 1 = mkF mid 0 #[.val (.int (4 : Int32))] [] := by first | (simp [entryFrame, mkF, argsToLocals, Value.category]; done) | rfl
def Q18n4 (h0 : Heap) (v : Option Value) (h : Heap) : Prop := v = some (.int (8 : Int32)) ∧ h0 = h
set_option maxRecDepth 65536 in
set_option maxHeartbeats 40000000 in
theorem c18n4 (Z : State) (hw : Wd Z tables_1) (h0 : Heap)    : Con Z B18 (List.toArray [.int (4 : Int32)]) h0 (Q18n4 h0) := by
  refine Con.mk hw pn18 (fun mid => ef18n4 mid ) (Go.old fun hle' => ?_)
  have hle := hle'.1
  refine Go.iloadN 1 rfl d18_0 rfl ?_
  refine Go.if_ge 12 4 d18_1 (by decide) rfl rfl (fun (b1 : ¬ (4 : Int32) < 0) => ?_) (fun (b1 : (4 : Int32) < 0) => ?_)
  · refine Go.iloadN 13 rfl d18_12 rfl ?_
    refine Go.ldcI 15 rfl (v := (1073741823 : Int32)) 90 d18_13 rfl ?_
    refine Go.icmp_lt 55 18 d18_15 (by decide) rfl rfl (fun (b2 : (4 : Int32) < (1073741823 : Int32)) => ?_) (fun (b2 : ¬ (4 : Int32) < (1073741823 : Int32)) => ?_)
    · refine Go.iloadN 56 rfl d18_55 rfl ?_
      refine Go.iconst 57 rfl (1 : Int32) d18_56 rfl ?_
      refine Go.ishl 58 rfl d18_57 ?_
      refine Go.eqI (w := 8) (by decide) ?_
      exact Go.retI d18_58 rfl (by decide) (by decide) ⟨rfl, rfl⟩
    · exact absurd (show (4 : Int32) < (1073741823 : Int32) from by decide) b2
  · exact absurd b1 (show ¬ (4 : Int32) < 0 from by decide)
theorem d17_0 : decode jdk_52_method_2_code 0 = .ok (.iload_n 0, 1) := by decide +kernel
theorem d17_1 : decode jdk_52_method_2_code 1 = .ok (.invokestatic 11, 3) := by decide +kernel
theorem d17_4 : decode jdk_52_method_2_code 4 = .ok (.newarray .byte, 2) := by decide +kernel
theorem d17_6 : decode jdk_52_method_2_code 6 = .ok (.areturn, 1) := by decide +kernel
theorem pd17 : parseMethodDescriptor "(I)[B" = some ⟨[.int], some (.array .byte)⟩ := by decide +kernel
theorem pn17 : plainFor (⟨"java/lang/StringUTF16", "newBytesFor", "(I)[B"⟩ : MethodName) = true := by first | (refine plainFor_of_name ?_; simp [plainName, overriddenIn]; done) | (refine plainFor_of_name ?_; decide +kernel) | decide +kernel
abbrev B17 : Bd := ((⟨"java/lang/StringUTF16", "newBytesFor", "(I)[B"⟩ : MethodName), jdk_52_method_2_code, 1, (some (.array .byte)), ({ frames := 1, cells := 1, slots := 8, locals := 12 } : Room), tables_1)
theorem ef17n4 (mid : MethodId)  : entryFrame mid (List.toArray [.int (4 : Int32)]) 1 = mkF mid 0 #[.val (.int (4 : Int32))] [] := by first | (simp [entryFrame, mkF, argsToLocals, Value.category]; done) | rfl
def Q17n4 (Z : State) (h0 : Heap) (v : Option Value) (h : Heap) : Prop := ∃ t, v = some (.ref t) ∧ h0.size ≤ t ∧ Keep h0 h [] ∧ Ary Z h t .byte (IL [0, 0, 0, 0, 0, 0, 0, 0])
set_option maxRecDepth 65536 in
set_option maxHeartbeats 40000000 in
theorem c17n4 (Z : State) (hw : Wd Z tables_1) (h0 : Heap)    : Con Z B17 (List.toArray [.int (4 : Int32)]) h0 (Q17n4 Z h0) := by
  refine Con.mk hw pn17 (fun mid => ef17n4 mid ) (Go.old fun hle' => ?_)
  have hle := hle'.1
  refine Go.iloadN 1 rfl d17_0 rfl ?_
  refine Go.callS 4 rfl (C := B18) [.int (4 : Int32)] (rest := []) 87 88 25 89 (c18n4 Z hw h0) d17_1 rfl rfl rfl rfl (by decide) pd18 rfl rfl rfl (W := 0) (Nat.le_of_ble_eq_true rfl) (by decide) (by decide) (by decide) (by decide) fun v1 h2 q3 => ?_
  obtain ⟨rfl, rfl⟩ := q3
  refine Go.newA 6 rfl 15 8 8 d17_4 rfl rfl (by decide) (by decide) (by decide) (by decide) fun h5 a4 g6 z7 K8 A9 E10 => ?_
  have A11 : Ary Z h5 a4 .byte [.int 0, .int 0, .int 0, .int 0, .int 0, .int 0, .int 0, .int 0] := A9
  exact Go.retA d17_6 rfl rfl rfl (by decide) (by decide) ⟨a4, rfl, Nat.le_of_eq g6.symm, ((Keep.refl h0 []).trans K8 all0), A11⟩
theorem d16_0 : decode jdk_52_method_14_code 0 = .ok (.iload_n 2, 1) := by decide +kernel
theorem d16_1 : decode jdk_52_method_14_code 1 = .ok (.invokestatic 107, 3) := by decide +kernel
theorem d16_4 : decode jdk_52_method_14_code 4 = .ok (.astore_n 3, 1) := by decide +kernel
theorem d16_5 : decode jdk_52_method_14_code 5 = .ok (.iconst 0, 1) := by decide +kernel
theorem d16_6 : decode jdk_52_method_14_code 6 = .ok (.istore 4, 2) := by decide +kernel
theorem d16_8 : decode jdk_52_method_14_code 8 = .ok (.iload 4, 2) := by decide +kernel
theorem d16_10 : decode jdk_52_method_14_code 10 = .ok (.iload_n 2, 1) := by decide +kernel
theorem d16_11 : decode jdk_52_method_14_code 11 = .ok (.if_icmp .ge 21, 3) := by decide +kernel
theorem d16_14 : decode jdk_52_method_14_code 14 = .ok (.aload_n 3, 1) := by decide +kernel
theorem d16_15 : decode jdk_52_method_14_code 15 = .ok (.iload 4, 2) := by decide +kernel
theorem d16_17 : decode jdk_52_method_14_code 17 = .ok (.aload_n 0, 1) := by decide +kernel
theorem d16_18 : decode jdk_52_method_14_code 18 = .ok (.iload_n 1, 1) := by decide +kernel
theorem d16_19 : decode jdk_52_method_14_code 19 = .ok (.caload, 1) := by decide +kernel
theorem d16_20 : decode jdk_52_method_14_code 20 = .ok (.invokestatic 111, 3) := by decide +kernel
theorem d16_23 : decode jdk_52_method_14_code 23 = .ok (.iinc 1 1, 3) := by decide +kernel
theorem d16_26 : decode jdk_52_method_14_code 26 = .ok (.iinc 4 1, 3) := by decide +kernel
theorem d16_29 : decode jdk_52_method_14_code 29 = .ok (.goto (-21), 3) := by decide +kernel
theorem d16_32 : decode jdk_52_method_14_code 32 = .ok (.aload_n 3, 1) := by decide +kernel
theorem d16_33 : decode jdk_52_method_14_code 33 = .ok (.areturn, 1) := by decide +kernel
theorem pd16 : parseMethodDescriptor "([CII)[B" = some ⟨[(.array .char), .int, .int], some (.array .byte)⟩ := by decide +kernel
theorem pn16 : plainFor (⟨"java/lang/StringUTF16", "toBytes", "([CII)[B"⟩ : MethodName) = true := by first | (refine plainFor_of_name ?_; simp [plainName, overriddenIn]; done) | (refine plainFor_of_name ?_; decide +kernel) | decide +kernel
abbrev B16 : Bd := ((⟨"java/lang/StringUTF16", "toBytes", "([CII)[B"⟩ : MethodName), jdk_52_method_14_code, 5, (some (.array .byte)), ({ frames := 2, cells := 1, slots := 8, locals := 24 } : Room), tables_1)
theorem ef16n4 (mid : MethodId) (s : Addr) : entryFrame mid (List.toArray [.ref s, .int (0 : Int32), .int (4 : Int32)]) 5 = mkF mid 0 #[.val (.ref s), .val (.int (0 : Int32)), .val (.int (4 : Int32)), .unset, .unset] [] := by first | (simp [entryFrame, mkF, argsToLocals, Value.category]; done) | rfl
def Q16n4 (Z : State) (x0 : Int32) (x1 : Int32) (x2 : Int32) (x3 : Int32) (h0 : Heap) (v : Option Value) (h : Heap) : Prop := ∃ t, v = some (.ref t) ∧ h0.size ≤ t ∧ Keep h0 h [] ∧ Ary Z h t .byte (IL [lo x0, hi x0, lo x1, hi x1, lo x2, hi x2, lo x3, hi x3])
set_option maxRecDepth 65536 in
set_option maxHeartbeats 40000000 in
theorem c16n4 (Z : State) (hw : Wd Z tables_1) (h0 : Heap) (s : Addr) (x0 : Int32) (x1 : Int32) (x2 : Int32) (x3 : Int32) (hAs : Sta Z Z.heap "java/lang/StringUTF16" "$assertionsDisabled" "Z" (.int 1)) (hHi : Sta Z Z.heap "java/lang/StringUTF16" "HI_BYTE_SHIFT" "I" (.int 0)) (hLo : Sta Z Z.heap "java/lang/StringUTF16" "LO_BYTE_SHIFT" "I" (.int 8)) (hA : Ary Z h0 s .char [.int x0, .int x1, .int x2, .int x3]) : Con Z B16 (List.toArray [.ref s, .int (0 : Int32), .int (4 : Int32)]) h0 (Q16n4 Z x0 x1 x2 x3 h0) := by
  refine Con.mk hw pn16 (fun mid => ef16n4 mid s) (Go.old fun hle' => ?_)
  have hle := hle'.1
  refine Go.iloadN 1 rfl d16_0 rfl ?_
  refine Go.callS 4 rfl (C := B17) [.int (4 : Int32)] (rest := []) 84 85 25 86 (c17n4 Z hw h0) d16_1 rfl rfl rfl rfl (by decide) pd17 rfl rfl rfl (W := 0) (Nat.le_of_ble_eq_true rfl) (by decide) (by decide) (by decide) (by decide) fun v1 h2 q3 => ?_
  obtain ⟨t, rfl, g, K, A⟩ := q3
  have z4 : Z.heap.size ≤ t := Nat.le_trans hle g
  refine Go.astoreN 5 rfl d16_4 rfl (Ls' := #[.val (.ref s), .val (.int (0 : Int32)), .val (.int (4 : Int32)), .val (.ref t), .unset]) rfl ?_
  refine Go.iconst 6 rfl (0 : Int32) d16_5 rfl ?_
  refine Go.istore 8 rfl d16_6 (Ls' := #[.val (.ref s), .val (.int (0 : Int32)), .val (.int (4 : Int32)), .val (.ref t), .val (.int (0 : Int32))]) rfl ?_
  refine Go.iload 10 rfl d16_8 rfl ?_
  refine Go.iloadN 11 rfl d16_10 rfl ?_
  refine Go.icmp_ge 32 14 d16_11 (by decide) rfl rfl (fun (b5 : ¬ (0 : Int32) < (4 : Int32)) => ?_) (fun (b5 : (0 : Int32) < (4 : Int32)) => ?_)
  · exact absurd (show (0 : Int32) < (4 : Int32) from by decide) b5
  · refine Go.aloadN 15 rfl d16_14 rfl rfl ?_
    refine Go.iload 17 rfl d16_15 rfl ?_
    refine Go.aloadN 18 rfl d16_17 rfl rfl ?_
    refine Go.iloadN 19 rfl d16_18 rfl ?_
    have F6 : Ary Z h2 s .char [.int x0, .int x1, .int x2, .int x3] := (hA.keep K nin0)
    refine Go.caload 20 rfl x0 d16_19 F6 0 rfl rfl ?_
    refine Go.callS 23 rfl (C := B19) [.ref t, .int (0 : Int32), .int x0] (rest := []) 91 92 25 93 (c19 Z hw h2 t (0 : Int32) x0 [0, 0, 0, 0, 0, 0, 0, 0] 0 rfl (by decide) hAs hHi hLo z4 (Nat.le_of_ble_eq_true rfl) A) d16_20 rfl rfl rfl rfl (by decide) pd19 rfl rfl rfl (W := 0) (Nat.le_of_ble_eq_true rfl) (by decide) (by decide) (by decide) (by decide) fun v7 h8 q9 => ?_
    obtain ⟨rfl, K10, A11⟩ := q9
    have A12 : Ary Z h8 t .byte (IL [lo x0, hi x0, 0, 0, 0, 0, 0, 0]) := A11
    refine Go.iinc 26 rfl (1 : Int32) d16_23 rfl rfl (Ls' := #[.val (.ref s), .val (.int ((0 : Int32) + (1 : Int32))), .val (.int (4 : Int32)), .val (.ref t), .val (.int (0 : Int32))]) rfl ?_
    refine Go.iinc 29 rfl (1 : Int32) d16_26 rfl rfl (Ls' := #[.val (.ref s), .val (.int ((0 : Int32) + (1 : Int32))), .val (.int (4 : Int32)), .val (.ref t), .val (.int ((0 : Int32) + (1 : Int32)))]) rfl ?_
    refine Go.goto 8 d16_29 (by decide) (by decide) ?_
    refine Go.iload 10 rfl d16_8 rfl ?_
    refine Go.iloadN 11 rfl d16_10 rfl ?_
    refine Go.icmp_ge 32 14 d16_11 (by decide) rfl rfl (fun (b13 : ¬ ((0 : Int32) + (1 : Int32)) < (4 : Int32)) => ?_) (fun (b13 : ((0 : Int32) + (1 : Int32)) < (4 : Int32)) => ?_)
    · exact absurd (show ((0 : Int32) + (1 : Int32)) < (4 : Int32) from by decide) b13
    · refine Go.aloadN 15 rfl d16_14 rfl rfl ?_
      refine Go.iload 17 rfl d16_15 rfl ?_
      refine Go.aloadN 18 rfl d16_17 rfl rfl ?_
      refine Go.iloadN 19 rfl d16_18 rfl ?_
      have ne14 : s ≠ t := (show @Ne Nat s t from by have := ltN hA.lt; have := g; omega)
      have F15 : Ary Z h8 s .char [.int x0, .int x1, .int x2, .int x3] := (F6.keep K10 (ninS ne14 nin0))
      refine Go.caload 20 rfl x1 d16_19 F15 1 rfl rfl ?_
      refine Go.callS 23 rfl (C := B19) [.ref t, .int ((0 : Int32) + (1 : Int32)), .int x1] (rest := []) 91 92 25 93 (c19 Z hw h8 t ((0 : Int32) + (1 : Int32)) x1 [lo x0, hi x0, 0, 0, 0, 0, 0, 0] 1 rfl (by decide) hAs hHi hLo z4 (Nat.le_of_ble_eq_true rfl) A12) d16_20 rfl rfl rfl rfl (by decide) pd19 rfl rfl rfl (W := 0) (Nat.le_of_ble_eq_true rfl) (by decide) (by decide) (by decide) (by decide) fun v16 h17 q18 => ?_
      obtain ⟨rfl, K19, A20⟩ := q18
      have A21 : Ary Z h17 t .byte (IL [lo x0, hi x0, lo x1, hi x1, 0, 0, 0, 0]) := A20
      refine Go.iinc 26 rfl (1 : Int32) d16_23 rfl rfl (Ls' := #[.val (.ref s), .val (.int (((0 : Int32) + (1 : Int32)) + (1 : Int32))), .val (.int (4 : Int32)), .val (.ref t), .val (.int ((0 : Int32) + (1 : Int32)))]) rfl ?_
      refine Go.iinc 29 rfl (1 : Int32) d16_26 rfl rfl (Ls' := #[.val (.ref s), .val (.int (((0 : Int32) + (1 : Int32)) + (1 : Int32))), .val (.int (4 : Int32)), .val (.ref t), .val (.int (((0 : Int32) + (1 : Int32)) + (1 : Int32)))]) rfl ?_
      refine Go.goto 8 d16_29 (by decide) (by decide) ?_
      refine Go.iload 10 rfl d16_8 rfl ?_
      refine Go.iloadN 11 rfl d16_10 rfl ?_
      refine Go.icmp_ge 32 14 d16_11 (by decide) rfl rfl (fun (b22 : ¬ (((0 : Int32) + (1 : Int32)) + (1 : Int32)) < (4 : Int32)) => ?_) (fun (b22 : (((0 : Int32) + (1 : Int32)) + (1 : Int32)) < (4 : Int32)) => ?_)
      · exact absurd (show (((0 : Int32) + (1 : Int32)) + (1 : Int32)) < (4 : Int32) from by decide) b22
      · refine Go.aloadN 15 rfl d16_14 rfl rfl ?_
        refine Go.iload 17 rfl d16_15 rfl ?_
        refine Go.aloadN 18 rfl d16_17 rfl rfl ?_
        refine Go.iloadN 19 rfl d16_18 rfl ?_
        have F23 : Ary Z h17 s .char [.int x0, .int x1, .int x2, .int x3] := (F15.keep K19 (ninS ne14 nin0))
        refine Go.caload 20 rfl x2 d16_19 F23 2 rfl rfl ?_
        refine Go.callS 23 rfl (C := B19) [.ref t, .int (((0 : Int32) + (1 : Int32)) + (1 : Int32)), .int x2] (rest := []) 91 92 25 93 (c19 Z hw h17 t (((0 : Int32) + (1 : Int32)) + (1 : Int32)) x2 [lo x0, hi x0, lo x1, hi x1, 0, 0, 0, 0] 2 rfl (by decide) hAs hHi hLo z4 (Nat.le_of_ble_eq_true rfl) A21) d16_20 rfl rfl rfl rfl (by decide) pd19 rfl rfl rfl (W := 0) (Nat.le_of_ble_eq_true rfl) (by decide) (by decide) (by decide) (by decide) fun v24 h25 q26 => ?_
        obtain ⟨rfl, K27, A28⟩ := q26
        have A29 : Ary Z h25 t .byte (IL [lo x0, hi x0, lo x1, hi x1, lo x2, hi x2, 0, 0]) := A28
        refine Go.iinc 26 rfl (1 : Int32) d16_23 rfl rfl (Ls' := #[.val (.ref s), .val (.int ((((0 : Int32) + (1 : Int32)) + (1 : Int32)) + (1 : Int32))), .val (.int (4 : Int32)), .val (.ref t), .val (.int (((0 : Int32) + (1 : Int32)) + (1 : Int32)))]) rfl ?_
        refine Go.iinc 29 rfl (1 : Int32) d16_26 rfl rfl (Ls' := #[.val (.ref s), .val (.int ((((0 : Int32) + (1 : Int32)) + (1 : Int32)) + (1 : Int32))), .val (.int (4 : Int32)), .val (.ref t), .val (.int ((((0 : Int32) + (1 : Int32)) + (1 : Int32)) + (1 : Int32)))]) rfl ?_
        refine Go.goto 8 d16_29 (by decide) (by decide) ?_
        refine Go.iload 10 rfl d16_8 rfl ?_
        refine Go.iloadN 11 rfl d16_10 rfl ?_
        refine Go.icmp_ge 32 14 d16_11 (by decide) rfl rfl (fun (b30 : ¬ ((((0 : Int32) + (1 : Int32)) + (1 : Int32)) + (1 : Int32)) < (4 : Int32)) => ?_) (fun (b30 : ((((0 : Int32) + (1 : Int32)) + (1 : Int32)) + (1 : Int32)) < (4 : Int32)) => ?_)
        · exact absurd (show ((((0 : Int32) + (1 : Int32)) + (1 : Int32)) + (1 : Int32)) < (4 : Int32) from by decide) b30
        · refine Go.aloadN 15 rfl d16_14 rfl rfl ?_
          refine Go.iload 17 rfl d16_15 rfl ?_
          refine Go.aloadN 18 rfl d16_17 rfl rfl ?_
          refine Go.iloadN 19 rfl d16_18 rfl ?_
          have F31 : Ary Z h25 s .char [.int x0, .int x1, .int x2, .int x3] := (F23.keep K27 (ninS ne14 nin0))
          refine Go.caload 20 rfl x3 d16_19 F31 3 rfl rfl ?_
          refine Go.callS 23 rfl (C := B19) [.ref t, .int ((((0 : Int32) + (1 : Int32)) + (1 : Int32)) + (1 : Int32)), .int x3] (rest := []) 91 92 25 93 (c19 Z hw h25 t ((((0 : Int32) + (1 : Int32)) + (1 : Int32)) + (1 : Int32)) x3 [lo x0, hi x0, lo x1, hi x1, lo x2, hi x2, 0, 0] 3 rfl (by decide) hAs hHi hLo z4 (Nat.le_of_ble_eq_true rfl) A29) d16_20 rfl rfl rfl rfl (by decide) pd19 rfl rfl rfl (W := 0) (Nat.le_of_ble_eq_true rfl) (by decide) (by decide) (by decide) (by decide) fun v32 h33 q34 => ?_
          obtain ⟨rfl, K35, A36⟩ := q34
          have A37 : Ary Z h33 t .byte (IL [lo x0, hi x0, lo x1, hi x1, lo x2, hi x2, lo x3, hi x3]) := A36
          refine Go.iinc 26 rfl (1 : Int32) d16_23 rfl rfl (Ls' := #[.val (.ref s), .val (.int (((((0 : Int32) + (1 : Int32)) + (1 : Int32)) + (1 : Int32)) + (1 : Int32))), .val (.int (4 : Int32)), .val (.ref t), .val (.int ((((0 : Int32) + (1 : Int32)) + (1 : Int32)) + (1 : Int32)))]) rfl ?_
          refine Go.iinc 29 rfl (1 : Int32) d16_26 rfl rfl (Ls' := #[.val (.ref s), .val (.int (((((0 : Int32) + (1 : Int32)) + (1 : Int32)) + (1 : Int32)) + (1 : Int32))), .val (.int (4 : Int32)), .val (.ref t), .val (.int (((((0 : Int32) + (1 : Int32)) + (1 : Int32)) + (1 : Int32)) + (1 : Int32)))]) rfl ?_
          refine Go.goto 8 d16_29 (by decide) (by decide) ?_
          refine Go.iload 10 rfl d16_8 rfl ?_
          refine Go.iloadN 11 rfl d16_10 rfl ?_
          refine Go.icmp_ge 32 14 d16_11 (by decide) rfl rfl (fun (b38 : ¬ (((((0 : Int32) + (1 : Int32)) + (1 : Int32)) + (1 : Int32)) + (1 : Int32)) < (4 : Int32)) => ?_) (fun (b38 : (((((0 : Int32) + (1 : Int32)) + (1 : Int32)) + (1 : Int32)) + (1 : Int32)) < (4 : Int32)) => ?_)
          · refine Go.aloadN 33 rfl d16_32 rfl rfl ?_
            exact Go.retA d16_33 rfl rfl rfl (by decide) (by decide) ⟨t, rfl, g, ((((((Keep.refl h0 []).trans K all0).trans K10 (allS (Or.inr (by have := K.1; have := g; omega)) all0)).trans K19 (allS (Or.inr (by have := K.1; have := K10.1; have := g; omega)) all0)).trans K27 (allS (Or.inr (by have := K.1; have := K10.1; have := K19.1; have := g; omega)) all0)).trans K35 (allS (Or.inr (by have := K.1; have := K10.1; have := K19.1; have := K27.1; have := g; omega)) all0)), A37⟩
          · exact absurd b38 (show ¬ (((((0 : Int32) + (1 : Int32)) + (1 : Int32)) + (1 : Int32)) + (1 : Int32)) < (4 : Int32) from by decide)
theorem d5_0 : decode jdk_52_method_21_code 0 = .ok (.iconst 0, 1) := by decide +kernel
theorem d5_1 : decode jdk_52_method_21_code 1 = .ok (.istore 5, 2) := by decide +kernel
theorem d5_3 : decode jdk_52_method_21_code 3 = .ok (.iload 5, 2) := by decide +kernel
theorem d5_5 : decode jdk_52_method_21_code 5 = .ok (.iload 4, 2) := by decide +kernel
theorem d5_7 : decode jdk_52_method_21_code 7 = .ok (.if_icmp .ge 37, 3) := by decide +kernel
theorem d5_10 : decode jdk_52_method_21_code 10 = .ok (.aload_n 0, 1) := by decide +kernel
theorem d5_11 : decode jdk_52_method_21_code 11 = .ok (.iload_n 1, 1) := by decide +kernel
theorem d5_12 : decode jdk_52_method_21_code 12 = .ok (.caload, 1) := by decide +kernel
theorem d5_13 : decode jdk_52_method_21_code 13 = .ok (.istore 6, 2) := by decide +kernel
theorem d5_15 : decode jdk_52_method_21_code 15 = .ok (.iload 6, 2) := by decide +kernel
theorem d5_17 : decode jdk_52_method_21_code 17 = .ok (.sipush 255, 3) := by decide +kernel
theorem d5_20 : decode jdk_52_method_21_code 20 = .ok (.if_icmp .le 6, 3) := by decide +kernel
theorem d5_23 : decode jdk_52_method_21_code 23 = .ok (.iload 5, 2) := by decide +kernel
theorem d5_25 : decode jdk_52_method_21_code 25 = .ok (.ireturn, 1) := by decide +kernel
theorem d5_26 : decode jdk_52_method_21_code 26 = .ok (.aload_n 2, 1) := by decide +kernel
theorem d5_27 : decode jdk_52_method_21_code 27 = .ok (.iload_n 3, 1) := by decide +kernel
theorem d5_28 : decode jdk_52_method_21_code 28 = .ok (.iload 6, 2) := by decide +kernel
theorem d5_30 : decode jdk_52_method_21_code 30 = .ok (.i2b, 1) := by decide +kernel
theorem d5_31 : decode jdk_52_method_21_code 31 = .ok (.bastore, 1) := by decide +kernel
theorem d5_32 : decode jdk_52_method_21_code 32 = .ok (.iinc 1 1, 3) := by decide +kernel
theorem d5_35 : decode jdk_52_method_21_code 35 = .ok (.iinc 3 1, 3) := by decide +kernel
theorem d5_38 : decode jdk_52_method_21_code 38 = .ok (.iinc 5 1, 3) := by decide +kernel
theorem d5_41 : decode jdk_52_method_21_code 41 = .ok (.goto (-38), 3) := by decide +kernel
theorem d5_44 : decode jdk_52_method_21_code 44 = .ok (.iload 4, 2) := by decide +kernel
theorem d5_46 : decode jdk_52_method_21_code 46 = .ok (.ireturn, 1) := by decide +kernel
theorem pd5 : parseMethodDescriptor "([CI[BII)I" = some ⟨[(.array .char), .int, (.array .byte), .int, .int], some .int⟩ := by decide +kernel
theorem pn5 : plainFor (⟨"java/lang/StringUTF16", "compress", "([CI[BII)I"⟩ : MethodName) = true := by first | (refine plainFor_of_name ?_; simp [plainName, overriddenIn]; done) | (refine plainFor_of_name ?_; decide +kernel) | decide +kernel
abbrev B5 : Bd := ((⟨"java/lang/StringUTF16", "compress", "([CI[BII)I"⟩ : MethodName), jdk_52_method_21_code, 7, (some .int), ({ frames := 0, cells := 0, slots := 0, locals := 0 } : Room), tables_1)
theorem ef5n4 (mid : MethodId) (s : Addr) (t : Addr) : entryFrame mid (List.toArray [.ref s, .int (0 : Int32), .ref t, .int (0 : Int32), .int (4 : Int32)]) 7 = mkF mid 0 #[.val (.ref s), .val (.int (0 : Int32)), .val (.ref t), .val (.int (0 : Int32)), .val (.int (4 : Int32)), .unset, .unset] [] := by first | (simp [entryFrame, mkF, argsToLocals, Value.category]; done) | rfl
def Q5n4 (Z : State) (t : Addr) (x0 : Int32) (x1 : Int32) (x2 : Int32) (x3 : Int32) (h0 : Heap) (v : Option Value) (h : Heap) : Prop := ∃ r, v = some (.int r) ∧ Keep h0 h [t] ∧ ((r = (4 : Int32) ∧ ¬ (255 : Int32) < x0 ∧ ¬ (255 : Int32) < x1 ∧ ¬ (255 : Int32) < x2 ∧ ¬ (255 : Int32) < x3 ∧ Ary Z h t .byte (IL [l1 x0, l1 x1, l1 x2, l1 x3])) ∨ ∃ i : Nat, i < 4 ∧ r = Int32.ofNat i ∧ (255 : Int32) < ([x0, x1, x2, x3] : List Int32).getD i 0)
set_option maxRecDepth 65536 in
set_option maxHeartbeats 40000000 in
theorem c5n4 (Z : State) (hw : Wd Z tables_1) (h0 : Heap) (s : Addr) (t : Addr) (x0 : Int32) (x1 : Int32) (x2 : Int32) (x3 : Int32) (hA : Ary Z h0 s .char [.int x0, .int x1, .int x2, .int x3]) (hB : Ary Z h0 t .byte [.int 0, .int 0, .int 0, .int 0]) (hgt : Z.heap.size ≤ t) (hne : s ≠ t) : Con Z B5 (List.toArray [.ref s, .int (0 : Int32), .ref t, .int (0 : Int32), .int (4 : Int32)]) h0 (Q5n4 Z t x0 x1 x2 x3 h0) := by
  refine Con.mk hw pn5 (fun mid => ef5n4 mid s t) (Go.old fun hle' => ?_)
  have hle := hle'.1
  refine Go.iconst 1 rfl (0 : Int32) d5_0 rfl ?_
  refine Go.istore 3 rfl d5_1 (Ls' := #[.val (.ref s), .val (.int (0 : Int32)), .val (.ref t), .val (.int (0 : Int32)), .val (.int (4 : Int32)), .val (.int (0 : Int32)), .unset]) rfl ?_
  refine Go.iload 5 rfl d5_3 rfl ?_
  refine Go.iload 7 rfl d5_5 rfl ?_
  refine Go.icmp_ge 44 10 d5_7 (by decide) rfl rfl (fun (b1 : ¬ (0 : Int32) < (4 : Int32)) => ?_) (fun (b1 : (0 : Int32) < (4 : Int32)) => ?_)
  · exact absurd (show (0 : Int32) < (4 : Int32) from by decide) b1
  · refine Go.aloadN 11 rfl d5_10 rfl rfl ?_
    refine Go.iloadN 12 rfl d5_11 rfl ?_
    refine Go.caload 13 rfl x0 d5_12 hA 0 rfl rfl ?_
    refine Go.istore 15 rfl d5_13 (Ls' := #[.val (.ref s), .val (.int (0 : Int32)), .val (.ref t), .val (.int (0 : Int32)), .val (.int (4 : Int32)), .val (.int (0 : Int32)), .val (.int x0)]) rfl ?_
    refine Go.iload 17 rfl d5_15 rfl ?_
    refine Go.sipush 20 rfl (255 : Int32) d5_17 rfl ?_
    refine Go.icmp_le 26 23 d5_20 (by decide) rfl rfl (fun (b2 : ¬ (255 : Int32) < x0) => ?_) (fun (b2 : (255 : Int32) < x0) => ?_)
    · refine Go.aloadN 27 rfl d5_26 rfl rfl ?_
      refine Go.iloadN 28 rfl d5_27 rfl ?_
      refine Go.iload 30 rfl d5_28 rfl ?_
      refine Go.i2b 31 rfl d5_30 ?_
      refine Go.stB 32 rfl d5_31 hB 0 rfl (Nat.le_of_ble_eq_true rfl) hgt fun h3 K4 A5 => ?_
      have A6 : Ary Z h3 t .byte [.int (nar .byte x0.toInt8.toInt32), .int 0, .int 0, .int 0] := A5
      refine Go.iinc 35 rfl (1 : Int32) d5_32 rfl rfl (Ls' := #[.val (.ref s), .val (.int ((0 : Int32) + (1 : Int32))), .val (.ref t), .val (.int (0 : Int32)), .val (.int (4 : Int32)), .val (.int (0 : Int32)), .val (.int x0)]) rfl ?_
      refine Go.iinc 38 rfl (1 : Int32) d5_35 rfl rfl (Ls' := #[.val (.ref s), .val (.int ((0 : Int32) + (1 : Int32))), .val (.ref t), .val (.int ((0 : Int32) + (1 : Int32))), .val (.int (4 : Int32)), .val (.int (0 : Int32)), .val (.int x0)]) rfl ?_
      refine Go.iinc 41 rfl (1 : Int32) d5_38 rfl rfl (Ls' := #[.val (.ref s), .val (.int ((0 : Int32) + (1 : Int32))), .val (.ref t), .val (.int ((0 : Int32) + (1 : Int32))), .val (.int (4 : Int32)), .val (.int ((0 : Int32) + (1 : Int32))), .val (.int x0)]) rfl ?_
      refine Go.goto 3 d5_41 (by decide) (by decide) ?_
      refine Go.iload 5 rfl d5_3 rfl ?_
      refine Go.iload 7 rfl d5_5 rfl ?_
      refine Go.icmp_ge 44 10 d5_7 (by decide) rfl rfl (fun (b7 : ¬ ((0 : Int32) + (1 : Int32)) < (4 : Int32)) => ?_) (fun (b7 : ((0 : Int32) + (1 : Int32)) < (4 : Int32)) => ?_)
      · exact absurd (show ((0 : Int32) + (1 : Int32)) < (4 : Int32) from by decide) b7
      · refine Go.aloadN 11 rfl d5_10 rfl rfl ?_
        refine Go.iloadN 12 rfl d5_11 rfl ?_
        have F8 : Ary Z h3 s .char [.int x0, .int x1, .int x2, .int x3] := (hA.keep K4 (ninS hne nin0))
        refine Go.caload 13 rfl x1 d5_12 F8 1 rfl rfl ?_
        refine Go.istore 15 rfl d5_13 (Ls' := #[.val (.ref s), .val (.int ((0 : Int32) + (1 : Int32))), .val (.ref t), .val (.int ((0 : Int32) + (1 : Int32))), .val (.int (4 : Int32)), .val (.int ((0 : Int32) + (1 : Int32))), .val (.int x1)]) rfl ?_
        refine Go.iload 17 rfl d5_15 rfl ?_
        refine Go.sipush 20 rfl (255 : Int32) d5_17 rfl ?_
        refine Go.icmp_le 26 23 d5_20 (by decide) rfl rfl (fun (b9 : ¬ (255 : Int32) < x1) => ?_) (fun (b9 : (255 : Int32) < x1) => ?_)
        · refine Go.aloadN 27 rfl d5_26 rfl rfl ?_
          refine Go.iloadN 28 rfl d5_27 rfl ?_
          refine Go.iload 30 rfl d5_28 rfl ?_
          refine Go.i2b 31 rfl d5_30 ?_
          refine Go.stB 32 rfl d5_31 A6 1 rfl (Nat.le_of_ble_eq_true rfl) hgt fun h10 K11 A12 => ?_
          have A13 : Ary Z h10 t .byte [.int (nar .byte x0.toInt8.toInt32), .int (nar .byte x1.toInt8.toInt32), .int 0, .int 0] := A12
          refine Go.iinc 35 rfl (1 : Int32) d5_32 rfl rfl (Ls' := #[.val (.ref s), .val (.int (((0 : Int32) + (1 : Int32)) + (1 : Int32))), .val (.ref t), .val (.int ((0 : Int32) + (1 : Int32))), .val (.int (4 : Int32)), .val (.int ((0 : Int32) + (1 : Int32))), .val (.int x1)]) rfl ?_
          refine Go.iinc 38 rfl (1 : Int32) d5_35 rfl rfl (Ls' := #[.val (.ref s), .val (.int (((0 : Int32) + (1 : Int32)) + (1 : Int32))), .val (.ref t), .val (.int (((0 : Int32) + (1 : Int32)) + (1 : Int32))), .val (.int (4 : Int32)), .val (.int ((0 : Int32) + (1 : Int32))), .val (.int x1)]) rfl ?_
          refine Go.iinc 41 rfl (1 : Int32) d5_38 rfl rfl (Ls' := #[.val (.ref s), .val (.int (((0 : Int32) + (1 : Int32)) + (1 : Int32))), .val (.ref t), .val (.int (((0 : Int32) + (1 : Int32)) + (1 : Int32))), .val (.int (4 : Int32)), .val (.int (((0 : Int32) + (1 : Int32)) + (1 : Int32))), .val (.int x1)]) rfl ?_
          refine Go.goto 3 d5_41 (by decide) (by decide) ?_
          refine Go.iload 5 rfl d5_3 rfl ?_
          refine Go.iload 7 rfl d5_5 rfl ?_
          refine Go.icmp_ge 44 10 d5_7 (by decide) rfl rfl (fun (b14 : ¬ (((0 : Int32) + (1 : Int32)) + (1 : Int32)) < (4 : Int32)) => ?_) (fun (b14 : (((0 : Int32) + (1 : Int32)) + (1 : Int32)) < (4 : Int32)) => ?_)
          · exact absurd (show (((0 : Int32) + (1 : Int32)) + (1 : Int32)) < (4 : Int32) from by decide) b14
          · refine Go.aloadN 11 rfl d5_10 rfl rfl ?_
            refine Go.iloadN 12 rfl d5_11 rfl ?_
            have F15 : Ary Z h10 s .char [.int x0, .int x1, .int x2, .int x3] := (F8.keep K11 (ninS hne nin0))
            refine Go.caload 13 rfl x2 d5_12 F15 2 rfl rfl ?_
            refine Go.istore 15 rfl d5_13 (Ls' := #[.val (.ref s), .val (.int (((0 : Int32) + (1 : Int32)) + (1 : Int32))), .val (.ref t), .val (.int (((0 : Int32) + (1 : Int32)) + (1 : Int32))), .val (.int (4 : Int32)), .val (.int (((0 : Int32) + (1 : Int32)) + (1 : Int32))), .val (.int x2)]) rfl ?_
            refine Go.iload 17 rfl d5_15 rfl ?_
            refine Go.sipush 20 rfl (255 : Int32) d5_17 rfl ?_
            refine Go.icmp_le 26 23 d5_20 (by decide) rfl rfl (fun (b16 : ¬ (255 : Int32) < x2) => ?_) (fun (b16 : (255 : Int32) < x2) => ?_)
            · refine Go.aloadN 27 rfl d5_26 rfl rfl ?_
              refine Go.iloadN 28 rfl d5_27 rfl ?_
              refine Go.iload 30 rfl d5_28 rfl ?_
              refine Go.i2b 31 rfl d5_30 ?_
              refine Go.stB 32 rfl d5_31 A13 2 rfl (Nat.le_of_ble_eq_true rfl) hgt fun h17 K18 A19 => ?_
              have A20 : Ary Z h17 t .byte [.int (nar .byte x0.toInt8.toInt32), .int (nar .byte x1.toInt8.toInt32), .int (nar .byte x2.toInt8.toInt32), .int 0] := A19
              refine Go.iinc 35 rfl (1 : Int32) d5_32 rfl rfl (Ls' := #[.val (.ref s), .val (.int ((((0 : Int32) + (1 : Int32)) + (1 : Int32)) + (1 : Int32))), .val (.ref t), .val (.int (((0 : Int32) + (1 : Int32)) + (1 : Int32))), .val (.int (4 : Int32)), .val (.int (((0 : Int32) + (1 : Int32)) + (1 : Int32))), .val (.int x2)]) rfl ?_
              refine Go.iinc 38 rfl (1 : Int32) d5_35 rfl rfl (Ls' := #[.val (.ref s), .val (.int ((((0 : Int32) + (1 : Int32)) + (1 : Int32)) + (1 : Int32))), .val (.ref t), .val (.int ((((0 : Int32) + (1 : Int32)) + (1 : Int32)) + (1 : Int32))), .val (.int (4 : Int32)), .val (.int (((0 : Int32) + (1 : Int32)) + (1 : Int32))), .val (.int x2)]) rfl ?_
              refine Go.iinc 41 rfl (1 : Int32) d5_38 rfl rfl (Ls' := #[.val (.ref s), .val (.int ((((0 : Int32) + (1 : Int32)) + (1 : Int32)) + (1 : Int32))), .val (.ref t), .val (.int ((((0 : Int32) + (1 : Int32)) + (1 : Int32)) + (1 : Int32))), .val (.int (4 : Int32)), .val (.int ((((0 : Int32) + (1 : Int32)) + (1 : Int32)) + (1 : Int32))), .val (.int x2)]) rfl ?_
              refine Go.goto 3 d5_41 (by decide) (by decide) ?_
              refine Go.iload 5 rfl d5_3 rfl ?_
              refine Go.iload 7 rfl d5_5 rfl ?_
              refine Go.icmp_ge 44 10 d5_7 (by decide) rfl rfl (fun (b21 : ¬ ((((0 : Int32) + (1 : Int32)) + (1 : Int32)) + (1 : Int32)) < (4 : Int32)) => ?_) (fun (b21 : ((((0 : Int32) + (1 : Int32)) + (1 : Int32)) + (1 : Int32)) < (4 : Int32)) => ?_)
              · exact absurd (show ((((0 : Int32) + (1 : Int32)) + (1 : Int32)) + (1 : Int32)) < (4 : Int32) from by decide) b21
              · refine Go.aloadN 11 rfl d5_10 rfl rfl ?_
                refine Go.iloadN 12 rfl d5_11 rfl ?_
                have F22 : Ary Z h17 s .char [.int x0, .int x1, .int x2, .int x3] := (F15.keep K18 (ninS hne nin0))
                refine Go.caload 13 rfl x3 d5_12 F22 3 rfl rfl ?_
                refine Go.istore 15 rfl d5_13 (Ls' := #[.val (.ref s), .val (.int ((((0 : Int32) + (1 : Int32)) + (1 : Int32)) + (1 : Int32))), .val (.ref t), .val (.int ((((0 : Int32) + (1 : Int32)) + (1 : Int32)) + (1 : Int32))), .val (.int (4 : Int32)), .val (.int ((((0 : Int32) + (1 : Int32)) + (1 : Int32)) + (1 : Int32))), .val (.int x3)]) rfl ?_
                refine Go.iload 17 rfl d5_15 rfl ?_
                refine Go.sipush 20 rfl (255 : Int32) d5_17 rfl ?_
                refine Go.icmp_le 26 23 d5_20 (by decide) rfl rfl (fun (b23 : ¬ (255 : Int32) < x3) => ?_) (fun (b23 : (255 : Int32) < x3) => ?_)
                · refine Go.aloadN 27 rfl d5_26 rfl rfl ?_
                  refine Go.iloadN 28 rfl d5_27 rfl ?_
                  refine Go.iload 30 rfl d5_28 rfl ?_
                  refine Go.i2b 31 rfl d5_30 ?_
                  refine Go.stB 32 rfl d5_31 A20 3 rfl (Nat.le_of_ble_eq_true rfl) hgt fun h24 K25 A26 => ?_
                  have A27 : Ary Z h24 t .byte [.int (nar .byte x0.toInt8.toInt32), .int (nar .byte x1.toInt8.toInt32), .int (nar .byte x2.toInt8.toInt32), .int (nar .byte x3.toInt8.toInt32)] := A26
                  refine Go.iinc 35 rfl (1 : Int32) d5_32 rfl rfl (Ls' := #[.val (.ref s), .val (.int (((((0 : Int32) + (1 : Int32)) + (1 : Int32)) + (1 : Int32)) + (1 : Int32))), .val (.ref t), .val (.int ((((0 : Int32) + (1 : Int32)) + (1 : Int32)) + (1 : Int32))), .val (.int (4 : Int32)), .val (.int ((((0 : Int32) + (1 : Int32)) + (1 : Int32)) + (1 : Int32))), .val (.int x3)]) rfl ?_
                  refine Go.iinc 38 rfl (1 : Int32) d5_35 rfl rfl (Ls' := #[.val (.ref s), .val (.int (((((0 : Int32) + (1 : Int32)) + (1 : Int32)) + (1 : Int32)) + (1 : Int32))), .val (.ref t), .val (.int (((((0 : Int32) + (1 : Int32)) + (1 : Int32)) + (1 : Int32)) + (1 : Int32))), .val (.int (4 : Int32)), .val (.int ((((0 : Int32) + (1 : Int32)) + (1 : Int32)) + (1 : Int32))), .val (.int x3)]) rfl ?_
                  refine Go.iinc 41 rfl (1 : Int32) d5_38 rfl rfl (Ls' := #[.val (.ref s), .val (.int (((((0 : Int32) + (1 : Int32)) + (1 : Int32)) + (1 : Int32)) + (1 : Int32))), .val (.ref t), .val (.int (((((0 : Int32) + (1 : Int32)) + (1 : Int32)) + (1 : Int32)) + (1 : Int32))), .val (.int (4 : Int32)), .val (.int (((((0 : Int32) + (1 : Int32)) + (1 : Int32)) + (1 : Int32)) + (1 : Int32))), .val (.int x3)]) rfl ?_
                  refine Go.goto 3 d5_41 (by decide) (by decide) ?_
                  refine Go.iload 5 rfl d5_3 rfl ?_
                  refine Go.iload 7 rfl d5_5 rfl ?_
                  refine Go.icmp_ge 44 10 d5_7 (by decide) rfl rfl (fun (b28 : ¬ (((((0 : Int32) + (1 : Int32)) + (1 : Int32)) + (1 : Int32)) + (1 : Int32)) < (4 : Int32)) => ?_) (fun (b28 : (((((0 : Int32) + (1 : Int32)) + (1 : Int32)) + (1 : Int32)) + (1 : Int32)) < (4 : Int32)) => ?_)
                  · refine Go.iload 46 rfl d5_44 rfl ?_
                    exact Go.retI d5_46 rfl (by decide) (by decide) ⟨_, rfl, (((((Keep.refl h0 [t]).trans K4 (by simp)).trans K11 (by simp)).trans K18 (by simp)).trans K25 (by simp)), Or.inl ⟨rfl, b2, b9, b16, b23, A27⟩⟩
                  · exact absurd b28 (show ¬ (((((0 : Int32) + (1 : Int32)) + (1 : Int32)) + (1 : Int32)) + (1 : Int32)) < (4 : Int32) from by decide)
                · refine Go.iload 25 rfl d5_23 rfl ?_
                  refine Go.eqI (w := 3) (by decide) ?_
                  exact Go.retI d5_25 rfl (by decide) (by decide) ⟨_, rfl, ((((Keep.refl h0 [t]).trans K4 (by simp)).trans K11 (by simp)).trans K18 (by simp)), Or.inr ⟨3, by decide, rfl, b23⟩⟩
            · refine Go.iload 25 rfl d5_23 rfl ?_
              refine Go.eqI (w := 2) (by decide) ?_
              exact Go.retI d5_25 rfl (by decide) (by decide) ⟨_, rfl, (((Keep.refl h0 [t]).trans K4 (by simp)).trans K11 (by simp)), Or.inr ⟨2, by decide, rfl, b16⟩⟩
        · refine Go.iload 25 rfl d5_23 rfl ?_
          refine Go.eqI (w := 1) (by decide) ?_
          exact Go.retI d5_25 rfl (by decide) (by decide) ⟨_, rfl, ((Keep.refl h0 [t]).trans K4 (by simp)), Or.inr ⟨1, by decide, rfl, b9⟩⟩
    · refine Go.iload 25 rfl d5_23 rfl ?_
      refine Go.eqI (w := 0) (by decide) ?_
      exact Go.retI d5_25 rfl (by decide) (by decide) ⟨_, rfl, (Keep.refl h0 [t]), Or.inr ⟨0, by decide, rfl, b2⟩⟩
theorem d4_0 : decode jdk_52_method_16_code 0 = .ok (.iload_n 2, 1) := by decide +kernel
theorem d4_1 : decode jdk_52_method_16_code 1 = .ok (.newarray .byte, 2) := by decide +kernel
theorem d4_3 : decode jdk_52_method_16_code 3 = .ok (.astore_n 3, 1) := by decide +kernel
theorem d4_4 : decode jdk_52_method_16_code 4 = .ok (.aload_n 0, 1) := by decide +kernel
theorem d4_5 : decode jdk_52_method_16_code 5 = .ok (.iload_n 1, 1) := by decide +kernel
theorem d4_6 : decode jdk_52_method_16_code 6 = .ok (.aload_n 3, 1) := by decide +kernel
theorem d4_7 : decode jdk_52_method_16_code 7 = .ok (.iconst 0, 1) := by decide +kernel
theorem d4_8 : decode jdk_52_method_16_code 8 = .ok (.iload_n 2, 1) := by decide +kernel
theorem d4_9 : decode jdk_52_method_16_code 9 = .ok (.invokestatic 115, 3) := by decide +kernel
theorem d4_12 : decode jdk_52_method_16_code 12 = .ok (.istore 4, 2) := by decide +kernel
theorem d4_14 : decode jdk_52_method_16_code 14 = .ok (.iload 4, 2) := by decide +kernel
theorem d4_16 : decode jdk_52_method_16_code 16 = .ok (.iload_n 2, 1) := by decide +kernel
theorem d4_17 : decode jdk_52_method_16_code 17 = .ok (.if_icmp .eq 40, 3) := by decide +kernel
theorem d4_20 : decode jdk_52_method_16_code 20 = .ok (.aload_n 0, 1) := by decide +kernel
theorem d4_21 : decode jdk_52_method_16_code 21 = .ok (.iload_n 1, 1) := by decide +kernel
theorem d4_22 : decode jdk_52_method_16_code 22 = .ok (.iload_n 2, 1) := by decide +kernel
theorem d4_23 : decode jdk_52_method_16_code 23 = .ok (.invokestatic 119, 3) := by decide +kernel
theorem d4_26 : decode jdk_52_method_16_code 26 = .ok (.astore 5, 2) := by decide +kernel
theorem d4_28 : decode jdk_52_method_16_code 28 = .ok (.aload 5, 2) := by decide +kernel
theorem d4_30 : decode jdk_52_method_16_code 30 = .ok (.iload 4, 2) := by decide +kernel
theorem d4_32 : decode jdk_52_method_16_code 32 = .ok (.invokestatic 71, 3) := by decide +kernel
theorem d4_35 : decode jdk_52_method_16_code 35 = .ok (.sipush 255, 3) := by decide +kernel
theorem d4_38 : decode jdk_52_method_16_code 38 = .ok (.if_icmp .gt 16, 3) := by decide +kernel
theorem d4_54 : decode jdk_52_method_16_code 54 = .ok (.aload 5, 2) := by decide +kernel
theorem d4_56 : decode jdk_52_method_16_code 56 = .ok (.areturn, 1) := by decide +kernel
theorem d4_57 : decode jdk_52_method_16_code 57 = .ok (.aload_n 3, 1) := by decide +kernel
theorem d4_58 : decode jdk_52_method_16_code 58 = .ok (.areturn, 1) := by decide +kernel
theorem pd4 : parseMethodDescriptor "([CII)[B" = some ⟨[(.array .char), .int, .int], some (.array .byte)⟩ := by decide +kernel
theorem pn4 : plainFor (⟨"java/lang/StringUTF16", "compress", "([CII)[B"⟩ : MethodName) = true := by first | (refine plainFor_of_name ?_; simp [plainName, overriddenIn]; done) | (refine plainFor_of_name ?_; decide +kernel) | decide +kernel
abbrev B4 : Bd := ((⟨"java/lang/StringUTF16", "compress", "([CII)[B"⟩ : MethodName), jdk_52_method_16_code, 6, (some (.array .byte)), ({ frames := 3, cells := 2, slots := 12, locals := 40 } : Room), tables_1)
theorem ef4n4 (mid : MethodId) (s : Addr) : entryFrame mid (List.toArray [.ref s, .int (0 : Int32), .int (4 : Int32)]) 6 = mkF mid 0 #[.val (.ref s), .val (.int (0 : Int32)), .val (.int (4 : Int32)), .unset, .unset, .unset] [] := by first | (simp [entryFrame, mkF, argsToLocals, Value.category]; done) | rfl
def Q4n4 (Z : State) (x0 : Int32) (x1 : Int32) (x2 : Int32) (x3 : Int32) (h0 : Heap) (v : Option Value) (h : Heap) : Prop := ∃ t, v = some (.ref t) ∧ h0.size ≤ t ∧ Keep h0 h [] ∧ ((¬ (255 : Int32) < x0 ∧ ¬ (255 : Int32) < x1 ∧ ¬ (255 : Int32) < x2 ∧ ¬ (255 : Int32) < x3 ∧ Ary Z h t .byte (IL [l1 x0, l1 x1, l1 x2, l1 x3])) ∨ Ary Z h t .byte (IL [lo x0, hi x0, lo x1, hi x1, lo x2, hi x2, lo x3, hi x3]))
set_option maxRecDepth 65536 in
set_option maxHeartbeats 40000000 in
theorem c4n4 (Z : State) (hw : Wd Z tables_1) (h0 : Heap) (s : Addr) (x0 : Int32) (x1 : Int32) (x2 : Int32) (x3 : Int32) (hAs : Sta Z Z.heap "java/lang/StringUTF16" "$assertionsDisabled" "Z" (.int 1)) (hHi : Sta Z Z.heap "java/lang/StringUTF16" "HI_BYTE_SHIFT" "I" (.int 0)) (hLo : Sta Z Z.heap "java/lang/StringUTF16" "LO_BYTE_SHIFT" "I" (.int 8)) (hA : Ary Z h0 s .char [.int x0, .int x1, .int x2, .int x3]) (hx0 : Ch x0) (hx1 : Ch x1) (hx2 : Ch x2) (hx3 : Ch x3) : Con Z B4 (List.toArray [.ref s, .int (0 : Int32), .int (4 : Int32)]) h0 (Q4n4 Z x0 x1 x2 x3 h0) := by
  refine Con.mk hw pn4 (fun mid => ef4n4 mid s) (Go.old fun hle' => ?_)
  have hle := hle'.1
  refine Go.iloadN 1 rfl d4_0 rfl ?_
  refine Go.newA 3 rfl 15 4 4 d4_1 rfl rfl (by decide) (by decide) (by decide) (by decide) fun h2 a1 g3 z4 K5 A6 E7 => ?_
  have A8 : Ary Z h2 a1 .byte [.int 0, .int 0, .int 0, .int 0] := A6
  refine Go.astoreN 4 rfl d4_3 rfl (Ls' := #[.val (.ref s), .val (.int (0 : Int32)), .val (.int (4 : Int32)), .val (.ref a1), .unset, .unset]) rfl ?_
  refine Go.aloadN 5 rfl d4_4 rfl rfl ?_
  refine Go.iloadN 6 rfl d4_5 rfl ?_
  refine Go.aloadN 7 rfl d4_6 rfl rfl ?_
  refine Go.iconst 8 rfl (0 : Int32) d4_7 rfl ?_
  refine Go.iloadN 9 rfl d4_8 rfl ?_
  have F9 : Ary Z h2 s .char [.int x0, .int x1, .int x2, .int x3] := (hA.keep K5 nin0)
  have ne10 : s ≠ a1 := (show @Ne Nat s a1 from by have := ltN hA.lt; have := g3; omega)
  refine Go.callS 12 rfl (C := B5) [.ref s, .int (0 : Int32), .ref a1, .int (0 : Int32), .int (4 : Int32)] (rest := []) 27 28 25 29 (c5n4 Z hw h2 s a1 x0 x1 x2 x3 F9 A8 z4 ne10) d4_9 rfl rfl rfl rfl (by decide) pd5 rfl rfl rfl (W := 0) (Nat.le_of_ble_eq_true rfl) (by decide) (by decide) (by decide) (by decide) fun v11 h12 q13 => ?_
  obtain ⟨r, rfl, KQ5, DQ5⟩ := q13
  refine Go.istore 14 rfl d4_12 (Ls' := #[.val (.ref s), .val (.int (0 : Int32)), .val (.int (4 : Int32)), .val (.ref a1), .val (.int r), .unset]) rfl ?_
  refine Go.iload 16 rfl d4_14 rfl ?_
  refine Go.iloadN 17 rfl d4_16 rfl ?_
  rcases DQ5 with ⟨rfl, lg0, lg1, lg2, lg3, AQ5⟩ | ⟨i, hin, rfl, hbig⟩
  · refine Go.icmp_eq 57 20 d4_17 (by decide) rfl rfl (fun (b14 : (4 : Int32) = (4 : Int32)) => ?_) (fun (b14 : ¬ (4 : Int32) = (4 : Int32)) => ?_)
    · refine Go.aloadN 58 rfl d4_57 rfl rfl ?_
      exact Go.retA d4_58 rfl rfl rfl (by decide) (by decide) ⟨a1, rfl, Nat.le_of_eq g3.symm, (((Keep.refl h0 []).trans K5 all0).trans KQ5 (allS (Or.inr (by have := K5.1; have := g3; omega)) all0)), Or.inl ⟨lg0, lg1, lg2, lg3, AQ5⟩⟩
    · exact absurd (show (4 : Int32) = (4 : Int32) from by decide) b14
  · refine Go.icmp_eq 57 20 d4_17 (by decide) rfl rfl (fun (b15 : (Int32.ofNat i) = (4 : Int32)) => ?_) (fun (b15 : ¬ (Int32.ofNat i) = (4 : Int32)) => ?_)
    · exact absurd b15 (own_ofne hin (by decide))
    · refine Go.aloadN 21 rfl d4_20 rfl rfl ?_
      refine Go.iloadN 22 rfl d4_21 rfl ?_
      refine Go.iloadN 23 rfl d4_22 rfl ?_
      have F16 : Ary Z h12 s .char [.int x0, .int x1, .int x2, .int x3] := (F9.keep KQ5 (ninS ne10 nin0))
      refine Go.callS 26 rfl (C := B16) [.ref s, .int (0 : Int32), .int (4 : Int32)] (rest := []) 81 82 25 83 (c16n4 Z hw h12 s x0 x1 x2 x3 hAs hHi hLo F16) d4_23 rfl rfl rfl rfl (by decide) pd16 rfl rfl rfl (W := 0) (Nat.le_of_ble_eq_true rfl) (by decide) (by decide) (by decide) (by decide) fun v17 h18 q19 => ?_
      obtain ⟨u, rfl, gu, Ku, Au⟩ := q19
      have z20 : Z.heap.size ≤ u := Nat.le_trans (Nat.le_trans (Nat.le_trans hle K5.1) KQ5.1) gu
      refine Go.astore 28 rfl d4_26 rfl (Ls' := #[.val (.ref s), .val (.int (0 : Int32)), .val (.int (4 : Int32)), .val (.ref a1), .val (.int (Int32.ofNat i)), .val (.ref u)]) rfl ?_
      refine Go.aload 30 rfl d4_28 rfl rfl ?_
      refine Go.iload 32 rfl d4_30 rfl ?_
      refine Go.callS 35 rfl (C := B20) [.ref u, .int (Int32.ofNat i)] (rest := []) 97 98 25 99 (c20 Z hw h18 u (Int32.ofNat i) [lo x0, hi x0, lo x1, hi x1, lo x2, hi x2, lo x3, hi x3] i (len_ofNat (by omega)) (by omega) hAs hHi hLo (by show 2 * i + 1 < 8; omega) Au) d4_32 rfl rfl rfl rfl (by decide) pd20 rfl rfl rfl (W := 0) (Nat.le_of_ble_eq_true rfl) (by decide) (by decide) (by decide) (by decide) fun v21 h22 q23 => ?_
      obtain ⟨rfl, rfl⟩ := q23
      refine Go.eqI (w := ([x0, x1, x2, x3] : List Int32).getD i 0) (own_gc4 hin hx0 hx1 hx2 hx3) ?_
      refine Go.sipush 38 rfl (255 : Int32) d4_35 rfl ?_
      refine Go.icmp_gt 54 41 d4_38 (by decide) rfl rfl (fun (b24 : (255 : Int32) < (([x0, x1, x2, x3] : List Int32).getD i 0)) => ?_) (fun (b24 : ¬ (255 : Int32) < (([x0, x1, x2, x3] : List Int32).getD i 0)) => ?_)
      · refine Go.aload 56 rfl d4_54 rfl rfl ?_
        exact Go.retA d4_56 rfl rfl rfl (by decide) (by decide) ⟨u, rfl, (by have := K5.1; have := KQ5.1; have := gu; omega), ((((Keep.refl h0 []).trans K5 all0).trans KQ5 (allS (Or.inr (by have := K5.1; have := g3; omega)) all0)).trans Ku all0), Or.inr Au⟩
      · exact absurd hbig b24
theorem d6_0 : decode jdk_52_method_15_code 0 = .ok (.iload_n 1, 1) := by decide +kernel
theorem d6_1 : decode jdk_52_method_15_code 1 = .ok (.aload_n 0, 1) := by decide +kernel
theorem d6_2 : decode jdk_52_method_15_code 2 = .ok (.arraylength, 1) := by decide +kernel
theorem d6_3 : decode jdk_52_method_15_code 3 = .ok (.isub, 1) := by decide +kernel
theorem d6_4 : decode jdk_52_method_15_code 4 = .ok (.bipush 31, 2) := by decide +kernel
theorem d6_6 : decode jdk_52_method_15_code 6 = .ok (.iushr, 1) := by decide +kernel
theorem d6_7 : decode jdk_52_method_15_code 7 = .ok (.i2b, 1) := by decide +kernel
theorem d6_8 : decode jdk_52_method_15_code 8 = .ok (.ireturn, 1) := by decide +kernel
theorem pd6 : parseMethodDescriptor "([BI)B" = some ⟨[(.array .byte), .int], some .byte⟩ := by decide +kernel
theorem pn6 : plainFor (⟨"java/lang/StringUTF16", "coderFromArrayLen", "([BI)B"⟩ : MethodName) = true := by first | (refine plainFor_of_name ?_; simp [plainName, overriddenIn]; done) | (refine plainFor_of_name ?_; decide +kernel) | decide +kernel
abbrev B6 : Bd := ((⟨"java/lang/StringUTF16", "coderFromArrayLen", "([BI)B"⟩ : MethodName), jdk_52_method_15_code, 2, (some .byte), ({ frames := 0, cells := 0, slots := 0, locals := 0 } : Room), tables_1)
theorem ef6n4k0 (mid : MethodId) (t : Addr) : entryFrame mid (List.toArray [.ref t, .int (4 : Int32)]) 2 = mkF mid 0 #[.val (.ref t), .val (.int (4 : Int32))] [] := by first | (simp [entryFrame, mkF, argsToLocals, Value.category]; done) | rfl
def Q6n4k0 (h0 : Heap) (v : Option Value) (h : Heap) : Prop := v = some (.int 0) ∧ h0 = h
set_option maxRecDepth 65536 in
set_option maxHeartbeats 40000000 in
theorem c6n4k0 (Z : State) (hw : Wd Z tables_1) (h0 : Heap) (t : Addr)  (vs : List Value) (hB : Ary Z h0 t .byte vs) (hl : vs.length = 4) : Con Z B6 (List.toArray [.ref t, .int (4 : Int32)]) h0 (Q6n4k0 h0) := by
  refine Con.mk hw pn6 (fun mid => ef6n4k0 mid t) (Go.old fun hle' => ?_)
  have hle := hle'.1
  refine Go.iloadN 1 rfl d6_0 rfl ?_
  refine Go.aloadN 2 rfl d6_1 rfl rfl ?_
  refine Go.alen 3 rfl (4 : Int32) d6_2 hB (by rw [hl]; rfl) ?_
  refine Go.isub 4 rfl d6_3 ?_
  refine Go.bipush 6 rfl (31 : Int32) d6_4 rfl ?_
  refine Go.iushr 7 rfl d6_6 ?_
  refine Go.i2b 8 rfl d6_7 ?_
  exact Go.retN (t := .byte) (z' := 0) d6_8 rfl (by decide) (by decide) (by decide) (by decide) ⟨rfl, rfl⟩
theorem ef6n4k1 (mid : MethodId) (t : Addr) : entryFrame mid (List.toArray [.ref t, .int (4 : Int32)]) 2 = mkF mid 0 #[.val (.ref t), .val (.int (4 : Int32))] [] := by first | (simp [entryFrame, mkF, argsToLocals, Value.category]; done) | rfl
def Q6n4k1 (h0 : Heap) (v : Option Value) (h : Heap) : Prop := v = some (.int 1) ∧ h0 = h
set_option maxRecDepth 65536 in
set_option maxHeartbeats 40000000 in
theorem c6n4k1 (Z : State) (hw : Wd Z tables_1) (h0 : Heap) (t : Addr)  (vs : List Value) (hB : Ary Z h0 t .byte vs) (hl : vs.length = 8) : Con Z B6 (List.toArray [.ref t, .int (4 : Int32)]) h0 (Q6n4k1 h0) := by
  refine Con.mk hw pn6 (fun mid => ef6n4k1 mid t) (Go.old fun hle' => ?_)
  have hle := hle'.1
  refine Go.iloadN 1 rfl d6_0 rfl ?_
  refine Go.aloadN 2 rfl d6_1 rfl rfl ?_
  refine Go.alen 3 rfl (8 : Int32) d6_2 hB (by rw [hl]; rfl) ?_
  refine Go.isub 4 rfl d6_3 ?_
  refine Go.bipush 6 rfl (31 : Int32) d6_4 rfl ?_
  refine Go.iushr 7 rfl d6_6 ?_
  refine Go.i2b 8 rfl d6_7 ?_
  exact Go.retN (t := .byte) (z' := 1) d6_8 rfl (by decide) (by decide) (by decide) (by decide) ⟨rfl, rfl⟩
theorem d2_0 : decode jdk_42_method_149_code 0 = .ok (.aload_n 0, 1) := by decide +kernel
theorem d2_1 : decode jdk_42_method_149_code 1 = .ok (.invokespecial 1, 3) := by decide +kernel
theorem d2_4 : decode jdk_42_method_149_code 4 = .ok (.iload_n 3, 1) := by decide +kernel
theorem d2_5 : decode jdk_42_method_149_code 5 = .ok (.ifCond .ne 22, 3) := by decide +kernel
theorem d2_8 : decode jdk_42_method_149_code 8 = .ok (.aload_n 0, 1) := by decide +kernel
theorem d2_9 : decode jdk_42_method_149_code 9 = .ok (.ldc 7, 2) := by decide +kernel
theorem d2_11 : decode jdk_42_method_149_code 11 = .ok (.getfield 9, 3) := by decide +kernel
theorem d2_14 : decode jdk_42_method_149_code 14 = .ok (.putfield 9, 3) := by decide +kernel
theorem d2_17 : decode jdk_42_method_149_code 17 = .ok (.aload_n 0, 1) := by decide +kernel
theorem d2_18 : decode jdk_42_method_149_code 18 = .ok (.ldc 7, 2) := by decide +kernel
theorem d2_20 : decode jdk_42_method_149_code 20 = .ok (.getfield 15, 3) := by decide +kernel
theorem d2_23 : decode jdk_42_method_149_code 23 = .ok (.putfield 15, 3) := by decide +kernel
theorem d2_26 : decode jdk_42_method_149_code 26 = .ok (.return_, 1) := by decide +kernel
theorem d2_27 : decode jdk_42_method_149_code 27 = .ok (.getstatic 38, 3) := by decide +kernel
theorem d2_30 : decode jdk_42_method_149_code 30 = .ok (.ifCond .eq 28, 3) := by decide +kernel
theorem d2_33 : decode jdk_42_method_149_code 33 = .ok (.aload_n 1, 1) := by decide +kernel
theorem d2_34 : decode jdk_42_method_149_code 34 = .ok (.iload_n 2, 1) := by decide +kernel
theorem d2_35 : decode jdk_42_method_149_code 35 = .ok (.iload_n 3, 1) := by decide +kernel
theorem d2_36 : decode jdk_42_method_149_code 36 = .ok (.invokestatic 177, 3) := by decide +kernel
theorem d2_39 : decode jdk_42_method_149_code 39 = .ok (.astore 5, 2) := by decide +kernel
theorem d2_41 : decode jdk_42_method_149_code 41 = .ok (.aload_n 0, 1) := by decide +kernel
theorem d2_42 : decode jdk_42_method_149_code 42 = .ok (.aload 5, 2) := by decide +kernel
theorem d2_44 : decode jdk_42_method_149_code 44 = .ok (.iload_n 3, 1) := by decide +kernel
theorem d2_45 : decode jdk_42_method_149_code 45 = .ok (.invokestatic 47, 3) := by decide +kernel
theorem d2_48 : decode jdk_42_method_149_code 48 = .ok (.putfield 15, 3) := by decide +kernel
theorem d2_51 : decode jdk_42_method_149_code 51 = .ok (.aload_n 0, 1) := by decide +kernel
theorem d2_52 : decode jdk_42_method_149_code 52 = .ok (.aload 5, 2) := by decide +kernel
theorem d2_54 : decode jdk_42_method_149_code 54 = .ok (.putfield 9, 3) := by decide +kernel
theorem d2_57 : decode jdk_42_method_149_code 57 = .ok (.return_, 1) := by decide +kernel
theorem pd2 : parseMethodDescriptor "([CIILjava/lang/Void;)V" = some ⟨[(.array .char), .int, .int, (.object "java/lang/Void")], none⟩ := by decide +kernel
theorem pn2 : plainFor (⟨"java/lang/String", "<init>", "([CIILjava/lang/Void;)V"⟩ : MethodName) = true := by first | (refine plainFor_of_name ?_; simp [plainName, overriddenIn]; done) | (refine plainFor_of_name ?_; decide +kernel) | decide +kernel
abbrev B2 : Bd := ((⟨"java/lang/String", "<init>", "([CIILjava/lang/Void;)V"⟩ : MethodName), jdk_42_method_149_code, 6, none, ({ frames := 4, cells := 2, slots := 12, locals := 57 } : Room), tables_1)
theorem ef2n4 (mid : MethodId) (a : Addr) (s : Addr) : entryFrame mid (List.toArray [.ref a, .ref s, .int (0 : Int32), .int (4 : Int32), .null]) 6 = mkF mid 0 #[.val (.ref a), .val (.ref s), .val (.int (0 : Int32)), .val (.int (4 : Int32)), .val (.null), .unset] [] := by first | (simp [entryFrame, mkF, argsToLocals, Value.category]; done) | rfl
def Q2n4 (Z : State) (a : Addr) (x0 : Int32) (x1 : Int32) (x2 : Int32) (x3 : Int32) (h0 : Heap) (v : Option Value) (h : Heap) : Prop := v = none ∧ ∃ t, h0.size ≤ t ∧ Keep h0 h [a] ∧ Fld Z h a "java/lang/String" "value" "[B" (.ref t) ∧ ((Fld Z h a "java/lang/String" "coder" "B" (.int 0) ∧ ¬ (255 : Int32) < x0 ∧ ¬ (255 : Int32) < x1 ∧ ¬ (255 : Int32) < x2 ∧ ¬ (255 : Int32) < x3 ∧ Ary Z h t .byte (IL [l1 x0, l1 x1, l1 x2, l1 x3])) ∨ (Fld Z h a "java/lang/String" "coder" "B" (.int 1) ∧ Ary Z h t .byte (IL [lo x0, hi x0, lo x1, hi x1, lo x2, hi x2, lo x3, hi x3])))
set_option maxRecDepth 65536 in
set_option maxHeartbeats 40000000 in
theorem c2n4 (Z : State) (hw : Wd Z tables_1) (h0 : Heap) (a : Addr) (s : Addr) (x0 : Int32) (x1 : Int32) (x2 : Int32) (x3 : Int32) (cs : Int32) (hS : Sta Z Z.heap "java/lang/String" "COMPACT_STRINGS" "Z" (.int cs)) (hcs : ¬ cs = 0) (hAs : Sta Z Z.heap "java/lang/StringUTF16" "$assertionsDisabled" "Z" (.int 1)) (hHi : Sta Z Z.heap "java/lang/StringUTF16" "HI_BYTE_SHIFT" "I" (.int 0)) (hLo : Sta Z Z.heap "java/lang/StringUTF16" "LO_BYTE_SHIFT" "I" (.int 8)) (hge : Z.heap.size ≤ a) (hE : Exa Z h0 a "java/lang/String") (hV : Fld Z h0 a "java/lang/String" "value" "[B" .null) (hC : Fld Z h0 a "java/lang/String" "coder" "B" (.int 0)) (hA : Ary Z h0 s .char [.int x0, .int x1, .int x2, .int x3]) (hx0 : Ch x0) (hx1 : Ch x1) (hx2 : Ch x2) (hx3 : Ch x3) : Con Z B2 (List.toArray [.ref a, .ref s, .int (0 : Int32), .int (4 : Int32), .null]) h0 (Q2n4 Z a x0 x1 x2 x3 h0) := by
  refine Con.mk hw pn2 (fun mid => ef2n4 mid a s) (Go.old fun hle' => ?_)
  have hle := hle'.1
  refine Go.aloadN 1 rfl d2_0 rfl rfl ?_
  refine Go.initO 4 rfl 11 12 13 d2_1 rfl rfl rfl rfl (by decide) (W := 0) (Nat.le_of_ble_eq_true rfl) (by decide) ?_
  refine Go.iloadN 5 rfl d2_4 rfl ?_
  refine Go.if_ne 27 8 d2_5 (by decide) rfl rfl (fun (b1 : ¬ (4 : Int32) = 0) => ?_) (fun (b1 : (4 : Int32) = 0) => ?_)
  · refine Go.getS 30 rfl (v := .int cs) 22 d2_27 rfl hS ?_
    refine Go.if_eq 58 33 d2_30 (by decide) rfl rfl (fun (b2 : cs = 0) => ?_) (fun (b2 : ¬ cs = 0) => ?_)
    · exact absurd b2 hcs
    · refine Go.aloadN 34 rfl d2_33 rfl rfl ?_
      refine Go.iloadN 35 rfl d2_34 rfl ?_
      refine Go.iloadN 36 rfl d2_35 rfl ?_
      refine Go.callS 39 rfl (C := B4) [.ref s, .int (0 : Int32), .int (4 : Int32)] (rest := []) 23 24 25 26 (c4n4 Z hw h0 s x0 x1 x2 x3 hAs hHi hLo hA hx0 hx1 hx2 hx3) d2_36 rfl rfl rfl rfl (by decide) pd4 rfl rfl rfl (W := 0) (Nat.le_of_ble_eq_true rfl) (by decide) (by decide) (by decide) (by decide) fun v3 h4 q5 => ?_
      obtain ⟨t, rfl, g, K, D⟩ := q5
      have z6 : Z.heap.size ≤ t := Nat.le_trans hle g
      rcases D with ⟨lg0, lg1, lg2, lg3, A1⟩ | A1
      · refine Go.astore 41 rfl d2_39 rfl (Ls' := #[.val (.ref a), .val (.ref s), .val (.int (0 : Int32)), .val (.int (4 : Int32)), .val (.null), .val (.ref t)]) rfl ?_
        refine Go.aloadN 42 rfl d2_41 rfl rfl ?_
        refine Go.aload 44 rfl d2_42 rfl rfl ?_
        refine Go.iloadN 45 rfl d2_44 rfl ?_
        refine Go.callS 48 rfl (C := B6) [.ref t, .int (4 : Int32)] (rest := [.ref a]) 30 31 25 32 (c6n4k0 Z hw h4 t (IL [l1 x0, l1 x1, l1 x2, l1 x3]) A1 rfl) d2_45 rfl rfl rfl rfl (by decide) pd6 rfl rfl rfl (W := 1) (Nat.le_of_ble_eq_true rfl) (by decide) (by decide) (by decide) (by decide) fun v7 h8 q9 => ?_
        obtain ⟨rfl, rfl⟩ := q9
        have F10 : Fld Z h4 a "java/lang/String" "coder" "B" (.int (0 : Int32)) := (hC.keep K nin0)
        have F11 : Exa Z h4 a "java/lang/String" := (hE.keep K)
        refine Go.putF 51 rfl (v' := .int (0 : Int32)) (ty := .byte) 21 17 1 d2_48 rfl F10 F11 (Or.inr ⟨rfl, rfl, rfl⟩) rfl (by decide) rfl rfl hge fun h12 K13 W14 F15 => ?_
        refine Go.aloadN 52 rfl d2_51 rfl rfl ?_
        refine Go.aload 54 rfl d2_52 rfl rfl ?_
        have F16 : Fld Z h12 a "java/lang/String" "value" "[B" (.null) := (Fld.oth hw (hV.keep K nin0) W14 16 17 (Or.inr rfl) (Or.inr rfl) (by decide) rfl rfl)
        have F17 : Exa Z h12 a "java/lang/String" := (F11.keep K13)
        refine Go.putF 57 rfl (v' := .ref t) (ty := (.array .byte)) 20 16 1 d2_54 rfl F16 F17 (Or.inr ⟨rfl, rfl, rfl⟩) rfl (by decide) rfl rfl hge fun h18 K19 W20 F21 => ?_
        have F22 : Fld Z h18 a "java/lang/String" "coder" "B" (.int (0 : Int32)) := (Fld.oth hw F15 W20 17 16 (Or.inr rfl) (Or.inr rfl) (by decide) rfl rfl)
        have ne23 : t ≠ a := (show @Ne Nat t a from by have := ltN hE.lt; have := g; omega)
        have F24 : Ary Z h18 t .byte (IL [l1 x0, l1 x1, l1 x2, l1 x3]) := ((A1.keep K13 (ninS ne23 nin0)).keep K19 (ninS ne23 nin0))
        exact Go.retV d2_57 rfl (by decide) (by decide) ⟨rfl, t, g, ((((Keep.refl h0 [a]).trans K all0).trans K13 (by simp)).trans K19 (by simp)), F21, Or.inl ⟨F22, lg0, lg1, lg2, lg3, F24⟩⟩
      · refine Go.astore 41 rfl d2_39 rfl (Ls' := #[.val (.ref a), .val (.ref s), .val (.int (0 : Int32)), .val (.int (4 : Int32)), .val (.null), .val (.ref t)]) rfl ?_
        refine Go.aloadN 42 rfl d2_41 rfl rfl ?_
        refine Go.aload 44 rfl d2_42 rfl rfl ?_
        refine Go.iloadN 45 rfl d2_44 rfl ?_
        refine Go.callS 48 rfl (C := B6) [.ref t, .int (4 : Int32)] (rest := [.ref a]) 30 31 25 32 (c6n4k1 Z hw h4 t (IL [lo x0, hi x0, lo x1, hi x1, lo x2, hi x2, lo x3, hi x3]) A1 rfl) d2_45 rfl rfl rfl rfl (by decide) pd6 rfl rfl rfl (W := 1) (Nat.le_of_ble_eq_true rfl) (by decide) (by decide) (by decide) (by decide) fun v25 h26 q27 => ?_
        obtain ⟨rfl, rfl⟩ := q27
        have F28 : Fld Z h4 a "java/lang/String" "coder" "B" (.int (0 : Int32)) := (hC.keep K nin0)
        have F29 : Exa Z h4 a "java/lang/String" := (hE.keep K)
        refine Go.putF 51 rfl (v' := .int (1 : Int32)) (ty := .byte) 21 17 1 d2_48 rfl F28 F29 (Or.inr ⟨rfl, rfl, rfl⟩) rfl (by decide) rfl rfl hge fun h30 K31 W32 F33 => ?_
        refine Go.aloadN 52 rfl d2_51 rfl rfl ?_
        refine Go.aload 54 rfl d2_52 rfl rfl ?_
        have F34 : Fld Z h30 a "java/lang/String" "value" "[B" (.null) := (Fld.oth hw (hV.keep K nin0) W32 16 17 (Or.inr rfl) (Or.inr rfl) (by decide) rfl rfl)
        have F35 : Exa Z h30 a "java/lang/String" := (F29.keep K31)
        refine Go.putF 57 rfl (v' := .ref t) (ty := (.array .byte)) 20 16 1 d2_54 rfl F34 F35 (Or.inr ⟨rfl, rfl, rfl⟩) rfl (by decide) rfl rfl hge fun h36 K37 W38 F39 => ?_
        have F40 : Fld Z h36 a "java/lang/String" "coder" "B" (.int (1 : Int32)) := (Fld.oth hw F33 W38 17 16 (Or.inr rfl) (Or.inr rfl) (by decide) rfl rfl)
        have ne41 : t ≠ a := (show @Ne Nat t a from by have := ltN hE.lt; have := g; omega)
        have F42 : Ary Z h36 t .byte (IL [lo x0, hi x0, lo x1, hi x1, lo x2, hi x2, lo x3, hi x3]) := ((A1.keep K31 (ninS ne41 nin0)).keep K37 (ninS ne41 nin0))
        exact Go.retV d2_57 rfl (by decide) (by decide) ⟨rfl, t, g, ((((Keep.refl h0 [a]).trans K all0).trans K31 (by simp)).trans K37 (by simp)), F39, Or.inr ⟨F40, F42⟩⟩
  · exact absurd b1 (show ¬ (4 : Int32) = 0 from by decide)
theorem d1_0 : decode jdk_42_method_3_code 0 = .ok (.aload_n 0, 1) := by decide +kernel
theorem d1_1 : decode jdk_42_method_3_code 1 = .ok (.aload_n 1, 1) := by decide +kernel
theorem d1_2 : decode jdk_42_method_3_code 2 = .ok (.iconst 0, 1) := by decide +kernel
theorem d1_3 : decode jdk_42_method_3_code 3 = .ok (.aload_n 1, 1) := by decide +kernel
theorem d1_4 : decode jdk_42_method_3_code 4 = .ok (.arraylength, 1) := by decide +kernel
theorem d1_5 : decode jdk_42_method_3_code 5 = .ok (.aconst_null, 1) := by decide +kernel
theorem d1_6 : decode jdk_42_method_3_code 6 = .ok (.invokespecial 27, 3) := by decide +kernel
theorem d1_9 : decode jdk_42_method_3_code 9 = .ok (.return_, 1) := by decide +kernel
theorem pd1 : parseMethodDescriptor "([C)V" = some ⟨[(.array .char)], none⟩ := by decide +kernel
theorem pn1 : plainFor (⟨"java/lang/String", "<init>", "([C)V"⟩ : MethodName) = true := by first | (refine plainFor_of_name ?_; simp [plainName, overriddenIn]; done) | (refine plainFor_of_name ?_; decide +kernel) | decide +kernel
abbrev B1 : Bd := ((⟨"java/lang/String", "<init>", "([C)V"⟩ : MethodName), jdk_42_method_3_code, 2, none, ({ frames := 5, cells := 2, slots := 12, locals := 74 } : Room), tables_1)
theorem ef1n4 (mid : MethodId) (a : Addr) (s : Addr) : entryFrame mid (List.toArray [.ref a, .ref s]) 2 = mkF mid 0 #[.val (.ref a), .val (.ref s)] [] := by first | (simp [entryFrame, mkF, argsToLocals, Value.category]; done) | rfl
def Q1n4 (Z : State) (a : Addr) (x0 : Int32) (x1 : Int32) (x2 : Int32) (x3 : Int32) (h0 : Heap) (v : Option Value) (h : Heap) : Prop := v = none ∧ ∃ t, h0.size ≤ t ∧ Keep h0 h [a] ∧ Fld Z h a "java/lang/String" "value" "[B" (.ref t) ∧ ((Fld Z h a "java/lang/String" "coder" "B" (.int 0) ∧ ¬ (255 : Int32) < x0 ∧ ¬ (255 : Int32) < x1 ∧ ¬ (255 : Int32) < x2 ∧ ¬ (255 : Int32) < x3 ∧ Ary Z h t .byte (IL [l1 x0, l1 x1, l1 x2, l1 x3])) ∨ (Fld Z h a "java/lang/String" "coder" "B" (.int 1) ∧ Ary Z h t .byte (IL [lo x0, hi x0, lo x1, hi x1, lo x2, hi x2, lo x3, hi x3])))
set_option maxRecDepth 65536 in
set_option maxHeartbeats 40000000 in
theorem c1n4 (Z : State) (hw : Wd Z tables_1) (h0 : Heap) (a : Addr) (s : Addr) (x0 : Int32) (x1 : Int32) (x2 : Int32) (x3 : Int32) (cs : Int32) (hS : Sta Z Z.heap "java/lang/String" "COMPACT_STRINGS" "Z" (.int cs)) (hcs : ¬ cs = 0) (hAs : Sta Z Z.heap "java/lang/StringUTF16" "$assertionsDisabled" "Z" (.int 1)) (hHi : Sta Z Z.heap "java/lang/StringUTF16" "HI_BYTE_SHIFT" "I" (.int 0)) (hLo : Sta Z Z.heap "java/lang/StringUTF16" "LO_BYTE_SHIFT" "I" (.int 8)) (hge : Z.heap.size ≤ a) (hE : Exa Z h0 a "java/lang/String") (hV : Fld Z h0 a "java/lang/String" "value" "[B" .null) (hC : Fld Z h0 a "java/lang/String" "coder" "B" (.int 0)) (hA : Ary Z h0 s .char [.int x0, .int x1, .int x2, .int x3]) (hx0 : Ch x0) (hx1 : Ch x1) (hx2 : Ch x2) (hx3 : Ch x3) : Con Z B1 (List.toArray [.ref a, .ref s]) h0 (Q1n4 Z a x0 x1 x2 x3 h0) := by
  refine Con.mk hw pn1 (fun mid => ef1n4 mid a s) (Go.old fun hle' => ?_)
  have hle := hle'.1
  refine Go.aloadN 1 rfl d1_0 rfl rfl ?_
  refine Go.aloadN 2 rfl d1_1 rfl rfl ?_
  refine Go.iconst 3 rfl (0 : Int32) d1_2 rfl ?_
  refine Go.aloadN 4 rfl d1_3 rfl rfl ?_
  refine Go.alen 5 rfl (4 : Int32) d1_4 hA rfl ?_
  refine Go.aconstNull 6 rfl d1_5 ?_
  refine Go.callI 9 rfl (C := B2) a [.ref s, .int (0 : Int32), .int (4 : Int32), .null] (rest := []) 7 8 2 10 (c2n4 Z hw h0 a s x0 x1 x2 x3 cs hS hcs hAs hHi hLo hge hE hV hC hA hx0 hx1 hx2 hx3) d1_6 rfl rfl rfl rfl rfl rfl (by decide) pd2 rfl rfl rfl (W := 0) (Nat.le_of_ble_eq_true rfl) (by decide) (by decide) (by decide) (by decide) fun v1 h2 q3 => ?_
  obtain ⟨rfl, t, g, K, F, D⟩ := q3
  exact Go.retV d1_9 rfl (by decide) (by decide) ⟨rfl, t, g, K, F, D⟩
theorem ef18n3 (mid : MethodId)  : entryFrame mid (List.toArray [.int (3 : Int32)]) 1 = mkF mid 0 #[.val (.int (3 : Int32))] [] := by first | (simp [entryFrame, mkF, argsToLocals, Value.category]; done) | rfl
def Q18n3 (h0 : Heap) (v : Option Value) (h : Heap) : Prop := v = some (.int (6 : Int32)) ∧ h0 = h
set_option maxRecDepth 65536 in
set_option maxHeartbeats 40000000 in
theorem c18n3 (Z : State) (hw : Wd Z tables_1) (h0 : Heap)    : Con Z B18 (List.toArray [.int (3 : Int32)]) h0 (Q18n3 h0) := by
  refine Con.mk hw pn18 (fun mid => ef18n3 mid ) (Go.old fun hle' => ?_)
  have hle := hle'.1
  refine Go.iloadN 1 rfl d18_0 rfl ?_
  refine Go.if_ge 12 4 d18_1 (by decide) rfl rfl (fun (b1 : ¬ (3 : Int32) < 0) => ?_) (fun (b1 : (3 : Int32) < 0) => ?_)
  · refine Go.iloadN 13 rfl d18_12 rfl ?_
    refine Go.ldcI 15 rfl (v := (1073741823 : Int32)) 90 d18_13 rfl ?_
    refine Go.icmp_lt 55 18 d18_15 (by decide) rfl rfl (fun (b2 : (3 : Int32) < (1073741823 : Int32)) => ?_) (fun (b2 : ¬ (3 : Int32) < (1073741823 : Int32)) => ?_)
    · refine Go.iloadN 56 rfl d18_55 rfl ?_
      refine Go.iconst 57 rfl (1 : Int32) d18_56 rfl ?_
      refine Go.ishl 58 rfl d18_57 ?_
      refine Go.eqI (w := 6) (by decide) ?_
      exact Go.retI d18_58 rfl (by decide) (by decide) ⟨rfl, rfl⟩
    · exact absurd (show (3 : Int32) < (1073741823 : Int32) from by decide) b2
  · exact absurd b1 (show ¬ (3 : Int32) < 0 from by decide)
theorem ef17n3 (mid : MethodId)  : entryFrame mid (List.toArray [.int (3 : Int32)]) 1 = mkF mid 0 #[.val (.int (3 : Int32))] [] := by first | (simp [entryFrame, mkF, argsToLocals, Value.category]; done) | rfl
def Q17n3 (Z : State) (h0 : Heap) (v : Option Value) (h : Heap) : Prop := ∃ t, v = some (.ref t) ∧ h0.size ≤ t ∧ Keep h0 h [] ∧ Ary Z h t .byte (IL [0, 0, 0, 0, 0, 0])
set_option maxRecDepth 65536 in
set_option maxHeartbeats 40000000 in
theorem c17n3 (Z : State) (hw : Wd Z tables_1) (h0 : Heap)    : Con Z B17 (List.toArray [.int (3 : Int32)]) h0 (Q17n3 Z h0) := by
  refine Con.mk hw pn17 (fun mid => ef17n3 mid ) (Go.old fun hle' => ?_)
  have hle := hle'.1
  refine Go.iloadN 1 rfl d17_0 rfl ?_
  refine Go.callS 4 rfl (C := B18) [.int (3 : Int32)] (rest := []) 87 88 25 89 (c18n3 Z hw h0) d17_1 rfl rfl rfl rfl (by decide) pd18 rfl rfl rfl (W := 0) (Nat.le_of_ble_eq_true rfl) (by decide) (by decide) (by decide) (by decide) fun v1 h2 q3 => ?_
  obtain ⟨rfl, rfl⟩ := q3
  refine Go.newA 6 rfl 15 6 6 d17_4 rfl rfl (by decide) (by decide) (by decide) (by decide) fun h5 a4 g6 z7 K8 A9 E10 => ?_
  have A11 : Ary Z h5 a4 .byte [.int 0, .int 0, .int 0, .int 0, .int 0, .int 0] := A9
  exact Go.retA d17_6 rfl rfl rfl (by decide) (by decide) ⟨a4, rfl, Nat.le_of_eq g6.symm, ((Keep.refl h0 []).trans K8 all0), A11⟩
theorem ef16n3 (mid : MethodId) (s : Addr) : entryFrame mid (List.toArray [.ref s, .int (0 : Int32), .int (3 : Int32)]) 5 = mkF mid 0 #[.val (.ref s), .val (.int (0 : Int32)), .val (.int (3 : Int32)), .unset, .unset] [] := by first | (simp [entryFrame, mkF, argsToLocals, Value.category]; done) | rfl
def Q16n3 (Z : State) (x0 : Int32) (x1 : Int32) (x2 : Int32) (h0 : Heap) (v : Option Value) (h : Heap) : Prop := ∃ t, v = some (.ref t) ∧ h0.size ≤ t ∧ Keep h0 h [] ∧ Ary Z h t .byte (IL [lo x0, hi x0, lo x1, hi x1, lo x2, hi x2])
set_option maxRecDepth 65536 in
set_option maxHeartbeats 40000000 in
theorem c16n3 (Z : State) (hw : Wd Z tables_1) (h0 : Heap) (s : Addr) (x0 : Int32) (x1 : Int32) (x2 : Int32) (hAs : Sta Z Z.heap "java/lang/StringUTF16" "$assertionsDisabled" "Z" (.int 1)) (hHi : Sta Z Z.heap "java/lang/StringUTF16" "HI_BYTE_SHIFT" "I" (.int 0)) (hLo : Sta Z Z.heap "java/lang/StringUTF16" "LO_BYTE_SHIFT" "I" (.int 8)) (hA : Ary Z h0 s .char [.int x0, .int x1, .int x2]) : Con Z B16 (List.toArray [.ref s, .int (0 : Int32), .int (3 : Int32)]) h0 (Q16n3 Z x0 x1 x2 h0) := by
  refine Con.mk hw pn16 (fun mid => ef16n3 mid s) (Go.old fun hle' => ?_)
  have hle := hle'.1
  refine Go.iloadN 1 rfl d16_0 rfl ?_
  refine Go.callS 4 rfl (C := B17) [.int (3 : Int32)] (rest := []) 84 85 25 86 (c17n3 Z hw h0) d16_1 rfl rfl rfl rfl (by decide) pd17 rfl rfl rfl (W := 0) (Nat.le_of_ble_eq_true rfl) (by decide) (by decide) (by decide) (by decide) fun v1 h2 q3 => ?_
  obtain ⟨t, rfl, g, K, A⟩ := q3
  have z4 : Z.heap.size ≤ t := Nat.le_trans hle g
  refine Go.astoreN 5 rfl d16_4 rfl (Ls' := #[.val (.ref s), .val (.int (0 : Int32)), .val (.int (3 : Int32)), .val (.ref t), .unset]) rfl ?_
  refine Go.iconst 6 rfl (0 : Int32) d16_5 rfl ?_
  refine Go.istore 8 rfl d16_6 (Ls' := #[.val (.ref s), .val (.int (0 : Int32)), .val (.int (3 : Int32)), .val (.ref t), .val (.int (0 : Int32))]) rfl ?_
  refine Go.iload 10 rfl d16_8 rfl ?_
  refine Go.iloadN 11 rfl d16_10 rfl ?_
  refine Go.icmp_ge 32 14 d16_11 (by decide) rfl rfl (fun (b5 : ¬ (0 : Int32) < (3 : Int32)) => ?_) (fun (b5 : (0 : Int32) < (3 : Int32)) => ?_)
  · exact absurd (show (0 : Int32) < (3 : Int32) from by decide) b5
  · refine Go.aloadN 15 rfl d16_14 rfl rfl ?_
    refine Go.iload 17 rfl d16_15 rfl ?_
    refine Go.aloadN 18 rfl d16_17 rfl rfl ?_
    refine Go.iloadN 19 rfl d16_18 rfl ?_
    have F6 : Ary Z h2 s .char [.int x0, .int x1, .int x2] := (hA.keep K nin0)
    refine Go.caload 20 rfl x0 d16_19 F6 0 rfl rfl ?_
    refine Go.callS 23 rfl (C := B19) [.ref t, .int (0 : Int32), .int x0] (rest := []) 91 92 25 93 (c19 Z hw h2 t (0 : Int32) x0 [0, 0, 0, 0, 0, 0] 0 rfl (by decide) hAs hHi hLo z4 (Nat.le_of_ble_eq_true rfl) A) d16_20 rfl rfl rfl rfl (by decide) pd19 rfl rfl rfl (W := 0) (Nat.le_of_ble_eq_true rfl) (by decide) (by decide) (by decide) (by decide) fun v7 h8 q9 => ?_
    obtain ⟨rfl, K10, A11⟩ := q9
    have A12 : Ary Z h8 t .byte (IL [lo x0, hi x0, 0, 0, 0, 0]) := A11
    refine Go.iinc 26 rfl (1 : Int32) d16_23 rfl rfl (Ls' := #[.val (.ref s), .val (.int ((0 : Int32) + (1 : Int32))), .val (.int (3 : Int32)), .val (.ref t), .val (.int (0 : Int32))]) rfl ?_
    refine Go.iinc 29 rfl (1 : Int32) d16_26 rfl rfl (Ls' := #[.val (.ref s), .val (.int ((0 : Int32) + (1 : Int32))), .val (.int (3 : Int32)), .val (.ref t), .val (.int ((0 : Int32) + (1 : Int32)))]) rfl ?_
    refine Go.goto 8 d16_29 (by decide) (by decide) ?_
    refine Go.iload 10 rfl d16_8 rfl ?_
    refine Go.iloadN 11 rfl d16_10 rfl ?_
    refine Go.icmp_ge 32 14 d16_11 (by decide) rfl rfl (fun (b13 : ¬ ((0 : Int32) + (1 : Int32)) < (3 : Int32)) => ?_) (fun (b13 : ((0 : Int32) + (1 : Int32)) < (3 : Int32)) => ?_)
    · exact absurd (show ((0 : Int32) + (1 : Int32)) < (3 : Int32) from by decide) b13
    · refine Go.aloadN 15 rfl d16_14 rfl rfl ?_
      refine Go.iload 17 rfl d16_15 rfl ?_
      refine Go.aloadN 18 rfl d16_17 rfl rfl ?_
      refine Go.iloadN 19 rfl d16_18 rfl ?_
      have ne14 : s ≠ t := (show @Ne Nat s t from by have := ltN hA.lt; have := g; omega)
      have F15 : Ary Z h8 s .char [.int x0, .int x1, .int x2] := (F6.keep K10 (ninS ne14 nin0))
      refine Go.caload 20 rfl x1 d16_19 F15 1 rfl rfl ?_
      refine Go.callS 23 rfl (C := B19) [.ref t, .int ((0 : Int32) + (1 : Int32)), .int x1] (rest := []) 91 92 25 93 (c19 Z hw h8 t ((0 : Int32) + (1 : Int32)) x1 [lo x0, hi x0, 0, 0, 0, 0] 1 rfl (by decide) hAs hHi hLo z4 (Nat.le_of_ble_eq_true rfl) A12) d16_20 rfl rfl rfl rfl (by decide) pd19 rfl rfl rfl (W := 0) (Nat.le_of_ble_eq_true rfl) (by decide) (by decide) (by decide) (by decide) fun v16 h17 q18 => ?_
      obtain ⟨rfl, K19, A20⟩ := q18
      have A21 : Ary Z h17 t .byte (IL [lo x0, hi x0, lo x1, hi x1, 0, 0]) := A20
      refine Go.iinc 26 rfl (1 : Int32) d16_23 rfl rfl (Ls' := #[.val (.ref s), .val (.int (((0 : Int32) + (1 : Int32)) + (1 : Int32))), .val (.int (3 : Int32)), .val (.ref t), .val (.int ((0 : Int32) + (1 : Int32)))]) rfl ?_
      refine Go.iinc 29 rfl (1 : Int32) d16_26 rfl rfl (Ls' := #[.val (.ref s), .val (.int (((0 : Int32) + (1 : Int32)) + (1 : Int32))), .val (.int (3 : Int32)), .val (.ref t), .val (.int (((0 : Int32) + (1 : Int32)) + (1 : Int32)))]) rfl ?_
      refine Go.goto 8 d16_29 (by decide) (by decide) ?_
      refine Go.iload 10 rfl d16_8 rfl ?_
      refine Go.iloadN 11 rfl d16_10 rfl ?_
      refine Go.icmp_ge 32 14 d16_11 (by decide) rfl rfl (fun (b22 : ¬ (((0 : Int32) + (1 : Int32)) + (1 : Int32)) < (3 : Int32)) => ?_) (fun (b22 : (((0 : Int32) + (1 : Int32)) + (1 : Int32)) < (3 : Int32)) => ?_)
      · exact absurd (show (((0 : Int32) + (1 : Int32)) + (1 : Int32)) < (3 : Int32) from by decide) b22
      · refine Go.aloadN 15 rfl d16_14 rfl rfl ?_
        refine Go.iload 17 rfl d16_15 rfl ?_
        refine Go.aloadN 18 rfl d16_17 rfl rfl ?_
        refine Go.iloadN 19 rfl d16_18 rfl ?_
        have F23 : Ary Z h17 s .char [.int x0, .int x1, .int x2] := (F15.keep K19 (ninS ne14 nin0))
        refine Go.caload 20 rfl x2 d16_19 F23 2 rfl rfl ?_
        refine Go.callS 23 rfl (C := B19) [.ref t, .int (((0 : Int32) + (1 : Int32)) + (1 : Int32)), .int x2] (rest := []) 91 92 25 93 (c19 Z hw h17 t (((0 : Int32) + (1 : Int32)) + (1 : Int32)) x2 [lo x0, hi x0, lo x1, hi x1, 0, 0] 2 rfl (by decide) hAs hHi hLo z4 (Nat.le_of_ble_eq_true rfl) A21) d16_20 rfl rfl rfl rfl (by decide) pd19 rfl rfl rfl (W := 0) (Nat.le_of_ble_eq_true rfl) (by decide) (by decide) (by decide) (by decide) fun v24 h25 q26 => ?_
        obtain ⟨rfl, K27, A28⟩ := q26
        have A29 : Ary Z h25 t .byte (IL [lo x0, hi x0, lo x1, hi x1, lo x2, hi x2]) := A28
        refine Go.iinc 26 rfl (1 : Int32) d16_23 rfl rfl (Ls' := #[.val (.ref s), .val (.int ((((0 : Int32) + (1 : Int32)) + (1 : Int32)) + (1 : Int32))), .val (.int (3 : Int32)), .val (.ref t), .val (.int (((0 : Int32) + (1 : Int32)) + (1 : Int32)))]) rfl ?_
        refine Go.iinc 29 rfl (1 : Int32) d16_26 rfl rfl (Ls' := #[.val (.ref s), .val (.int ((((0 : Int32) + (1 : Int32)) + (1 : Int32)) + (1 : Int32))), .val (.int (3 : Int32)), .val (.ref t), .val (.int ((((0 : Int32) + (1 : Int32)) + (1 : Int32)) + (1 : Int32)))]) rfl ?_
        refine Go.goto 8 d16_29 (by decide) (by decide) ?_
        refine Go.iload 10 rfl d16_8 rfl ?_
        refine Go.iloadN 11 rfl d16_10 rfl ?_
        refine Go.icmp_ge 32 14 d16_11 (by decide) rfl rfl (fun (b30 : ¬ ((((0 : Int32) + (1 : Int32)) + (1 : Int32)) + (1 : Int32)) < (3 : Int32)) => ?_) (fun (b30 : ((((0 : Int32) + (1 : Int32)) + (1 : Int32)) + (1 : Int32)) < (3 : Int32)) => ?_)
        · refine Go.aloadN 33 rfl d16_32 rfl rfl ?_
          exact Go.retA d16_33 rfl rfl rfl (by decide) (by decide) ⟨t, rfl, g, (((((Keep.refl h0 []).trans K all0).trans K10 (allS (Or.inr (by have := K.1; have := g; omega)) all0)).trans K19 (allS (Or.inr (by have := K.1; have := K10.1; have := g; omega)) all0)).trans K27 (allS (Or.inr (by have := K.1; have := K10.1; have := K19.1; have := g; omega)) all0)), A29⟩
        · exact absurd b30 (show ¬ ((((0 : Int32) + (1 : Int32)) + (1 : Int32)) + (1 : Int32)) < (3 : Int32) from by decide)
theorem ef5n3 (mid : MethodId) (s : Addr) (t : Addr) : entryFrame mid (List.toArray [.ref s, .int (0 : Int32), .ref t, .int (0 : Int32), .int (3 : Int32)]) 7 = mkF mid 0 #[.val (.ref s), .val (.int (0 : Int32)), .val (.ref t), .val (.int (0 : Int32)), .val (.int (3 : Int32)), .unset, .unset] [] := by first | (simp [entryFrame, mkF, argsToLocals, Value.category]; done) | rfl
def Q5n3 (Z : State) (t : Addr) (x0 : Int32) (x1 : Int32) (x2 : Int32) (h0 : Heap) (v : Option Value) (h : Heap) : Prop := ∃ r, v = some (.int r) ∧ Keep h0 h [t] ∧ ((r = (3 : Int32) ∧ ¬ (255 : Int32) < x0 ∧ ¬ (255 : Int32) < x1 ∧ ¬ (255 : Int32) < x2 ∧ Ary Z h t .byte (IL [l1 x0, l1 x1, l1 x2])) ∨ ∃ i : Nat, i < 3 ∧ r = Int32.ofNat i ∧ (255 : Int32) < ([x0, x1, x2] : List Int32).getD i 0)
set_option maxRecDepth 65536 in
set_option maxHeartbeats 40000000 in
theorem c5n3 (Z : State) (hw : Wd Z tables_1) (h0 : Heap) (s : Addr) (t : Addr) (x0 : Int32) (x1 : Int32) (x2 : Int32) (hA : Ary Z h0 s .char [.int x0, .int x1, .int x2]) (hB : Ary Z h0 t .byte [.int 0, .int 0, .int 0]) (hgt : Z.heap.size ≤ t) (hne : s ≠ t) : Con Z B5 (List.toArray [.ref s, .int (0 : Int32), .ref t, .int (0 : Int32), .int (3 : Int32)]) h0 (Q5n3 Z t x0 x1 x2 h0) := by
  refine Con.mk hw pn5 (fun mid => ef5n3 mid s t) (Go.old fun hle' => ?_)
  have hle := hle'.1
  refine Go.iconst 1 rfl (0 : Int32) d5_0 rfl ?_
  refine Go.istore 3 rfl d5_1 (Ls' := #[.val (.ref s), .val (.int (0 : Int32)), .val (.ref t), .val (.int (0 : Int32)), .val (.int (3 : Int32)), .val (.int (0 : Int32)), .unset]) rfl ?_
  refine Go.iload 5 rfl d5_3 rfl ?_
  refine Go.iload 7 rfl d5_5 rfl ?_
  refine Go.icmp_ge 44 10 d5_7 (by decide) rfl rfl (fun (b1 : ¬ (0 : Int32) < (3 : Int32)) => ?_) (fun (b1 : (0 : Int32) < (3 : Int32)) => ?_)
  · exact absurd (show (0 : Int32) < (3 : Int32) from by decide) b1
  · refine Go.aloadN 11 rfl d5_10 rfl rfl ?_
    refine Go.iloadN 12 rfl d5_11 rfl ?_
    refine Go.caload 13 rfl x0 d5_12 hA 0 rfl rfl ?_
    refine Go.istore 15 rfl d5_13 (Ls' := #[.val (.ref s), .val (.int (0 : Int32)), .val (.ref t), .val (.int (0 : Int32)), .val (.int (3 : Int32)), .val (.int (0 : Int32)), .val (.int x0)]) rfl ?_
    refine Go.iload 17 rfl d5_15 rfl ?_
    refine Go.sipush 20 rfl (255 : Int32) d5_17 rfl ?_
    refine Go.icmp_le 26 23 d5_20 (by decide) rfl rfl (fun (b2 : ¬ (255 : Int32) < x0) => ?_) (fun (b2 : (255 : Int32) < x0) => ?_)
    · refine Go.aloadN 27 rfl d5_26 rfl rfl ?_
      refine Go.iloadN 28 rfl d5_27 rfl ?_
      refine Go.iload 30 rfl d5_28 rfl ?_
      refine Go.i2b 31 rfl d5_30 ?_
      refine Go.stB 32 rfl d5_31 hB 0 rfl (Nat.le_of_ble_eq_true rfl) hgt fun h3 K4 A5 => ?_
      have A6 : Ary Z h3 t .byte [.int (nar .byte x0.toInt8.toInt32), .int 0, .int 0] := A5
      refine Go.iinc 35 rfl (1 : Int32) d5_32 rfl rfl (Ls' := #[.val (.ref s), .val (.int ((0 : Int32) + (1 : Int32))), .val (.ref t), .val (.int (0 : Int32)), .val (.int (3 : Int32)), .val (.int (0 : Int32)), .val (.int x0)]) rfl ?_
      refine Go.iinc 38 rfl (1 : Int32) d5_35 rfl rfl (Ls' := #[.val (.ref s), .val (.int ((0 : Int32) + (1 : Int32))), .val (.ref t), .val (.int ((0 : Int32) + (1 : Int32))), .val (.int (3 : Int32)), .val (.int (0 : Int32)), .val (.int x0)]) rfl ?_
      refine Go.iinc 41 rfl (1 : Int32) d5_38 rfl rfl (Ls' := #[.val (.ref s), .val (.int ((0 : Int32) + (1 : Int32))), .val (.ref t), .val (.int ((0 : Int32) + (1 : Int32))), .val (.int (3 : Int32)), .val (.int ((0 : Int32) + (1 : Int32))), .val (.int x0)]) rfl ?_
      refine Go.goto 3 d5_41 (by decide) (by decide) ?_
      refine Go.iload 5 rfl d5_3 rfl ?_
      refine Go.iload 7 rfl d5_5 rfl ?_
      refine Go.icmp_ge 44 10 d5_7 (by decide) rfl rfl (fun (b7 : ¬ ((0 : Int32) + (1 : Int32)) < (3 : Int32)) => ?_) (fun (b7 : ((0 : Int32) + (1 : Int32)) < (3 : Int32)) => ?_)
      · exact absurd (show ((0 : Int32) + (1 : Int32)) < (3 : Int32) from by decide) b7
      · refine Go.aloadN 11 rfl d5_10 rfl rfl ?_
        refine Go.iloadN 12 rfl d5_11 rfl ?_
        have F8 : Ary Z h3 s .char [.int x0, .int x1, .int x2] := (hA.keep K4 (ninS hne nin0))
        refine Go.caload 13 rfl x1 d5_12 F8 1 rfl rfl ?_
        refine Go.istore 15 rfl d5_13 (Ls' := #[.val (.ref s), .val (.int ((0 : Int32) + (1 : Int32))), .val (.ref t), .val (.int ((0 : Int32) + (1 : Int32))), .val (.int (3 : Int32)), .val (.int ((0 : Int32) + (1 : Int32))), .val (.int x1)]) rfl ?_
        refine Go.iload 17 rfl d5_15 rfl ?_
        refine Go.sipush 20 rfl (255 : Int32) d5_17 rfl ?_
        refine Go.icmp_le 26 23 d5_20 (by decide) rfl rfl (fun (b9 : ¬ (255 : Int32) < x1) => ?_) (fun (b9 : (255 : Int32) < x1) => ?_)
        · refine Go.aloadN 27 rfl d5_26 rfl rfl ?_
          refine Go.iloadN 28 rfl d5_27 rfl ?_
          refine Go.iload 30 rfl d5_28 rfl ?_
          refine Go.i2b 31 rfl d5_30 ?_
          refine Go.stB 32 rfl d5_31 A6 1 rfl (Nat.le_of_ble_eq_true rfl) hgt fun h10 K11 A12 => ?_
          have A13 : Ary Z h10 t .byte [.int (nar .byte x0.toInt8.toInt32), .int (nar .byte x1.toInt8.toInt32), .int 0] := A12
          refine Go.iinc 35 rfl (1 : Int32) d5_32 rfl rfl (Ls' := #[.val (.ref s), .val (.int (((0 : Int32) + (1 : Int32)) + (1 : Int32))), .val (.ref t), .val (.int ((0 : Int32) + (1 : Int32))), .val (.int (3 : Int32)), .val (.int ((0 : Int32) + (1 : Int32))), .val (.int x1)]) rfl ?_
          refine Go.iinc 38 rfl (1 : Int32) d5_35 rfl rfl (Ls' := #[.val (.ref s), .val (.int (((0 : Int32) + (1 : Int32)) + (1 : Int32))), .val (.ref t), .val (.int (((0 : Int32) + (1 : Int32)) + (1 : Int32))), .val (.int (3 : Int32)), .val (.int ((0 : Int32) + (1 : Int32))), .val (.int x1)]) rfl ?_
          refine Go.iinc 41 rfl (1 : Int32) d5_38 rfl rfl (Ls' := #[.val (.ref s), .val (.int (((0 : Int32) + (1 : Int32)) + (1 : Int32))), .val (.ref t), .val (.int (((0 : Int32) + (1 : Int32)) + (1 : Int32))), .val (.int (3 : Int32)), .val (.int (((0 : Int32) + (1 : Int32)) + (1 : Int32))), .val (.int x1)]) rfl ?_
          refine Go.goto 3 d5_41 (by decide) (by decide) ?_
          refine Go.iload 5 rfl d5_3 rfl ?_
          refine Go.iload 7 rfl d5_5 rfl ?_
          refine Go.icmp_ge 44 10 d5_7 (by decide) rfl rfl (fun (b14 : ¬ (((0 : Int32) + (1 : Int32)) + (1 : Int32)) < (3 : Int32)) => ?_) (fun (b14 : (((0 : Int32) + (1 : Int32)) + (1 : Int32)) < (3 : Int32)) => ?_)
          · exact absurd (show (((0 : Int32) + (1 : Int32)) + (1 : Int32)) < (3 : Int32) from by decide) b14
          · refine Go.aloadN 11 rfl d5_10 rfl rfl ?_
            refine Go.iloadN 12 rfl d5_11 rfl ?_
            have F15 : Ary Z h10 s .char [.int x0, .int x1, .int x2] := (F8.keep K11 (ninS hne nin0))
            refine Go.caload 13 rfl x2 d5_12 F15 2 rfl rfl ?_
            refine Go.istore 15 rfl d5_13 (Ls' := #[.val (.ref s), .val (.int (((0 : Int32) + (1 : Int32)) + (1 : Int32))), .val (.ref t), .val (.int (((0 : Int32) + (1 : Int32)) + (1 : Int32))), .val (.int (3 : Int32)), .val (.int (((0 : Int32) + (1 : Int32)) + (1 : Int32))), .val (.int x2)]) rfl ?_
            refine Go.iload 17 rfl d5_15 rfl ?_
            refine Go.sipush 20 rfl (255 : Int32) d5_17 rfl ?_
            refine Go.icmp_le 26 23 d5_20 (by decide) rfl rfl (fun (b16 : ¬ (255 : Int32) < x2) => ?_) (fun (b16 : (255 : Int32) < x2) => ?_)
            · refine Go.aloadN 27 rfl d5_26 rfl rfl ?_
              refine Go.iloadN 28 rfl d5_27 rfl ?_
              refine Go.iload 30 rfl d5_28 rfl ?_
              refine Go.i2b 31 rfl d5_30 ?_
              refine Go.stB 32 rfl d5_31 A13 2 rfl (Nat.le_of_ble_eq_true rfl) hgt fun h17 K18 A19 => ?_
              have A20 : Ary Z h17 t .byte [.int (nar .byte x0.toInt8.toInt32), .int (nar .byte x1.toInt8.toInt32), .int (nar .byte x2.toInt8.toInt32)] := A19
              refine Go.iinc 35 rfl (1 : Int32) d5_32 rfl rfl (Ls' := #[.val (.ref s), .val (.int ((((0 : Int32) + (1 : Int32)) + (1 : Int32)) + (1 : Int32))), .val (.ref t), .val (.int (((0 : Int32) + (1 : Int32)) + (1 : Int32))), .val (.int (3 : Int32)), .val (.int (((0 : Int32) + (1 : Int32)) + (1 : Int32))), .val (.int x2)]) rfl ?_
              refine Go.iinc 38 rfl (1 : Int32) d5_35 rfl rfl (Ls' := #[.val (.ref s), .val (.int ((((0 : Int32) + (1 : Int32)) + (1 : Int32)) + (1 : Int32))), .val (.ref t), .val (.int ((((0 : Int32) + (1 : Int32)) + (1 : Int32)) + (1 : Int32))), .val (.int (3 : Int32)), .val (.int (((0 : Int32) + (1 : Int32)) + (1 : Int32))), .val (.int x2)]) rfl ?_
              refine Go.iinc 41 rfl (1 : Int32) d5_38 rfl rfl (Ls' := #[.val (.ref s), .val (.int ((((0 : Int32) + (1 : Int32)) + (1 : Int32)) + (1 : Int32))), .val (.ref t), .val (.int ((((0 : Int32) + (1 : Int32)) + (1 : Int32)) + (1 : Int32))), .val (.int (3 : Int32)), .val (.int ((((0 : Int32) + (1 : Int32)) + (1 : Int32)) + (1 : Int32))), .val (.int x2)]) rfl ?_
              refine Go.goto 3 d5_41 (by decide) (by decide) ?_
              refine Go.iload 5 rfl d5_3 rfl ?_
              refine Go.iload 7 rfl d5_5 rfl ?_
              refine Go.icmp_ge 44 10 d5_7 (by decide) rfl rfl (fun (b21 : ¬ ((((0 : Int32) + (1 : Int32)) + (1 : Int32)) + (1 : Int32)) < (3 : Int32)) => ?_) (fun (b21 : ((((0 : Int32) + (1 : Int32)) + (1 : Int32)) + (1 : Int32)) < (3 : Int32)) => ?_)
              · refine Go.iload 46 rfl d5_44 rfl ?_
                exact Go.retI d5_46 rfl (by decide) (by decide) ⟨_, rfl, ((((Keep.refl h0 [t]).trans K4 (by simp)).trans K11 (by simp)).trans K18 (by simp)), Or.inl ⟨rfl, b2, b9, b16, A20⟩⟩
              · exact absurd b21 (show ¬ ((((0 : Int32) + (1 : Int32)) + (1 : Int32)) + (1 : Int32)) < (3 : Int32) from by decide)
            · refine Go.iload 25 rfl d5_23 rfl ?_
              refine Go.eqI (w := 2) (by decide) ?_
              exact Go.retI d5_25 rfl (by decide) (by decide) ⟨_, rfl, (((Keep.refl h0 [t]).trans K4 (by simp)).trans K11 (by simp)), Or.inr ⟨2, by decide, rfl, b16⟩⟩
        · refine Go.iload 25 rfl d5_23 rfl ?_
          refine Go.eqI (w := 1) (by decide) ?_
          exact Go.retI d5_25 rfl (by decide) (by decide) ⟨_, rfl, ((Keep.refl h0 [t]).trans K4 (by simp)), Or.inr ⟨1, by decide, rfl, b9⟩⟩
    · refine Go.iload 25 rfl d5_23 rfl ?_
      refine Go.eqI (w := 0) (by decide) ?_
      exact Go.retI d5_25 rfl (by decide) (by decide) ⟨_, rfl, (Keep.refl h0 [t]), Or.inr ⟨0, by decide, rfl, b2⟩⟩
theorem ef4n3 (mid : MethodId) (s : Addr) : entryFrame mid (List.toArray [.ref s, .int (0 : Int32), .int (3 : Int32)]) 6 = mkF mid 0 #[.val (.ref s), .val (.int (0 : Int32)), .val (.int (3 : Int32)), .unset, .unset, .unset] [] := by first | (simp [entryFrame, mkF, argsToLocals, Value.category]; done) | rfl
def Q4n3 (Z : State) (x0 : Int32) (x1 : Int32) (x2 : Int32) (h0 : Heap) (v : Option Value) (h : Heap) : Prop := ∃ t, v = some (.ref t) ∧ h0.size ≤ t ∧ Keep h0 h [] ∧ ((¬ (255 : Int32) < x0 ∧ ¬ (255 : Int32) < x1 ∧ ¬ (255 : Int32) < x2 ∧ Ary Z h t .byte (IL [l1 x0, l1 x1, l1 x2])) ∨ Ary Z h t .byte (IL [lo x0, hi x0, lo x1, hi x1, lo x2, hi x2]))
set_option maxRecDepth 65536 in
set_option maxHeartbeats 40000000 in
theorem c4n3 (Z : State) (hw : Wd Z tables_1) (h0 : Heap) (s : Addr) (x0 : Int32) (x1 : Int32) (x2 : Int32) (hAs : Sta Z Z.heap "java/lang/StringUTF16" "$assertionsDisabled" "Z" (.int 1)) (hHi : Sta Z Z.heap "java/lang/StringUTF16" "HI_BYTE_SHIFT" "I" (.int 0)) (hLo : Sta Z Z.heap "java/lang/StringUTF16" "LO_BYTE_SHIFT" "I" (.int 8)) (hA : Ary Z h0 s .char [.int x0, .int x1, .int x2]) (hx0 : Ch x0) (hx1 : Ch x1) (hx2 : Ch x2) : Con Z B4 (List.toArray [.ref s, .int (0 : Int32), .int (3 : Int32)]) h0 (Q4n3 Z x0 x1 x2 h0) := by
  refine Con.mk hw pn4 (fun mid => ef4n3 mid s) (Go.old fun hle' => ?_)
  have hle := hle'.1
  refine Go.iloadN 1 rfl d4_0 rfl ?_
  refine Go.newA 3 rfl 15 3 3 d4_1 rfl rfl (by decide) (by decide) (by decide) (by decide) fun h2 a1 g3 z4 K5 A6 E7 => ?_
  have A8 : Ary Z h2 a1 .byte [.int 0, .int 0, .int 0] := A6
  refine Go.astoreN 4 rfl d4_3 rfl (Ls' := #[.val (.ref s), .val (.int (0 : Int32)), .val (.int (3 : Int32)), .val (.ref a1), .unset, .unset]) rfl ?_
  refine Go.aloadN 5 rfl d4_4 rfl rfl ?_
  refine Go.iloadN 6 rfl d4_5 rfl ?_
  refine Go.aloadN 7 rfl d4_6 rfl rfl ?_
  refine Go.iconst 8 rfl (0 : Int32) d4_7 rfl ?_
  refine Go.iloadN 9 rfl d4_8 rfl ?_
  have F9 : Ary Z h2 s .char [.int x0, .int x1, .int x2] := (hA.keep K5 nin0)
  have ne10 : s ≠ a1 := (show @Ne Nat s a1 from by have := ltN hA.lt; have := g3; omega)
  refine Go.callS 12 rfl (C := B5) [.ref s, .int (0 : Int32), .ref a1, .int (0 : Int32), .int (3 : Int32)] (rest := []) 27 28 25 29 (c5n3 Z hw h2 s a1 x0 x1 x2 F9 A8 z4 ne10) d4_9 rfl rfl rfl rfl (by decide) pd5 rfl rfl rfl (W := 0) (Nat.le_of_ble_eq_true rfl) (by decide) (by decide) (by decide) (by decide) fun v11 h12 q13 => ?_
  obtain ⟨r, rfl, KQ5, DQ5⟩ := q13
  refine Go.istore 14 rfl d4_12 (Ls' := #[.val (.ref s), .val (.int (0 : Int32)), .val (.int (3 : Int32)), .val (.ref a1), .val (.int r), .unset]) rfl ?_
  refine Go.iload 16 rfl d4_14 rfl ?_
  refine Go.iloadN 17 rfl d4_16 rfl ?_
  rcases DQ5 with ⟨rfl, lg0, lg1, lg2, AQ5⟩ | ⟨i, hin, rfl, hbig⟩
  · refine Go.icmp_eq 57 20 d4_17 (by decide) rfl rfl (fun (b14 : (3 : Int32) = (3 : Int32)) => ?_) (fun (b14 : ¬ (3 : Int32) = (3 : Int32)) => ?_)
    · refine Go.aloadN 58 rfl d4_57 rfl rfl ?_
      exact Go.retA d4_58 rfl rfl rfl (by decide) (by decide) ⟨a1, rfl, Nat.le_of_eq g3.symm, (((Keep.refl h0 []).trans K5 all0).trans KQ5 (allS (Or.inr (by have := K5.1; have := g3; omega)) all0)), Or.inl ⟨lg0, lg1, lg2, AQ5⟩⟩
    · exact absurd (show (3 : Int32) = (3 : Int32) from by decide) b14
  · refine Go.icmp_eq 57 20 d4_17 (by decide) rfl rfl (fun (b15 : (Int32.ofNat i) = (3 : Int32)) => ?_) (fun (b15 : ¬ (Int32.ofNat i) = (3 : Int32)) => ?_)
    · exact absurd b15 (own_ofne hin (by decide))
    · refine Go.aloadN 21 rfl d4_20 rfl rfl ?_
      refine Go.iloadN 22 rfl d4_21 rfl ?_
      refine Go.iloadN 23 rfl d4_22 rfl ?_
      have F16 : Ary Z h12 s .char [.int x0, .int x1, .int x2] := (F9.keep KQ5 (ninS ne10 nin0))
      refine Go.callS 26 rfl (C := B16) [.ref s, .int (0 : Int32), .int (3 : Int32)] (rest := []) 81 82 25 83 (c16n3 Z hw h12 s x0 x1 x2 hAs hHi hLo F16) d4_23 rfl rfl rfl rfl (by decide) pd16 rfl rfl rfl (W := 0) (Nat.le_of_ble_eq_true rfl) (by decide) (by decide) (by decide) (by decide) fun v17 h18 q19 => ?_
      obtain ⟨u, rfl, gu, Ku, Au⟩ := q19
      have z20 : Z.heap.size ≤ u := Nat.le_trans (Nat.le_trans (Nat.le_trans hle K5.1) KQ5.1) gu
      refine Go.astore 28 rfl d4_26 rfl (Ls' := #[.val (.ref s), .val (.int (0 : Int32)), .val (.int (3 : Int32)), .val (.ref a1), .val (.int (Int32.ofNat i)), .val (.ref u)]) rfl ?_
      refine Go.aload 30 rfl d4_28 rfl rfl ?_
      refine Go.iload 32 rfl d4_30 rfl ?_
      refine Go.callS 35 rfl (C := B20) [.ref u, .int (Int32.ofNat i)] (rest := []) 97 98 25 99 (c20 Z hw h18 u (Int32.ofNat i) [lo x0, hi x0, lo x1, hi x1, lo x2, hi x2] i (len_ofNat (by omega)) (by omega) hAs hHi hLo (by show 2 * i + 1 < 6; omega) Au) d4_32 rfl rfl rfl rfl (by decide) pd20 rfl rfl rfl (W := 0) (Nat.le_of_ble_eq_true rfl) (by decide) (by decide) (by decide) (by decide) fun v21 h22 q23 => ?_
      obtain ⟨rfl, rfl⟩ := q23
      refine Go.eqI (w := ([x0, x1, x2] : List Int32).getD i 0) (own_gc3 hin hx0 hx1 hx2) ?_
      refine Go.sipush 38 rfl (255 : Int32) d4_35 rfl ?_
      refine Go.icmp_gt 54 41 d4_38 (by decide) rfl rfl (fun (b24 : (255 : Int32) < (([x0, x1, x2] : List Int32).getD i 0)) => ?_) (fun (b24 : ¬ (255 : Int32) < (([x0, x1, x2] : List Int32).getD i 0)) => ?_)
      · refine Go.aload 56 rfl d4_54 rfl rfl ?_
        exact Go.retA d4_56 rfl rfl rfl (by decide) (by decide) ⟨u, rfl, (by have := K5.1; have := KQ5.1; have := gu; omega), ((((Keep.refl h0 []).trans K5 all0).trans KQ5 (allS (Or.inr (by have := K5.1; have := g3; omega)) all0)).trans Ku all0), Or.inr Au⟩
      · exact absurd hbig b24
theorem ef6n3k0 (mid : MethodId) (t : Addr) : entryFrame mid (List.toArray [.ref t, .int (3 : Int32)]) 2 = mkF mid 0 #[.val (.ref t), .val (.int (3 : Int32))] [] := by first | (simp [entryFrame, mkF, argsToLocals, Value.category]; done) | rfl
def Q6n3k0 (h0 : Heap) (v : Option Value) (h : Heap) : Prop := v = some (.int 0) ∧ h0 = h
set_option maxRecDepth 65536 in
set_option maxHeartbeats 40000000 in
theorem c6n3k0 (Z : State) (hw : Wd Z tables_1) (h0 : Heap) (t : Addr)  (vs : List Value) (hB : Ary Z h0 t .byte vs) (hl : vs.length = 3) : Con Z B6 (List.toArray [.ref t, .int (3 : Int32)]) h0 (Q6n3k0 h0) := by
  refine Con.mk hw pn6 (fun mid => ef6n3k0 mid t) (Go.old fun hle' => ?_)
  have hle := hle'.1
  refine Go.iloadN 1 rfl d6_0 rfl ?_
  refine Go.aloadN 2 rfl d6_1 rfl rfl ?_
  refine Go.alen 3 rfl (3 : Int32) d6_2 hB (by rw [hl]; rfl) ?_
  refine Go.isub 4 rfl d6_3 ?_
  refine Go.bipush 6 rfl (31 : Int32) d6_4 rfl ?_
  refine Go.iushr 7 rfl d6_6 ?_
  refine Go.i2b 8 rfl d6_7 ?_
  exact Go.retN (t := .byte) (z' := 0) d6_8 rfl (by decide) (by decide) (by decide) (by decide) ⟨rfl, rfl⟩
theorem ef6n3k1 (mid : MethodId) (t : Addr) : entryFrame mid (List.toArray [.ref t, .int (3 : Int32)]) 2 = mkF mid 0 #[.val (.ref t), .val (.int (3 : Int32))] [] := by first | (simp [entryFrame, mkF, argsToLocals, Value.category]; done) | rfl
def Q6n3k1 (h0 : Heap) (v : Option Value) (h : Heap) : Prop := v = some (.int 1) ∧ h0 = h
set_option maxRecDepth 65536 in
set_option maxHeartbeats 40000000 in
theorem c6n3k1 (Z : State) (hw : Wd Z tables_1) (h0 : Heap) (t : Addr)  (vs : List Value) (hB : Ary Z h0 t .byte vs) (hl : vs.length = 6) : Con Z B6 (List.toArray [.ref t, .int (3 : Int32)]) h0 (Q6n3k1 h0) := by
  refine Con.mk hw pn6 (fun mid => ef6n3k1 mid t) (Go.old fun hle' => ?_)
  have hle := hle'.1
  refine Go.iloadN 1 rfl d6_0 rfl ?_
  refine Go.aloadN 2 rfl d6_1 rfl rfl ?_
  refine Go.alen 3 rfl (6 : Int32) d6_2 hB (by rw [hl]; rfl) ?_
  refine Go.isub 4 rfl d6_3 ?_
  refine Go.bipush 6 rfl (31 : Int32) d6_4 rfl ?_
  refine Go.iushr 7 rfl d6_6 ?_
  refine Go.i2b 8 rfl d6_7 ?_
  exact Go.retN (t := .byte) (z' := 1) d6_8 rfl (by decide) (by decide) (by decide) (by decide) ⟨rfl, rfl⟩
theorem ef2n3 (mid : MethodId) (a : Addr) (s : Addr) : entryFrame mid (List.toArray [.ref a, .ref s, .int (0 : Int32), .int (3 : Int32), .null]) 6 = mkF mid 0 #[.val (.ref a), .val (.ref s), .val (.int (0 : Int32)), .val (.int (3 : Int32)), .val (.null), .unset] [] := by first | (simp [entryFrame, mkF, argsToLocals, Value.category]; done) | rfl
def Q2n3 (Z : State) (a : Addr) (x0 : Int32) (x1 : Int32) (x2 : Int32) (h0 : Heap) (v : Option Value) (h : Heap) : Prop := v = none ∧ ∃ t, h0.size ≤ t ∧ Keep h0 h [a] ∧ Fld Z h a "java/lang/String" "value" "[B" (.ref t) ∧ ((Fld Z h a "java/lang/String" "coder" "B" (.int 0) ∧ ¬ (255 : Int32) < x0 ∧ ¬ (255 : Int32) < x1 ∧ ¬ (255 : Int32) < x2 ∧ Ary Z h t .byte (IL [l1 x0, l1 x1, l1 x2])) ∨ (Fld Z h a "java/lang/String" "coder" "B" (.int 1) ∧ Ary Z h t .byte (IL [lo x0, hi x0, lo x1, hi x1, lo x2, hi x2])))
set_option maxRecDepth 65536 in
set_option maxHeartbeats 40000000 in
theorem c2n3 (Z : State) (hw : Wd Z tables_1) (h0 : Heap) (a : Addr) (s : Addr) (x0 : Int32) (x1 : Int32) (x2 : Int32) (cs : Int32) (hS : Sta Z Z.heap "java/lang/String" "COMPACT_STRINGS" "Z" (.int cs)) (hcs : ¬ cs = 0) (hAs : Sta Z Z.heap "java/lang/StringUTF16" "$assertionsDisabled" "Z" (.int 1)) (hHi : Sta Z Z.heap "java/lang/StringUTF16" "HI_BYTE_SHIFT" "I" (.int 0)) (hLo : Sta Z Z.heap "java/lang/StringUTF16" "LO_BYTE_SHIFT" "I" (.int 8)) (hge : Z.heap.size ≤ a) (hE : Exa Z h0 a "java/lang/String") (hV : Fld Z h0 a "java/lang/String" "value" "[B" .null) (hC : Fld Z h0 a "java/lang/String" "coder" "B" (.int 0)) (hA : Ary Z h0 s .char [.int x0, .int x1, .int x2]) (hx0 : Ch x0) (hx1 : Ch x1) (hx2 : Ch x2) : Con Z B2 (List.toArray [.ref a, .ref s, .int (0 : Int32), .int (3 : Int32), .null]) h0 (Q2n3 Z a x0 x1 x2 h0) := by
  refine Con.mk hw pn2 (fun mid => ef2n3 mid a s) (Go.old fun hle' => ?_)
  have hle := hle'.1
  refine Go.aloadN 1 rfl d2_0 rfl rfl ?_
  refine Go.initO 4 rfl 11 12 13 d2_1 rfl rfl rfl rfl (by decide) (W := 0) (Nat.le_of_ble_eq_true rfl) (by decide) ?_
  refine Go.iloadN 5 rfl d2_4 rfl ?_
  refine Go.if_ne 27 8 d2_5 (by decide) rfl rfl (fun (b1 : ¬ (3 : Int32) = 0) => ?_) (fun (b1 : (3 : Int32) = 0) => ?_)
  · refine Go.getS 30 rfl (v := .int cs) 22 d2_27 rfl hS ?_
    refine Go.if_eq 58 33 d2_30 (by decide) rfl rfl (fun (b2 : cs = 0) => ?_) (fun (b2 : ¬ cs = 0) => ?_)
    · exact absurd b2 hcs
    · refine Go.aloadN 34 rfl d2_33 rfl rfl ?_
      refine Go.iloadN 35 rfl d2_34 rfl ?_
      refine Go.iloadN 36 rfl d2_35 rfl ?_
      refine Go.callS 39 rfl (C := B4) [.ref s, .int (0 : Int32), .int (3 : Int32)] (rest := []) 23 24 25 26 (c4n3 Z hw h0 s x0 x1 x2 hAs hHi hLo hA hx0 hx1 hx2) d2_36 rfl rfl rfl rfl (by decide) pd4 rfl rfl rfl (W := 0) (Nat.le_of_ble_eq_true rfl) (by decide) (by decide) (by decide) (by decide) fun v3 h4 q5 => ?_
      obtain ⟨t, rfl, g, K, D⟩ := q5
      have z6 : Z.heap.size ≤ t := Nat.le_trans hle g
      rcases D with ⟨lg0, lg1, lg2, A1⟩ | A1
      · refine Go.astore 41 rfl d2_39 rfl (Ls' := #[.val (.ref a), .val (.ref s), .val (.int (0 : Int32)), .val (.int (3 : Int32)), .val (.null), .val (.ref t)]) rfl ?_
        refine Go.aloadN 42 rfl d2_41 rfl rfl ?_
        refine Go.aload 44 rfl d2_42 rfl rfl ?_
        refine Go.iloadN 45 rfl d2_44 rfl ?_
        refine Go.callS 48 rfl (C := B6) [.ref t, .int (3 : Int32)] (rest := [.ref a]) 30 31 25 32 (c6n3k0 Z hw h4 t (IL [l1 x0, l1 x1, l1 x2]) A1 rfl) d2_45 rfl rfl rfl rfl (by decide) pd6 rfl rfl rfl (W := 1) (Nat.le_of_ble_eq_true rfl) (by decide) (by decide) (by decide) (by decide) fun v7 h8 q9 => ?_
        obtain ⟨rfl, rfl⟩ := q9
        have F10 : Fld Z h4 a "java/lang/String" "coder" "B" (.int (0 : Int32)) := (hC.keep K nin0)
        have F11 : Exa Z h4 a "java/lang/String" := (hE.keep K)
        refine Go.putF 51 rfl (v' := .int (0 : Int32)) (ty := .byte) 21 17 1 d2_48 rfl F10 F11 (Or.inr ⟨rfl, rfl, rfl⟩) rfl (by decide) rfl rfl hge fun h12 K13 W14 F15 => ?_
        refine Go.aloadN 52 rfl d2_51 rfl rfl ?_
        refine Go.aload 54 rfl d2_52 rfl rfl ?_
        have F16 : Fld Z h12 a "java/lang/String" "value" "[B" (.null) := (Fld.oth hw (hV.keep K nin0) W14 16 17 (Or.inr rfl) (Or.inr rfl) (by decide) rfl rfl)
        have F17 : Exa Z h12 a "java/lang/String" := (F11.keep K13)
        refine Go.putF 57 rfl (v' := .ref t) (ty := (.array .byte)) 20 16 1 d2_54 rfl F16 F17 (Or.inr ⟨rfl, rfl, rfl⟩) rfl (by decide) rfl rfl hge fun h18 K19 W20 F21 => ?_
        have F22 : Fld Z h18 a "java/lang/String" "coder" "B" (.int (0 : Int32)) := (Fld.oth hw F15 W20 17 16 (Or.inr rfl) (Or.inr rfl) (by decide) rfl rfl)
        have ne23 : t ≠ a := (show @Ne Nat t a from by have := ltN hE.lt; have := g; omega)
        have F24 : Ary Z h18 t .byte (IL [l1 x0, l1 x1, l1 x2]) := ((A1.keep K13 (ninS ne23 nin0)).keep K19 (ninS ne23 nin0))
        exact Go.retV d2_57 rfl (by decide) (by decide) ⟨rfl, t, g, ((((Keep.refl h0 [a]).trans K all0).trans K13 (by simp)).trans K19 (by simp)), F21, Or.inl ⟨F22, lg0, lg1, lg2, F24⟩⟩
      · refine Go.astore 41 rfl d2_39 rfl (Ls' := #[.val (.ref a), .val (.ref s), .val (.int (0 : Int32)), .val (.int (3 : Int32)), .val (.null), .val (.ref t)]) rfl ?_
        refine Go.aloadN 42 rfl d2_41 rfl rfl ?_
        refine Go.aload 44 rfl d2_42 rfl rfl ?_
        refine Go.iloadN 45 rfl d2_44 rfl ?_
        refine Go.callS 48 rfl (C := B6) [.ref t, .int (3 : Int32)] (rest := [.ref a]) 30 31 25 32 (c6n3k1 Z hw h4 t (IL [lo x0, hi x0, lo x1, hi x1, lo x2, hi x2]) A1 rfl) d2_45 rfl rfl rfl rfl (by decide) pd6 rfl rfl rfl (W := 1) (Nat.le_of_ble_eq_true rfl) (by decide) (by decide) (by decide) (by decide) fun v25 h26 q27 => ?_
        obtain ⟨rfl, rfl⟩ := q27
        have F28 : Fld Z h4 a "java/lang/String" "coder" "B" (.int (0 : Int32)) := (hC.keep K nin0)
        have F29 : Exa Z h4 a "java/lang/String" := (hE.keep K)
        refine Go.putF 51 rfl (v' := .int (1 : Int32)) (ty := .byte) 21 17 1 d2_48 rfl F28 F29 (Or.inr ⟨rfl, rfl, rfl⟩) rfl (by decide) rfl rfl hge fun h30 K31 W32 F33 => ?_
        refine Go.aloadN 52 rfl d2_51 rfl rfl ?_
        refine Go.aload 54 rfl d2_52 rfl rfl ?_
        have F34 : Fld Z h30 a "java/lang/String" "value" "[B" (.null) := (Fld.oth hw (hV.keep K nin0) W32 16 17 (Or.inr rfl) (Or.inr rfl) (by decide) rfl rfl)
        have F35 : Exa Z h30 a "java/lang/String" := (F29.keep K31)
        refine Go.putF 57 rfl (v' := .ref t) (ty := (.array .byte)) 20 16 1 d2_54 rfl F34 F35 (Or.inr ⟨rfl, rfl, rfl⟩) rfl (by decide) rfl rfl hge fun h36 K37 W38 F39 => ?_
        have F40 : Fld Z h36 a "java/lang/String" "coder" "B" (.int (1 : Int32)) := (Fld.oth hw F33 W38 17 16 (Or.inr rfl) (Or.inr rfl) (by decide) rfl rfl)
        have ne41 : t ≠ a := (show @Ne Nat t a from by have := ltN hE.lt; have := g; omega)
        have F42 : Ary Z h36 t .byte (IL [lo x0, hi x0, lo x1, hi x1, lo x2, hi x2]) := ((A1.keep K31 (ninS ne41 nin0)).keep K37 (ninS ne41 nin0))
        exact Go.retV d2_57 rfl (by decide) (by decide) ⟨rfl, t, g, ((((Keep.refl h0 [a]).trans K all0).trans K31 (by simp)).trans K37 (by simp)), F39, Or.inr ⟨F40, F42⟩⟩
  · exact absurd b1 (show ¬ (3 : Int32) = 0 from by decide)
theorem ef1n3 (mid : MethodId) (a : Addr) (s : Addr) : entryFrame mid (List.toArray [.ref a, .ref s]) 2 = mkF mid 0 #[.val (.ref a), .val (.ref s)] [] := by first | (simp [entryFrame, mkF, argsToLocals, Value.category]; done) | rfl
def Q1n3 (Z : State) (a : Addr) (x0 : Int32) (x1 : Int32) (x2 : Int32) (h0 : Heap) (v : Option Value) (h : Heap) : Prop := v = none ∧ ∃ t, h0.size ≤ t ∧ Keep h0 h [a] ∧ Fld Z h a "java/lang/String" "value" "[B" (.ref t) ∧ ((Fld Z h a "java/lang/String" "coder" "B" (.int 0) ∧ ¬ (255 : Int32) < x0 ∧ ¬ (255 : Int32) < x1 ∧ ¬ (255 : Int32) < x2 ∧ Ary Z h t .byte (IL [l1 x0, l1 x1, l1 x2])) ∨ (Fld Z h a "java/lang/String" "coder" "B" (.int 1) ∧ Ary Z h t .byte (IL [lo x0, hi x0, lo x1, hi x1, lo x2, hi x2])))
set_option maxRecDepth 65536 in
set_option maxHeartbeats 40000000 in
theorem c1n3 (Z : State) (hw : Wd Z tables_1) (h0 : Heap) (a : Addr) (s : Addr) (x0 : Int32) (x1 : Int32) (x2 : Int32) (cs : Int32) (hS : Sta Z Z.heap "java/lang/String" "COMPACT_STRINGS" "Z" (.int cs)) (hcs : ¬ cs = 0) (hAs : Sta Z Z.heap "java/lang/StringUTF16" "$assertionsDisabled" "Z" (.int 1)) (hHi : Sta Z Z.heap "java/lang/StringUTF16" "HI_BYTE_SHIFT" "I" (.int 0)) (hLo : Sta Z Z.heap "java/lang/StringUTF16" "LO_BYTE_SHIFT" "I" (.int 8)) (hge : Z.heap.size ≤ a) (hE : Exa Z h0 a "java/lang/String") (hV : Fld Z h0 a "java/lang/String" "value" "[B" .null) (hC : Fld Z h0 a "java/lang/String" "coder" "B" (.int 0)) (hA : Ary Z h0 s .char [.int x0, .int x1, .int x2]) (hx0 : Ch x0) (hx1 : Ch x1) (hx2 : Ch x2) : Con Z B1 (List.toArray [.ref a, .ref s]) h0 (Q1n3 Z a x0 x1 x2 h0) := by
  refine Con.mk hw pn1 (fun mid => ef1n3 mid a s) (Go.old fun hle' => ?_)
  have hle := hle'.1
  refine Go.aloadN 1 rfl d1_0 rfl rfl ?_
  refine Go.aloadN 2 rfl d1_1 rfl rfl ?_
  refine Go.iconst 3 rfl (0 : Int32) d1_2 rfl ?_
  refine Go.aloadN 4 rfl d1_3 rfl rfl ?_
  refine Go.alen 5 rfl (3 : Int32) d1_4 hA rfl ?_
  refine Go.aconstNull 6 rfl d1_5 ?_
  refine Go.callI 9 rfl (C := B2) a [.ref s, .int (0 : Int32), .int (3 : Int32), .null] (rest := []) 7 8 2 10 (c2n3 Z hw h0 a s x0 x1 x2 cs hS hcs hAs hHi hLo hge hE hV hC hA hx0 hx1 hx2) d1_6 rfl rfl rfl rfl rfl rfl (by decide) pd2 rfl rfl rfl (W := 0) (Nat.le_of_ble_eq_true rfl) (by decide) (by decide) (by decide) (by decide) fun v1 h2 q3 => ?_
  obtain ⟨rfl, t, g, K, F, D⟩ := q3
  exact Go.retV d1_9 rfl (by decide) (by decide) ⟨rfl, t, g, K, F, D⟩
theorem ef18n2 (mid : MethodId)  : entryFrame mid (List.toArray [.int (2 : Int32)]) 1 = mkF mid 0 #[.val (.int (2 : Int32))] [] := by first | (simp [entryFrame, mkF, argsToLocals, Value.category]; done) | rfl
def Q18n2 (h0 : Heap) (v : Option Value) (h : Heap) : Prop := v = some (.int (4 : Int32)) ∧ h0 = h
set_option maxRecDepth 65536 in
set_option maxHeartbeats 40000000 in
theorem c18n2 (Z : State) (hw : Wd Z tables_1) (h0 : Heap)    : Con Z B18 (List.toArray [.int (2 : Int32)]) h0 (Q18n2 h0) := by
  refine Con.mk hw pn18 (fun mid => ef18n2 mid ) (Go.old fun hle' => ?_)
  have hle := hle'.1
  refine Go.iloadN 1 rfl d18_0 rfl ?_
  refine Go.if_ge 12 4 d18_1 (by decide) rfl rfl (fun (b1 : ¬ (2 : Int32) < 0) => ?_) (fun (b1 : (2 : Int32) < 0) => ?_)
  · refine Go.iloadN 13 rfl d18_12 rfl ?_
    refine Go.ldcI 15 rfl (v := (1073741823 : Int32)) 90 d18_13 rfl ?_
    refine Go.icmp_lt 55 18 d18_15 (by decide) rfl rfl (fun (b2 : (2 : Int32) < (1073741823 : Int32)) => ?_) (fun (b2 : ¬ (2 : Int32) < (1073741823 : Int32)) => ?_)
    · refine Go.iloadN 56 rfl d18_55 rfl ?_
      refine Go.iconst 57 rfl (1 : Int32) d18_56 rfl ?_
      refine Go.ishl 58 rfl d18_57 ?_
      refine Go.eqI (w := 4) (by decide) ?_
      exact Go.retI d18_58 rfl (by decide) (by decide) ⟨rfl, rfl⟩
    · exact absurd (show (2 : Int32) < (1073741823 : Int32) from by decide) b2
  · exact absurd b1 (show ¬ (2 : Int32) < 0 from by decide)
theorem ef17n2 (mid : MethodId)  : entryFrame mid (List.toArray [.int (2 : Int32)]) 1 = mkF mid 0 #[.val (.int (2 : Int32))] [] := by first | (simp [entryFrame, mkF, argsToLocals, Value.category]; done) | rfl
def Q17n2 (Z : State) (h0 : Heap) (v : Option Value) (h : Heap) : Prop := ∃ t, v = some (.ref t) ∧ h0.size ≤ t ∧ Keep h0 h [] ∧ Ary Z h t .byte (IL [0, 0, 0, 0])
set_option maxRecDepth 65536 in
set_option maxHeartbeats 40000000 in
theorem c17n2 (Z : State) (hw : Wd Z tables_1) (h0 : Heap)    : Con Z B17 (List.toArray [.int (2 : Int32)]) h0 (Q17n2 Z h0) := by
  refine Con.mk hw pn17 (fun mid => ef17n2 mid ) (Go.old fun hle' => ?_)
  have hle := hle'.1
  refine Go.iloadN 1 rfl d17_0 rfl ?_
  refine Go.callS 4 rfl (C := B18) [.int (2 : Int32)] (rest := []) 87 88 25 89 (c18n2 Z hw h0) d17_1 rfl rfl rfl rfl (by decide) pd18 rfl rfl rfl (W := 0) (Nat.le_of_ble_eq_true rfl) (by decide) (by decide) (by decide) (by decide) fun v1 h2 q3 => ?_
  obtain ⟨rfl, rfl⟩ := q3
  refine Go.newA 6 rfl 15 4 4 d17_4 rfl rfl (by decide) (by decide) (by decide) (by decide) fun h5 a4 g6 z7 K8 A9 E10 => ?_
  have A11 : Ary Z h5 a4 .byte [.int 0, .int 0, .int 0, .int 0] := A9
  exact Go.retA d17_6 rfl rfl rfl (by decide) (by decide) ⟨a4, rfl, Nat.le_of_eq g6.symm, ((Keep.refl h0 []).trans K8 all0), A11⟩
theorem ef16n2 (mid : MethodId) (s : Addr) : entryFrame mid (List.toArray [.ref s, .int (0 : Int32), .int (2 : Int32)]) 5 = mkF mid 0 #[.val (.ref s), .val (.int (0 : Int32)), .val (.int (2 : Int32)), .unset, .unset] [] := by first | (simp [entryFrame, mkF, argsToLocals, Value.category]; done) | rfl
def Q16n2 (Z : State) (x0 : Int32) (x1 : Int32) (h0 : Heap) (v : Option Value) (h : Heap) : Prop := ∃ t, v = some (.ref t) ∧ h0.size ≤ t ∧ Keep h0 h [] ∧ Ary Z h t .byte (IL [lo x0, hi x0, lo x1, hi x1])
set_option maxRecDepth 65536 in
set_option maxHeartbeats 40000000 in
theorem c16n2 (Z : State) (hw : Wd Z tables_1) (h0 : Heap) (s : Addr) (x0 : Int32) (x1 : Int32) (hAs : Sta Z Z.heap "java/lang/StringUTF16" "$assertionsDisabled" "Z" (.int 1)) (hHi : Sta Z Z.heap "java/lang/StringUTF16" "HI_BYTE_SHIFT" "I" (.int 0)) (hLo : Sta Z Z.heap "java/lang/StringUTF16" "LO_BYTE_SHIFT" "I" (.int 8)) (hA : Ary Z h0 s .char [.int x0, .int x1]) : Con Z B16 (List.toArray [.ref s, .int (0 : Int32), .int (2 : Int32)]) h0 (Q16n2 Z x0 x1 h0) := by
  refine Con.mk hw pn16 (fun mid => ef16n2 mid s) (Go.old fun hle' => ?_)
  have hle := hle'.1
  refine Go.iloadN 1 rfl d16_0 rfl ?_
  refine Go.callS 4 rfl (C := B17) [.int (2 : Int32)] (rest := []) 84 85 25 86 (c17n2 Z hw h0) d16_1 rfl rfl rfl rfl (by decide) pd17 rfl rfl rfl (W := 0) (Nat.le_of_ble_eq_true rfl) (by decide) (by decide) (by decide) (by decide) fun v1 h2 q3 => ?_
  obtain ⟨t, rfl, g, K, A⟩ := q3
  have z4 : Z.heap.size ≤ t := Nat.le_trans hle g
  refine Go.astoreN 5 rfl d16_4 rfl (Ls' := #[.val (.ref s), .val (.int (0 : Int32)), .val (.int (2 : Int32)), .val (.ref t), .unset]) rfl ?_
  refine Go.iconst 6 rfl (0 : Int32) d16_5 rfl ?_
  refine Go.istore 8 rfl d16_6 (Ls' := #[.val (.ref s), .val (.int (0 : Int32)), .val (.int (2 : Int32)), .val (.ref t), .val (.int (0 : Int32))]) rfl ?_
  refine Go.iload 10 rfl d16_8 rfl ?_
  refine Go.iloadN 11 rfl d16_10 rfl ?_
  refine Go.icmp_ge 32 14 d16_11 (by decide) rfl rfl (fun (b5 : ¬ (0 : Int32) < (2 : Int32)) => ?_) (fun (b5 : (0 : Int32) < (2 : Int32)) => ?_)
  · exact absurd (show (0 : Int32) < (2 : Int32) from by decide) b5
  · refine Go.aloadN 15 rfl d16_14 rfl rfl ?_
    refine Go.iload 17 rfl d16_15 rfl ?_
    refine Go.aloadN 18 rfl d16_17 rfl rfl ?_
    refine Go.iloadN 19 rfl d16_18 rfl ?_
    have F6 : Ary Z h2 s .char [.int x0, .int x1] := (hA.keep K nin0)
    refine Go.caload 20 rfl x0 d16_19 F6 0 rfl rfl ?_
    refine Go.callS 23 rfl (C := B19) [.ref t, .int (0 : Int32), .int x0] (rest := []) 91 92 25 93 (c19 Z hw h2 t (0 : Int32) x0 [0, 0, 0, 0] 0 rfl (by decide) hAs hHi hLo z4 (Nat.le_of_ble_eq_true rfl) A) d16_20 rfl rfl rfl rfl (by decide) pd19 rfl rfl rfl (W := 0) (Nat.le_of_ble_eq_true rfl) (by decide) (by decide) (by decide) (by decide) fun v7 h8 q9 => ?_
    obtain ⟨rfl, K10, A11⟩ := q9
    have A12 : Ary Z h8 t .byte (IL [lo x0, hi x0, 0, 0]) := A11
    refine Go.iinc 26 rfl (1 : Int32) d16_23 rfl rfl (Ls' := #[.val (.ref s), .val (.int ((0 : Int32) + (1 : Int32))), .val (.int (2 : Int32)), .val (.ref t), .val (.int (0 : Int32))]) rfl ?_
    refine Go.iinc 29 rfl (1 : Int32) d16_26 rfl rfl (Ls' := #[.val (.ref s), .val (.int ((0 : Int32) + (1 : Int32))), .val (.int (2 : Int32)), .val (.ref t), .val (.int ((0 : Int32) + (1 : Int32)))]) rfl ?_
    refine Go.goto 8 d16_29 (by decide) (by decide) ?_
    refine Go.iload 10 rfl d16_8 rfl ?_
    refine Go.iloadN 11 rfl d16_10 rfl ?_
    refine Go.icmp_ge 32 14 d16_11 (by decide) rfl rfl (fun (b13 : ¬ ((0 : Int32) + (1 : Int32)) < (2 : Int32)) => ?_) (fun (b13 : ((0 : Int32) + (1 : Int32)) < (2 : Int32)) => ?_)
    · exact absurd (show ((0 : Int32) + (1 : Int32)) < (2 : Int32) from by decide) b13
    · refine Go.aloadN 15 rfl d16_14 rfl rfl ?_
      refine Go.iload 17 rfl d16_15 rfl ?_
      refine Go.aloadN 18 rfl d16_17 rfl rfl ?_
      refine Go.iloadN 19 rfl d16_18 rfl ?_
      have ne14 : s ≠ t := (show @Ne Nat s t from by have := ltN hA.lt; have := g; omega)
      have F15 : Ary Z h8 s .char [.int x0, .int x1] := (F6.keep K10 (ninS ne14 nin0))
      refine Go.caload 20 rfl x1 d16_19 F15 1 rfl rfl ?_
      refine Go.callS 23 rfl (C := B19) [.ref t, .int ((0 : Int32) + (1 : Int32)), .int x1] (rest := []) 91 92 25 93 (c19 Z hw h8 t ((0 : Int32) + (1 : Int32)) x1 [lo x0, hi x0, 0, 0] 1 rfl (by decide) hAs hHi hLo z4 (Nat.le_of_ble_eq_true rfl) A12) d16_20 rfl rfl rfl rfl (by decide) pd19 rfl rfl rfl (W := 0) (Nat.le_of_ble_eq_true rfl) (by decide) (by decide) (by decide) (by decide) fun v16 h17 q18 => ?_
      obtain ⟨rfl, K19, A20⟩ := q18
      have A21 : Ary Z h17 t .byte (IL [lo x0, hi x0, lo x1, hi x1]) := A20
      refine Go.iinc 26 rfl (1 : Int32) d16_23 rfl rfl (Ls' := #[.val (.ref s), .val (.int (((0 : Int32) + (1 : Int32)) + (1 : Int32))), .val (.int (2 : Int32)), .val (.ref t), .val (.int ((0 : Int32) + (1 : Int32)))]) rfl ?_
      refine Go.iinc 29 rfl (1 : Int32) d16_26 rfl rfl (Ls' := #[.val (.ref s), .val (.int (((0 : Int32) + (1 : Int32)) + (1 : Int32))), .val (.int (2 : Int32)), .val (.ref t), .val (.int (((0 : Int32) + (1 : Int32)) + (1 : Int32)))]) rfl ?_
      refine Go.goto 8 d16_29 (by decide) (by decide) ?_
      refine Go.iload 10 rfl d16_8 rfl ?_
      refine Go.iloadN 11 rfl d16_10 rfl ?_
      refine Go.icmp_ge 32 14 d16_11 (by decide) rfl rfl (fun (b22 : ¬ (((0 : Int32) + (1 : Int32)) + (1 : Int32)) < (2 : Int32)) => ?_) (fun (b22 : (((0 : Int32) + (1 : Int32)) + (1 : Int32)) < (2 : Int32)) => ?_)
      · refine Go.aloadN 33 rfl d16_32 rfl rfl ?_
        exact Go.retA d16_33 rfl rfl rfl (by decide) (by decide) ⟨t, rfl, g, ((((Keep.refl h0 []).trans K all0).trans K10 (allS (Or.inr (by have := K.1; have := g; omega)) all0)).trans K19 (allS (Or.inr (by have := K.1; have := K10.1; have := g; omega)) all0)), A21⟩
      · exact absurd b22 (show ¬ (((0 : Int32) + (1 : Int32)) + (1 : Int32)) < (2 : Int32) from by decide)
theorem ef5n2 (mid : MethodId) (s : Addr) (t : Addr) : entryFrame mid (List.toArray [.ref s, .int (0 : Int32), .ref t, .int (0 : Int32), .int (2 : Int32)]) 7 = mkF mid 0 #[.val (.ref s), .val (.int (0 : Int32)), .val (.ref t), .val (.int (0 : Int32)), .val (.int (2 : Int32)), .unset, .unset] [] := by first | (simp [entryFrame, mkF, argsToLocals, Value.category]; done) | rfl
def Q5n2 (Z : State) (t : Addr) (x0 : Int32) (x1 : Int32) (h0 : Heap) (v : Option Value) (h : Heap) : Prop := ∃ r, v = some (.int r) ∧ Keep h0 h [t] ∧ ((r = (2 : Int32) ∧ ¬ (255 : Int32) < x0 ∧ ¬ (255 : Int32) < x1 ∧ Ary Z h t .byte (IL [l1 x0, l1 x1])) ∨ ∃ i : Nat, i < 2 ∧ r = Int32.ofNat i ∧ (255 : Int32) < ([x0, x1] : List Int32).getD i 0)
set_option maxRecDepth 65536 in
set_option maxHeartbeats 40000000 in
theorem c5n2 (Z : State) (hw : Wd Z tables_1) (h0 : Heap) (s : Addr) (t : Addr) (x0 : Int32) (x1 : Int32) (hA : Ary Z h0 s .char [.int x0, .int x1]) (hB : Ary Z h0 t .byte [.int 0, .int 0]) (hgt : Z.heap.size ≤ t) (hne : s ≠ t) : Con Z B5 (List.toArray [.ref s, .int (0 : Int32), .ref t, .int (0 : Int32), .int (2 : Int32)]) h0 (Q5n2 Z t x0 x1 h0) := by
  refine Con.mk hw pn5 (fun mid => ef5n2 mid s t) (Go.old fun hle' => ?_)
  have hle := hle'.1
  refine Go.iconst 1 rfl (0 : Int32) d5_0 rfl ?_
  refine Go.istore 3 rfl d5_1 (Ls' := #[.val (.ref s), .val (.int (0 : Int32)), .val (.ref t), .val (.int (0 : Int32)), .val (.int (2 : Int32)), .val (.int (0 : Int32)), .unset]) rfl ?_
  refine Go.iload 5 rfl d5_3 rfl ?_
  refine Go.iload 7 rfl d5_5 rfl ?_
  refine Go.icmp_ge 44 10 d5_7 (by decide) rfl rfl (fun (b1 : ¬ (0 : Int32) < (2 : Int32)) => ?_) (fun (b1 : (0 : Int32) < (2 : Int32)) => ?_)
  · exact absurd (show (0 : Int32) < (2 : Int32) from by decide) b1
  · refine Go.aloadN 11 rfl d5_10 rfl rfl ?_
    refine Go.iloadN 12 rfl d5_11 rfl ?_
    refine Go.caload 13 rfl x0 d5_12 hA 0 rfl rfl ?_
    refine Go.istore 15 rfl d5_13 (Ls' := #[.val (.ref s), .val (.int (0 : Int32)), .val (.ref t), .val (.int (0 : Int32)), .val (.int (2 : Int32)), .val (.int (0 : Int32)), .val (.int x0)]) rfl ?_
    refine Go.iload 17 rfl d5_15 rfl ?_
    refine Go.sipush 20 rfl (255 : Int32) d5_17 rfl ?_
    refine Go.icmp_le 26 23 d5_20 (by decide) rfl rfl (fun (b2 : ¬ (255 : Int32) < x0) => ?_) (fun (b2 : (255 : Int32) < x0) => ?_)
    · refine Go.aloadN 27 rfl d5_26 rfl rfl ?_
      refine Go.iloadN 28 rfl d5_27 rfl ?_
      refine Go.iload 30 rfl d5_28 rfl ?_
      refine Go.i2b 31 rfl d5_30 ?_
      refine Go.stB 32 rfl d5_31 hB 0 rfl (Nat.le_of_ble_eq_true rfl) hgt fun h3 K4 A5 => ?_
      have A6 : Ary Z h3 t .byte [.int (nar .byte x0.toInt8.toInt32), .int 0] := A5
      refine Go.iinc 35 rfl (1 : Int32) d5_32 rfl rfl (Ls' := #[.val (.ref s), .val (.int ((0 : Int32) + (1 : Int32))), .val (.ref t), .val (.int (0 : Int32)), .val (.int (2 : Int32)), .val (.int (0 : Int32)), .val (.int x0)]) rfl ?_
      refine Go.iinc 38 rfl (1 : Int32) d5_35 rfl rfl (Ls' := #[.val (.ref s), .val (.int ((0 : Int32) + (1 : Int32))), .val (.ref t), .val (.int ((0 : Int32) + (1 : Int32))), .val (.int (2 : Int32)), .val (.int (0 : Int32)), .val (.int x0)]) rfl ?_
      refine Go.iinc 41 rfl (1 : Int32) d5_38 rfl rfl (Ls' := #[.val (.ref s), .val (.int ((0 : Int32) + (1 : Int32))), .val (.ref t), .val (.int ((0 : Int32) + (1 : Int32))), .val (.int (2 : Int32)), .val (.int ((0 : Int32) + (1 : Int32))), .val (.int x0)]) rfl ?_
      refine Go.goto 3 d5_41 (by decide) (by decide) ?_
      refine Go.iload 5 rfl d5_3 rfl ?_
      refine Go.iload 7 rfl d5_5 rfl ?_
      refine Go.icmp_ge 44 10 d5_7 (by decide) rfl rfl (fun (b7 : ¬ ((0 : Int32) + (1 : Int32)) < (2 : Int32)) => ?_) (fun (b7 : ((0 : Int32) + (1 : Int32)) < (2 : Int32)) => ?_)
      · exact absurd (show ((0 : Int32) + (1 : Int32)) < (2 : Int32) from by decide) b7
      · refine Go.aloadN 11 rfl d5_10 rfl rfl ?_
        refine Go.iloadN 12 rfl d5_11 rfl ?_
        have F8 : Ary Z h3 s .char [.int x0, .int x1] := (hA.keep K4 (ninS hne nin0))
        refine Go.caload 13 rfl x1 d5_12 F8 1 rfl rfl ?_
        refine Go.istore 15 rfl d5_13 (Ls' := #[.val (.ref s), .val (.int ((0 : Int32) + (1 : Int32))), .val (.ref t), .val (.int ((0 : Int32) + (1 : Int32))), .val (.int (2 : Int32)), .val (.int ((0 : Int32) + (1 : Int32))), .val (.int x1)]) rfl ?_
        refine Go.iload 17 rfl d5_15 rfl ?_
        refine Go.sipush 20 rfl (255 : Int32) d5_17 rfl ?_
        refine Go.icmp_le 26 23 d5_20 (by decide) rfl rfl (fun (b9 : ¬ (255 : Int32) < x1) => ?_) (fun (b9 : (255 : Int32) < x1) => ?_)
        · refine Go.aloadN 27 rfl d5_26 rfl rfl ?_
          refine Go.iloadN 28 rfl d5_27 rfl ?_
          refine Go.iload 30 rfl d5_28 rfl ?_
          refine Go.i2b 31 rfl d5_30 ?_
          refine Go.stB 32 rfl d5_31 A6 1 rfl (Nat.le_of_ble_eq_true rfl) hgt fun h10 K11 A12 => ?_
          have A13 : Ary Z h10 t .byte [.int (nar .byte x0.toInt8.toInt32), .int (nar .byte x1.toInt8.toInt32)] := A12
          refine Go.iinc 35 rfl (1 : Int32) d5_32 rfl rfl (Ls' := #[.val (.ref s), .val (.int (((0 : Int32) + (1 : Int32)) + (1 : Int32))), .val (.ref t), .val (.int ((0 : Int32) + (1 : Int32))), .val (.int (2 : Int32)), .val (.int ((0 : Int32) + (1 : Int32))), .val (.int x1)]) rfl ?_
          refine Go.iinc 38 rfl (1 : Int32) d5_35 rfl rfl (Ls' := #[.val (.ref s), .val (.int (((0 : Int32) + (1 : Int32)) + (1 : Int32))), .val (.ref t), .val (.int (((0 : Int32) + (1 : Int32)) + (1 : Int32))), .val (.int (2 : Int32)), .val (.int ((0 : Int32) + (1 : Int32))), .val (.int x1)]) rfl ?_
          refine Go.iinc 41 rfl (1 : Int32) d5_38 rfl rfl (Ls' := #[.val (.ref s), .val (.int (((0 : Int32) + (1 : Int32)) + (1 : Int32))), .val (.ref t), .val (.int (((0 : Int32) + (1 : Int32)) + (1 : Int32))), .val (.int (2 : Int32)), .val (.int (((0 : Int32) + (1 : Int32)) + (1 : Int32))), .val (.int x1)]) rfl ?_
          refine Go.goto 3 d5_41 (by decide) (by decide) ?_
          refine Go.iload 5 rfl d5_3 rfl ?_
          refine Go.iload 7 rfl d5_5 rfl ?_
          refine Go.icmp_ge 44 10 d5_7 (by decide) rfl rfl (fun (b14 : ¬ (((0 : Int32) + (1 : Int32)) + (1 : Int32)) < (2 : Int32)) => ?_) (fun (b14 : (((0 : Int32) + (1 : Int32)) + (1 : Int32)) < (2 : Int32)) => ?_)
          · refine Go.iload 46 rfl d5_44 rfl ?_
            exact Go.retI d5_46 rfl (by decide) (by decide) ⟨_, rfl, (((Keep.refl h0 [t]).trans K4 (by simp)).trans K11 (by simp)), Or.inl ⟨rfl, b2, b9, A13⟩⟩
          · exact absurd b14 (show ¬ (((0 : Int32) + (1 : Int32)) + (1 : Int32)) < (2 : Int32) from by decide)
        · refine Go.iload 25 rfl d5_23 rfl ?_
          refine Go.eqI (w := 1) (by decide) ?_
          exact Go.retI d5_25 rfl (by decide) (by decide) ⟨_, rfl, ((Keep.refl h0 [t]).trans K4 (by simp)), Or.inr ⟨1, by decide, rfl, b9⟩⟩
    · refine Go.iload 25 rfl d5_23 rfl ?_
      refine Go.eqI (w := 0) (by decide) ?_
      exact Go.retI d5_25 rfl (by decide) (by decide) ⟨_, rfl, (Keep.refl h0 [t]), Or.inr ⟨0, by decide, rfl, b2⟩⟩
theorem ef4n2 (mid : MethodId) (s : Addr) : entryFrame mid (List.toArray [.ref s, .int (0 : Int32), .int (2 : Int32)]) 6 = mkF mid 0 #[.val (.ref s), .val (.int (0 : Int32)), .val (.int (2 : Int32)), .unset, .unset, .unset] [] := by first | (simp [entryFrame, mkF, argsToLocals, Value.category]; done) | rfl
def Q4n2 (Z : State) (x0 : Int32) (x1 : Int32) (h0 : Heap) (v : Option Value) (h : Heap) : Prop := ∃ t, v = some (.ref t) ∧ h0.size ≤ t ∧ Keep h0 h [] ∧ ((¬ (255 : Int32) < x0 ∧ ¬ (255 : Int32) < x1 ∧ Ary Z h t .byte (IL [l1 x0, l1 x1])) ∨ Ary Z h t .byte (IL [lo x0, hi x0, lo x1, hi x1]))
set_option maxRecDepth 65536 in
set_option maxHeartbeats 40000000 in
theorem c4n2 (Z : State) (hw : Wd Z tables_1) (h0 : Heap) (s : Addr) (x0 : Int32) (x1 : Int32) (hAs : Sta Z Z.heap "java/lang/StringUTF16" "$assertionsDisabled" "Z" (.int 1)) (hHi : Sta Z Z.heap "java/lang/StringUTF16" "HI_BYTE_SHIFT" "I" (.int 0)) (hLo : Sta Z Z.heap "java/lang/StringUTF16" "LO_BYTE_SHIFT" "I" (.int 8)) (hA : Ary Z h0 s .char [.int x0, .int x1]) (hx0 : Ch x0) (hx1 : Ch x1) : Con Z B4 (List.toArray [.ref s, .int (0 : Int32), .int (2 : Int32)]) h0 (Q4n2 Z x0 x1 h0) := by
  refine Con.mk hw pn4 (fun mid => ef4n2 mid s) (Go.old fun hle' => ?_)
  have hle := hle'.1
  refine Go.iloadN 1 rfl d4_0 rfl ?_
  refine Go.newA 3 rfl 15 2 2 d4_1 rfl rfl (by decide) (by decide) (by decide) (by decide) fun h2 a1 g3 z4 K5 A6 E7 => ?_
  have A8 : Ary Z h2 a1 .byte [.int 0, .int 0] := A6
  refine Go.astoreN 4 rfl d4_3 rfl (Ls' := #[.val (.ref s), .val (.int (0 : Int32)), .val (.int (2 : Int32)), .val (.ref a1), .unset, .unset]) rfl ?_
  refine Go.aloadN 5 rfl d4_4 rfl rfl ?_
  refine Go.iloadN 6 rfl d4_5 rfl ?_
  refine Go.aloadN 7 rfl d4_6 rfl rfl ?_
  refine Go.iconst 8 rfl (0 : Int32) d4_7 rfl ?_
  refine Go.iloadN 9 rfl d4_8 rfl ?_
  have F9 : Ary Z h2 s .char [.int x0, .int x1] := (hA.keep K5 nin0)
  have ne10 : s ≠ a1 := (show @Ne Nat s a1 from by have := ltN hA.lt; have := g3; omega)
  refine Go.callS 12 rfl (C := B5) [.ref s, .int (0 : Int32), .ref a1, .int (0 : Int32), .int (2 : Int32)] (rest := []) 27 28 25 29 (c5n2 Z hw h2 s a1 x0 x1 F9 A8 z4 ne10) d4_9 rfl rfl rfl rfl (by decide) pd5 rfl rfl rfl (W := 0) (Nat.le_of_ble_eq_true rfl) (by decide) (by decide) (by decide) (by decide) fun v11 h12 q13 => ?_
  obtain ⟨r, rfl, KQ5, DQ5⟩ := q13
  refine Go.istore 14 rfl d4_12 (Ls' := #[.val (.ref s), .val (.int (0 : Int32)), .val (.int (2 : Int32)), .val (.ref a1), .val (.int r), .unset]) rfl ?_
  refine Go.iload 16 rfl d4_14 rfl ?_
  refine Go.iloadN 17 rfl d4_16 rfl ?_
  rcases DQ5 with ⟨rfl, lg0, lg1, AQ5⟩ | ⟨i, hin, rfl, hbig⟩
  · refine Go.icmp_eq 57 20 d4_17 (by decide) rfl rfl (fun (b14 : (2 : Int32) = (2 : Int32)) => ?_) (fun (b14 : ¬ (2 : Int32) = (2 : Int32)) => ?_)
    · refine Go.aloadN 58 rfl d4_57 rfl rfl ?_
      exact Go.retA d4_58 rfl rfl rfl (by decide) (by decide) ⟨a1, rfl, Nat.le_of_eq g3.symm, (((Keep.refl h0 []).trans K5 all0).trans KQ5 (allS (Or.inr (by have := K5.1; have := g3; omega)) all0)), Or.inl ⟨lg0, lg1, AQ5⟩⟩
    · exact absurd (show (2 : Int32) = (2 : Int32) from by decide) b14
  · refine Go.icmp_eq 57 20 d4_17 (by decide) rfl rfl (fun (b15 : (Int32.ofNat i) = (2 : Int32)) => ?_) (fun (b15 : ¬ (Int32.ofNat i) = (2 : Int32)) => ?_)
    · exact absurd b15 (own_ofne hin (by decide))
    · refine Go.aloadN 21 rfl d4_20 rfl rfl ?_
      refine Go.iloadN 22 rfl d4_21 rfl ?_
      refine Go.iloadN 23 rfl d4_22 rfl ?_
      have F16 : Ary Z h12 s .char [.int x0, .int x1] := (F9.keep KQ5 (ninS ne10 nin0))
      refine Go.callS 26 rfl (C := B16) [.ref s, .int (0 : Int32), .int (2 : Int32)] (rest := []) 81 82 25 83 (c16n2 Z hw h12 s x0 x1 hAs hHi hLo F16) d4_23 rfl rfl rfl rfl (by decide) pd16 rfl rfl rfl (W := 0) (Nat.le_of_ble_eq_true rfl) (by decide) (by decide) (by decide) (by decide) fun v17 h18 q19 => ?_
      obtain ⟨u, rfl, gu, Ku, Au⟩ := q19
      have z20 : Z.heap.size ≤ u := Nat.le_trans (Nat.le_trans (Nat.le_trans hle K5.1) KQ5.1) gu
      refine Go.astore 28 rfl d4_26 rfl (Ls' := #[.val (.ref s), .val (.int (0 : Int32)), .val (.int (2 : Int32)), .val (.ref a1), .val (.int (Int32.ofNat i)), .val (.ref u)]) rfl ?_
      refine Go.aload 30 rfl d4_28 rfl rfl ?_
      refine Go.iload 32 rfl d4_30 rfl ?_
      refine Go.callS 35 rfl (C := B20) [.ref u, .int (Int32.ofNat i)] (rest := []) 97 98 25 99 (c20 Z hw h18 u (Int32.ofNat i) [lo x0, hi x0, lo x1, hi x1] i (len_ofNat (by omega)) (by omega) hAs hHi hLo (by show 2 * i + 1 < 4; omega) Au) d4_32 rfl rfl rfl rfl (by decide) pd20 rfl rfl rfl (W := 0) (Nat.le_of_ble_eq_true rfl) (by decide) (by decide) (by decide) (by decide) fun v21 h22 q23 => ?_
      obtain ⟨rfl, rfl⟩ := q23
      refine Go.eqI (w := ([x0, x1] : List Int32).getD i 0) (own_gc2 hin hx0 hx1) ?_
      refine Go.sipush 38 rfl (255 : Int32) d4_35 rfl ?_
      refine Go.icmp_gt 54 41 d4_38 (by decide) rfl rfl (fun (b24 : (255 : Int32) < (([x0, x1] : List Int32).getD i 0)) => ?_) (fun (b24 : ¬ (255 : Int32) < (([x0, x1] : List Int32).getD i 0)) => ?_)
      · refine Go.aload 56 rfl d4_54 rfl rfl ?_
        exact Go.retA d4_56 rfl rfl rfl (by decide) (by decide) ⟨u, rfl, (by have := K5.1; have := KQ5.1; have := gu; omega), ((((Keep.refl h0 []).trans K5 all0).trans KQ5 (allS (Or.inr (by have := K5.1; have := g3; omega)) all0)).trans Ku all0), Or.inr Au⟩
      · exact absurd hbig b24
theorem ef6n2k0 (mid : MethodId) (t : Addr) : entryFrame mid (List.toArray [.ref t, .int (2 : Int32)]) 2 = mkF mid 0 #[.val (.ref t), .val (.int (2 : Int32))] [] := by first | (simp [entryFrame, mkF, argsToLocals, Value.category]; done) | rfl
def Q6n2k0 (h0 : Heap) (v : Option Value) (h : Heap) : Prop := v = some (.int 0) ∧ h0 = h
set_option maxRecDepth 65536 in
set_option maxHeartbeats 40000000 in
theorem c6n2k0 (Z : State) (hw : Wd Z tables_1) (h0 : Heap) (t : Addr)  (vs : List Value) (hB : Ary Z h0 t .byte vs) (hl : vs.length = 2) : Con Z B6 (List.toArray [.ref t, .int (2 : Int32)]) h0 (Q6n2k0 h0) := by
  refine Con.mk hw pn6 (fun mid => ef6n2k0 mid t) (Go.old fun hle' => ?_)
  have hle := hle'.1
  refine Go.iloadN 1 rfl d6_0 rfl ?_
  refine Go.aloadN 2 rfl d6_1 rfl rfl ?_
  refine Go.alen 3 rfl (2 : Int32) d6_2 hB (by rw [hl]; rfl) ?_
  refine Go.isub 4 rfl d6_3 ?_
  refine Go.bipush 6 rfl (31 : Int32) d6_4 rfl ?_
  refine Go.iushr 7 rfl d6_6 ?_
  refine Go.i2b 8 rfl d6_7 ?_
  exact Go.retN (t := .byte) (z' := 0) d6_8 rfl (by decide) (by decide) (by decide) (by decide) ⟨rfl, rfl⟩
theorem ef6n2k1 (mid : MethodId) (t : Addr) : entryFrame mid (List.toArray [.ref t, .int (2 : Int32)]) 2 = mkF mid 0 #[.val (.ref t), .val (.int (2 : Int32))] [] := by first | (simp [entryFrame, mkF, argsToLocals, Value.category]; done) | rfl
def Q6n2k1 (h0 : Heap) (v : Option Value) (h : Heap) : Prop := v = some (.int 1) ∧ h0 = h
set_option maxRecDepth 65536 in
set_option maxHeartbeats 40000000 in
theorem c6n2k1 (Z : State) (hw : Wd Z tables_1) (h0 : Heap) (t : Addr)  (vs : List Value) (hB : Ary Z h0 t .byte vs) (hl : vs.length = 4) : Con Z B6 (List.toArray [.ref t, .int (2 : Int32)]) h0 (Q6n2k1 h0) := by
  refine Con.mk hw pn6 (fun mid => ef6n2k1 mid t) (Go.old fun hle' => ?_)
  have hle := hle'.1
  refine Go.iloadN 1 rfl d6_0 rfl ?_
  refine Go.aloadN 2 rfl d6_1 rfl rfl ?_
  refine Go.alen 3 rfl (4 : Int32) d6_2 hB (by rw [hl]; rfl) ?_
  refine Go.isub 4 rfl d6_3 ?_
  refine Go.bipush 6 rfl (31 : Int32) d6_4 rfl ?_
  refine Go.iushr 7 rfl d6_6 ?_
  refine Go.i2b 8 rfl d6_7 ?_
  exact Go.retN (t := .byte) (z' := 1) d6_8 rfl (by decide) (by decide) (by decide) (by decide) ⟨rfl, rfl⟩
theorem ef2n2 (mid : MethodId) (a : Addr) (s : Addr) : entryFrame mid (List.toArray [.ref a, .ref s, .int (0 : Int32), .int (2 : Int32), .null]) 6 = mkF mid 0 #[.val (.ref a), .val (.ref s), .val (.int (0 : Int32)), .val (.int (2 : Int32)), .val (.null), .unset] [] := by first | (simp [entryFrame, mkF, argsToLocals, Value.category]; done) | rfl
def Q2n2 (Z : State) (a : Addr) (x0 : Int32) (x1 : Int32) (h0 : Heap) (v : Option Value) (h : Heap) : Prop := v = none ∧ ∃ t, h0.size ≤ t ∧ Keep h0 h [a] ∧ Fld Z h a "java/lang/String" "value" "[B" (.ref t) ∧ ((Fld Z h a "java/lang/String" "coder" "B" (.int 0) ∧ ¬ (255 : Int32) < x0 ∧ ¬ (255 : Int32) < x1 ∧ Ary Z h t .byte (IL [l1 x0, l1 x1])) ∨ (Fld Z h a "java/lang/String" "coder" "B" (.int 1) ∧ Ary Z h t .byte (IL [lo x0, hi x0, lo x1, hi x1])))
set_option maxRecDepth 65536 in
set_option maxHeartbeats 40000000 in
theorem c2n2 (Z : State) (hw : Wd Z tables_1) (h0 : Heap) (a : Addr) (s : Addr) (x0 : Int32) (x1 : Int32) (cs : Int32) (hS : Sta Z Z.heap "java/lang/String" "COMPACT_STRINGS" "Z" (.int cs)) (hcs : ¬ cs = 0) (hAs : Sta Z Z.heap "java/lang/StringUTF16" "$assertionsDisabled" "Z" (.int 1)) (hHi : Sta Z Z.heap "java/lang/StringUTF16" "HI_BYTE_SHIFT" "I" (.int 0)) (hLo : Sta Z Z.heap "java/lang/StringUTF16" "LO_BYTE_SHIFT" "I" (.int 8)) (hge : Z.heap.size ≤ a) (hE : Exa Z h0 a "java/lang/String") (hV : Fld Z h0 a "java/lang/String" "value" "[B" .null) (hC : Fld Z h0 a "java/lang/String" "coder" "B" (.int 0)) (hA : Ary Z h0 s .char [.int x0, .int x1]) (hx0 : Ch x0) (hx1 : Ch x1) : Con Z B2 (List.toArray [.ref a, .ref s, .int (0 : Int32), .int (2 : Int32), .null]) h0 (Q2n2 Z a x0 x1 h0) := by
  refine Con.mk hw pn2 (fun mid => ef2n2 mid a s) (Go.old fun hle' => ?_)
  have hle := hle'.1
  refine Go.aloadN 1 rfl d2_0 rfl rfl ?_
  refine Go.initO 4 rfl 11 12 13 d2_1 rfl rfl rfl rfl (by decide) (W := 0) (Nat.le_of_ble_eq_true rfl) (by decide) ?_
  refine Go.iloadN 5 rfl d2_4 rfl ?_
  refine Go.if_ne 27 8 d2_5 (by decide) rfl rfl (fun (b1 : ¬ (2 : Int32) = 0) => ?_) (fun (b1 : (2 : Int32) = 0) => ?_)
  · refine Go.getS 30 rfl (v := .int cs) 22 d2_27 rfl hS ?_
    refine Go.if_eq 58 33 d2_30 (by decide) rfl rfl (fun (b2 : cs = 0) => ?_) (fun (b2 : ¬ cs = 0) => ?_)
    · exact absurd b2 hcs
    · refine Go.aloadN 34 rfl d2_33 rfl rfl ?_
      refine Go.iloadN 35 rfl d2_34 rfl ?_
      refine Go.iloadN 36 rfl d2_35 rfl ?_
      refine Go.callS 39 rfl (C := B4) [.ref s, .int (0 : Int32), .int (2 : Int32)] (rest := []) 23 24 25 26 (c4n2 Z hw h0 s x0 x1 hAs hHi hLo hA hx0 hx1) d2_36 rfl rfl rfl rfl (by decide) pd4 rfl rfl rfl (W := 0) (Nat.le_of_ble_eq_true rfl) (by decide) (by decide) (by decide) (by decide) fun v3 h4 q5 => ?_
      obtain ⟨t, rfl, g, K, D⟩ := q5
      have z6 : Z.heap.size ≤ t := Nat.le_trans hle g
      rcases D with ⟨lg0, lg1, A1⟩ | A1
      · refine Go.astore 41 rfl d2_39 rfl (Ls' := #[.val (.ref a), .val (.ref s), .val (.int (0 : Int32)), .val (.int (2 : Int32)), .val (.null), .val (.ref t)]) rfl ?_
        refine Go.aloadN 42 rfl d2_41 rfl rfl ?_
        refine Go.aload 44 rfl d2_42 rfl rfl ?_
        refine Go.iloadN 45 rfl d2_44 rfl ?_
        refine Go.callS 48 rfl (C := B6) [.ref t, .int (2 : Int32)] (rest := [.ref a]) 30 31 25 32 (c6n2k0 Z hw h4 t (IL [l1 x0, l1 x1]) A1 rfl) d2_45 rfl rfl rfl rfl (by decide) pd6 rfl rfl rfl (W := 1) (Nat.le_of_ble_eq_true rfl) (by decide) (by decide) (by decide) (by decide) fun v7 h8 q9 => ?_
        obtain ⟨rfl, rfl⟩ := q9
        have F10 : Fld Z h4 a "java/lang/String" "coder" "B" (.int (0 : Int32)) := (hC.keep K nin0)
        have F11 : Exa Z h4 a "java/lang/String" := (hE.keep K)
        refine Go.putF 51 rfl (v' := .int (0 : Int32)) (ty := .byte) 21 17 1 d2_48 rfl F10 F11 (Or.inr ⟨rfl, rfl, rfl⟩) rfl (by decide) rfl rfl hge fun h12 K13 W14 F15 => ?_
        refine Go.aloadN 52 rfl d2_51 rfl rfl ?_
        refine Go.aload 54 rfl d2_52 rfl rfl ?_
        have F16 : Fld Z h12 a "java/lang/String" "value" "[B" (.null) := (Fld.oth hw (hV.keep K nin0) W14 16 17 (Or.inr rfl) (Or.inr rfl) (by decide) rfl rfl)
        have F17 : Exa Z h12 a "java/lang/String" := (F11.keep K13)
        refine Go.putF 57 rfl (v' := .ref t) (ty := (.array .byte)) 20 16 1 d2_54 rfl F16 F17 (Or.inr ⟨rfl, rfl, rfl⟩) rfl (by decide) rfl rfl hge fun h18 K19 W20 F21 => ?_
        have F22 : Fld Z h18 a "java/lang/String" "coder" "B" (.int (0 : Int32)) := (Fld.oth hw F15 W20 17 16 (Or.inr rfl) (Or.inr rfl) (by decide) rfl rfl)
        have ne23 : t ≠ a := (show @Ne Nat t a from by have := ltN hE.lt; have := g; omega)
        have F24 : Ary Z h18 t .byte (IL [l1 x0, l1 x1]) := ((A1.keep K13 (ninS ne23 nin0)).keep K19 (ninS ne23 nin0))
        exact Go.retV d2_57 rfl (by decide) (by decide) ⟨rfl, t, g, ((((Keep.refl h0 [a]).trans K all0).trans K13 (by simp)).trans K19 (by simp)), F21, Or.inl ⟨F22, lg0, lg1, F24⟩⟩
      · refine Go.astore 41 rfl d2_39 rfl (Ls' := #[.val (.ref a), .val (.ref s), .val (.int (0 : Int32)), .val (.int (2 : Int32)), .val (.null), .val (.ref t)]) rfl ?_
        refine Go.aloadN 42 rfl d2_41 rfl rfl ?_
        refine Go.aload 44 rfl d2_42 rfl rfl ?_
        refine Go.iloadN 45 rfl d2_44 rfl ?_
        refine Go.callS 48 rfl (C := B6) [.ref t, .int (2 : Int32)] (rest := [.ref a]) 30 31 25 32 (c6n2k1 Z hw h4 t (IL [lo x0, hi x0, lo x1, hi x1]) A1 rfl) d2_45 rfl rfl rfl rfl (by decide) pd6 rfl rfl rfl (W := 1) (Nat.le_of_ble_eq_true rfl) (by decide) (by decide) (by decide) (by decide) fun v25 h26 q27 => ?_
        obtain ⟨rfl, rfl⟩ := q27
        have F28 : Fld Z h4 a "java/lang/String" "coder" "B" (.int (0 : Int32)) := (hC.keep K nin0)
        have F29 : Exa Z h4 a "java/lang/String" := (hE.keep K)
        refine Go.putF 51 rfl (v' := .int (1 : Int32)) (ty := .byte) 21 17 1 d2_48 rfl F28 F29 (Or.inr ⟨rfl, rfl, rfl⟩) rfl (by decide) rfl rfl hge fun h30 K31 W32 F33 => ?_
        refine Go.aloadN 52 rfl d2_51 rfl rfl ?_
        refine Go.aload 54 rfl d2_52 rfl rfl ?_
        have F34 : Fld Z h30 a "java/lang/String" "value" "[B" (.null) := (Fld.oth hw (hV.keep K nin0) W32 16 17 (Or.inr rfl) (Or.inr rfl) (by decide) rfl rfl)
        have F35 : Exa Z h30 a "java/lang/String" := (F29.keep K31)
        refine Go.putF 57 rfl (v' := .ref t) (ty := (.array .byte)) 20 16 1 d2_54 rfl F34 F35 (Or.inr ⟨rfl, rfl, rfl⟩) rfl (by decide) rfl rfl hge fun h36 K37 W38 F39 => ?_
        have F40 : Fld Z h36 a "java/lang/String" "coder" "B" (.int (1 : Int32)) := (Fld.oth hw F33 W38 17 16 (Or.inr rfl) (Or.inr rfl) (by decide) rfl rfl)
        have ne41 : t ≠ a := (show @Ne Nat t a from by have := ltN hE.lt; have := g; omega)
        have F42 : Ary Z h36 t .byte (IL [lo x0, hi x0, lo x1, hi x1]) := ((A1.keep K31 (ninS ne41 nin0)).keep K37 (ninS ne41 nin0))
        exact Go.retV d2_57 rfl (by decide) (by decide) ⟨rfl, t, g, ((((Keep.refl h0 [a]).trans K all0).trans K31 (by simp)).trans K37 (by simp)), F39, Or.inr ⟨F40, F42⟩⟩
  · exact absurd b1 (show ¬ (2 : Int32) = 0 from by decide)
theorem ef1n2 (mid : MethodId) (a : Addr) (s : Addr) : entryFrame mid (List.toArray [.ref a, .ref s]) 2 = mkF mid 0 #[.val (.ref a), .val (.ref s)] [] := by first | (simp [entryFrame, mkF, argsToLocals, Value.category]; done) | rfl
def Q1n2 (Z : State) (a : Addr) (x0 : Int32) (x1 : Int32) (h0 : Heap) (v : Option Value) (h : Heap) : Prop := v = none ∧ ∃ t, h0.size ≤ t ∧ Keep h0 h [a] ∧ Fld Z h a "java/lang/String" "value" "[B" (.ref t) ∧ ((Fld Z h a "java/lang/String" "coder" "B" (.int 0) ∧ ¬ (255 : Int32) < x0 ∧ ¬ (255 : Int32) < x1 ∧ Ary Z h t .byte (IL [l1 x0, l1 x1])) ∨ (Fld Z h a "java/lang/String" "coder" "B" (.int 1) ∧ Ary Z h t .byte (IL [lo x0, hi x0, lo x1, hi x1])))
set_option maxRecDepth 65536 in
set_option maxHeartbeats 40000000 in
theorem c1n2 (Z : State) (hw : Wd Z tables_1) (h0 : Heap) (a : Addr) (s : Addr) (x0 : Int32) (x1 : Int32) (cs : Int32) (hS : Sta Z Z.heap "java/lang/String" "COMPACT_STRINGS" "Z" (.int cs)) (hcs : ¬ cs = 0) (hAs : Sta Z Z.heap "java/lang/StringUTF16" "$assertionsDisabled" "Z" (.int 1)) (hHi : Sta Z Z.heap "java/lang/StringUTF16" "HI_BYTE_SHIFT" "I" (.int 0)) (hLo : Sta Z Z.heap "java/lang/StringUTF16" "LO_BYTE_SHIFT" "I" (.int 8)) (hge : Z.heap.size ≤ a) (hE : Exa Z h0 a "java/lang/String") (hV : Fld Z h0 a "java/lang/String" "value" "[B" .null) (hC : Fld Z h0 a "java/lang/String" "coder" "B" (.int 0)) (hA : Ary Z h0 s .char [.int x0, .int x1]) (hx0 : Ch x0) (hx1 : Ch x1) : Con Z B1 (List.toArray [.ref a, .ref s]) h0 (Q1n2 Z a x0 x1 h0) := by
  refine Con.mk hw pn1 (fun mid => ef1n2 mid a s) (Go.old fun hle' => ?_)
  have hle := hle'.1
  refine Go.aloadN 1 rfl d1_0 rfl rfl ?_
  refine Go.aloadN 2 rfl d1_1 rfl rfl ?_
  refine Go.iconst 3 rfl (0 : Int32) d1_2 rfl ?_
  refine Go.aloadN 4 rfl d1_3 rfl rfl ?_
  refine Go.alen 5 rfl (2 : Int32) d1_4 hA rfl ?_
  refine Go.aconstNull 6 rfl d1_5 ?_
  refine Go.callI 9 rfl (C := B2) a [.ref s, .int (0 : Int32), .int (2 : Int32), .null] (rest := []) 7 8 2 10 (c2n2 Z hw h0 a s x0 x1 cs hS hcs hAs hHi hLo hge hE hV hC hA hx0 hx1) d1_6 rfl rfl rfl rfl rfl rfl (by decide) pd2 rfl rfl rfl (W := 0) (Nat.le_of_ble_eq_true rfl) (by decide) (by decide) (by decide) (by decide) fun v1 h2 q3 => ?_
  obtain ⟨rfl, t, g, K, F, D⟩ := q3
  exact Go.retV d1_9 rfl (by decide) (by decide) ⟨rfl, t, g, K, F, D⟩
theorem ef18n1 (mid : MethodId)  : entryFrame mid (List.toArray [.int (1 : Int32)]) 1 = mkF mid 0 #[.val (.int (1 : Int32))] [] := by first | (simp [entryFrame, mkF, argsToLocals, Value.category]; done) | rfl
def Q18n1 (h0 : Heap) (v : Option Value) (h : Heap) : Prop := v = some (.int (2 : Int32)) ∧ h0 = h
set_option maxRecDepth 65536 in
set_option maxHeartbeats 40000000 in
theorem c18n1 (Z : State) (hw : Wd Z tables_1) (h0 : Heap)    : Con Z B18 (List.toArray [.int (1 : Int32)]) h0 (Q18n1 h0) := by
  refine Con.mk hw pn18 (fun mid => ef18n1 mid ) (Go.old fun hle' => ?_)
  have hle := hle'.1
  refine Go.iloadN 1 rfl d18_0 rfl ?_
  refine Go.if_ge 12 4 d18_1 (by decide) rfl rfl (fun (b1 : ¬ (1 : Int32) < 0) => ?_) (fun (b1 : (1 : Int32) < 0) => ?_)
  · refine Go.iloadN 13 rfl d18_12 rfl ?_
    refine Go.ldcI 15 rfl (v := (1073741823 : Int32)) 90 d18_13 rfl ?_
    refine Go.icmp_lt 55 18 d18_15 (by decide) rfl rfl (fun (b2 : (1 : Int32) < (1073741823 : Int32)) => ?_) (fun (b2 : ¬ (1 : Int32) < (1073741823 : Int32)) => ?_)
    · refine Go.iloadN 56 rfl d18_55 rfl ?_
      refine Go.iconst 57 rfl (1 : Int32) d18_56 rfl ?_
      refine Go.ishl 58 rfl d18_57 ?_
      refine Go.eqI (w := 2) (by decide) ?_
      exact Go.retI d18_58 rfl (by decide) (by decide) ⟨rfl, rfl⟩
    · exact absurd (show (1 : Int32) < (1073741823 : Int32) from by decide) b2
  · exact absurd b1 (show ¬ (1 : Int32) < 0 from by decide)
theorem ef17n1 (mid : MethodId)  : entryFrame mid (List.toArray [.int (1 : Int32)]) 1 = mkF mid 0 #[.val (.int (1 : Int32))] [] := by first | (simp [entryFrame, mkF, argsToLocals, Value.category]; done) | rfl
def Q17n1 (Z : State) (h0 : Heap) (v : Option Value) (h : Heap) : Prop := ∃ t, v = some (.ref t) ∧ h0.size ≤ t ∧ Keep h0 h [] ∧ Ary Z h t .byte (IL [0, 0])
set_option maxRecDepth 65536 in
set_option maxHeartbeats 40000000 in
theorem c17n1 (Z : State) (hw : Wd Z tables_1) (h0 : Heap)    : Con Z B17 (List.toArray [.int (1 : Int32)]) h0 (Q17n1 Z h0) := by
  refine Con.mk hw pn17 (fun mid => ef17n1 mid ) (Go.old fun hle' => ?_)
  have hle := hle'.1
  refine Go.iloadN 1 rfl d17_0 rfl ?_
  refine Go.callS 4 rfl (C := B18) [.int (1 : Int32)] (rest := []) 87 88 25 89 (c18n1 Z hw h0) d17_1 rfl rfl rfl rfl (by decide) pd18 rfl rfl rfl (W := 0) (Nat.le_of_ble_eq_true rfl) (by decide) (by decide) (by decide) (by decide) fun v1 h2 q3 => ?_
  obtain ⟨rfl, rfl⟩ := q3
  refine Go.newA 6 rfl 15 2 2 d17_4 rfl rfl (by decide) (by decide) (by decide) (by decide) fun h5 a4 g6 z7 K8 A9 E10 => ?_
  have A11 : Ary Z h5 a4 .byte [.int 0, .int 0] := A9
  exact Go.retA d17_6 rfl rfl rfl (by decide) (by decide) ⟨a4, rfl, Nat.le_of_eq g6.symm, ((Keep.refl h0 []).trans K8 all0), A11⟩
theorem ef16n1 (mid : MethodId) (s : Addr) : entryFrame mid (List.toArray [.ref s, .int (0 : Int32), .int (1 : Int32)]) 5 = mkF mid 0 #[.val (.ref s), .val (.int (0 : Int32)), .val (.int (1 : Int32)), .unset, .unset] [] := by first | (simp [entryFrame, mkF, argsToLocals, Value.category]; done) | rfl
def Q16n1 (Z : State) (x0 : Int32) (h0 : Heap) (v : Option Value) (h : Heap) : Prop := ∃ t, v = some (.ref t) ∧ h0.size ≤ t ∧ Keep h0 h [] ∧ Ary Z h t .byte (IL [lo x0, hi x0])
set_option maxRecDepth 65536 in
set_option maxHeartbeats 40000000 in
theorem c16n1 (Z : State) (hw : Wd Z tables_1) (h0 : Heap) (s : Addr) (x0 : Int32) (hAs : Sta Z Z.heap "java/lang/StringUTF16" "$assertionsDisabled" "Z" (.int 1)) (hHi : Sta Z Z.heap "java/lang/StringUTF16" "HI_BYTE_SHIFT" "I" (.int 0)) (hLo : Sta Z Z.heap "java/lang/StringUTF16" "LO_BYTE_SHIFT" "I" (.int 8)) (hA : Ary Z h0 s .char [.int x0]) : Con Z B16 (List.toArray [.ref s, .int (0 : Int32), .int (1 : Int32)]) h0 (Q16n1 Z x0 h0) := by
  refine Con.mk hw pn16 (fun mid => ef16n1 mid s) (Go.old fun hle' => ?_)
  have hle := hle'.1
  refine Go.iloadN 1 rfl d16_0 rfl ?_
  refine Go.callS 4 rfl (C := B17) [.int (1 : Int32)] (rest := []) 84 85 25 86 (c17n1 Z hw h0) d16_1 rfl rfl rfl rfl (by decide) pd17 rfl rfl rfl (W := 0) (Nat.le_of_ble_eq_true rfl) (by decide) (by decide) (by decide) (by decide) fun v1 h2 q3 => ?_
  obtain ⟨t, rfl, g, K, A⟩ := q3
  have z4 : Z.heap.size ≤ t := Nat.le_trans hle g
  refine Go.astoreN 5 rfl d16_4 rfl (Ls' := #[.val (.ref s), .val (.int (0 : Int32)), .val (.int (1 : Int32)), .val (.ref t), .unset]) rfl ?_
  refine Go.iconst 6 rfl (0 : Int32) d16_5 rfl ?_
  refine Go.istore 8 rfl d16_6 (Ls' := #[.val (.ref s), .val (.int (0 : Int32)), .val (.int (1 : Int32)), .val (.ref t), .val (.int (0 : Int32))]) rfl ?_
  refine Go.iload 10 rfl d16_8 rfl ?_
  refine Go.iloadN 11 rfl d16_10 rfl ?_
  refine Go.icmp_ge 32 14 d16_11 (by decide) rfl rfl (fun (b5 : ¬ (0 : Int32) < (1 : Int32)) => ?_) (fun (b5 : (0 : Int32) < (1 : Int32)) => ?_)
  · exact absurd (show (0 : Int32) < (1 : Int32) from by decide) b5
  · refine Go.aloadN 15 rfl d16_14 rfl rfl ?_
    refine Go.iload 17 rfl d16_15 rfl ?_
    refine Go.aloadN 18 rfl d16_17 rfl rfl ?_
    refine Go.iloadN 19 rfl d16_18 rfl ?_
    have F6 : Ary Z h2 s .char [.int x0] := (hA.keep K nin0)
    refine Go.caload 20 rfl x0 d16_19 F6 0 rfl rfl ?_
    refine Go.callS 23 rfl (C := B19) [.ref t, .int (0 : Int32), .int x0] (rest := []) 91 92 25 93 (c19 Z hw h2 t (0 : Int32) x0 [0, 0] 0 rfl (by decide) hAs hHi hLo z4 (Nat.le_of_ble_eq_true rfl) A) d16_20 rfl rfl rfl rfl (by decide) pd19 rfl rfl rfl (W := 0) (Nat.le_of_ble_eq_true rfl) (by decide) (by decide) (by decide) (by decide) fun v7 h8 q9 => ?_
    obtain ⟨rfl, K10, A11⟩ := q9
    have A12 : Ary Z h8 t .byte (IL [lo x0, hi x0]) := A11
    refine Go.iinc 26 rfl (1 : Int32) d16_23 rfl rfl (Ls' := #[.val (.ref s), .val (.int ((0 : Int32) + (1 : Int32))), .val (.int (1 : Int32)), .val (.ref t), .val (.int (0 : Int32))]) rfl ?_
    refine Go.iinc 29 rfl (1 : Int32) d16_26 rfl rfl (Ls' := #[.val (.ref s), .val (.int ((0 : Int32) + (1 : Int32))), .val (.int (1 : Int32)), .val (.ref t), .val (.int ((0 : Int32) + (1 : Int32)))]) rfl ?_
    refine Go.goto 8 d16_29 (by decide) (by decide) ?_
    refine Go.iload 10 rfl d16_8 rfl ?_
    refine Go.iloadN 11 rfl d16_10 rfl ?_
    refine Go.icmp_ge 32 14 d16_11 (by decide) rfl rfl (fun (b13 : ¬ ((0 : Int32) + (1 : Int32)) < (1 : Int32)) => ?_) (fun (b13 : ((0 : Int32) + (1 : Int32)) < (1 : Int32)) => ?_)
    · refine Go.aloadN 33 rfl d16_32 rfl rfl ?_
      exact Go.retA d16_33 rfl rfl rfl (by decide) (by decide) ⟨t, rfl, g, (((Keep.refl h0 []).trans K all0).trans K10 (allS (Or.inr (by have := K.1; have := g; omega)) all0)), A12⟩
    · exact absurd b13 (show ¬ ((0 : Int32) + (1 : Int32)) < (1 : Int32) from by decide)
theorem ef5n1 (mid : MethodId) (s : Addr) (t : Addr) : entryFrame mid (List.toArray [.ref s, .int (0 : Int32), .ref t, .int (0 : Int32), .int (1 : Int32)]) 7 = mkF mid 0 #[.val (.ref s), .val (.int (0 : Int32)), .val (.ref t), .val (.int (0 : Int32)), .val (.int (1 : Int32)), .unset, .unset] [] := by first | (simp [entryFrame, mkF, argsToLocals, Value.category]; done) | rfl
def Q5n1 (Z : State) (t : Addr) (x0 : Int32) (h0 : Heap) (v : Option Value) (h : Heap) : Prop := ∃ r, v = some (.int r) ∧ Keep h0 h [t] ∧ ((r = (1 : Int32) ∧ ¬ (255 : Int32) < x0 ∧ Ary Z h t .byte (IL [l1 x0])) ∨ ∃ i : Nat, i < 1 ∧ r = Int32.ofNat i ∧ (255 : Int32) < ([x0] : List Int32).getD i 0)
set_option maxRecDepth 65536 in
set_option maxHeartbeats 40000000 in
theorem c5n1 (Z : State) (hw : Wd Z tables_1) (h0 : Heap) (s : Addr) (t : Addr) (x0 : Int32) (hA : Ary Z h0 s .char [.int x0]) (hB : Ary Z h0 t .byte [.int 0]) (hgt : Z.heap.size ≤ t) (hne : s ≠ t) : Con Z B5 (List.toArray [.ref s, .int (0 : Int32), .ref t, .int (0 : Int32), .int (1 : Int32)]) h0 (Q5n1 Z t x0 h0) := by
  refine Con.mk hw pn5 (fun mid => ef5n1 mid s t) (Go.old fun hle' => ?_)
  have hle := hle'.1
  refine Go.iconst 1 rfl (0 : Int32) d5_0 rfl ?_
  refine Go.istore 3 rfl d5_1 (Ls' := #[.val (.ref s), .val (.int (0 : Int32)), .val (.ref t), .val (.int (0 : Int32)), .val (.int (1 : Int32)), .val (.int (0 : Int32)), .unset]) rfl ?_
  refine Go.iload 5 rfl d5_3 rfl ?_
  refine Go.iload 7 rfl d5_5 rfl ?_
  refine Go.icmp_ge 44 10 d5_7 (by decide) rfl rfl (fun (b1 : ¬ (0 : Int32) < (1 : Int32)) => ?_) (fun (b1 : (0 : Int32) < (1 : Int32)) => ?_)
  · exact absurd (show (0 : Int32) < (1 : Int32) from by decide) b1
  · refine Go.aloadN 11 rfl d5_10 rfl rfl ?_
    refine Go.iloadN 12 rfl d5_11 rfl ?_
    refine Go.caload 13 rfl x0 d5_12 hA 0 rfl rfl ?_
    refine Go.istore 15 rfl d5_13 (Ls' := #[.val (.ref s), .val (.int (0 : Int32)), .val (.ref t), .val (.int (0 : Int32)), .val (.int (1 : Int32)), .val (.int (0 : Int32)), .val (.int x0)]) rfl ?_
    refine Go.iload 17 rfl d5_15 rfl ?_
    refine Go.sipush 20 rfl (255 : Int32) d5_17 rfl ?_
    refine Go.icmp_le 26 23 d5_20 (by decide) rfl rfl (fun (b2 : ¬ (255 : Int32) < x0) => ?_) (fun (b2 : (255 : Int32) < x0) => ?_)
    · refine Go.aloadN 27 rfl d5_26 rfl rfl ?_
      refine Go.iloadN 28 rfl d5_27 rfl ?_
      refine Go.iload 30 rfl d5_28 rfl ?_
      refine Go.i2b 31 rfl d5_30 ?_
      refine Go.stB 32 rfl d5_31 hB 0 rfl (Nat.le_of_ble_eq_true rfl) hgt fun h3 K4 A5 => ?_
      have A6 : Ary Z h3 t .byte [.int (nar .byte x0.toInt8.toInt32)] := A5
      refine Go.iinc 35 rfl (1 : Int32) d5_32 rfl rfl (Ls' := #[.val (.ref s), .val (.int ((0 : Int32) + (1 : Int32))), .val (.ref t), .val (.int (0 : Int32)), .val (.int (1 : Int32)), .val (.int (0 : Int32)), .val (.int x0)]) rfl ?_
      refine Go.iinc 38 rfl (1 : Int32) d5_35 rfl rfl (Ls' := #[.val (.ref s), .val (.int ((0 : Int32) + (1 : Int32))), .val (.ref t), .val (.int ((0 : Int32) + (1 : Int32))), .val (.int (1 : Int32)), .val (.int (0 : Int32)), .val (.int x0)]) rfl ?_
      refine Go.iinc 41 rfl (1 : Int32) d5_38 rfl rfl (Ls' := #[.val (.ref s), .val (.int ((0 : Int32) + (1 : Int32))), .val (.ref t), .val (.int ((0 : Int32) + (1 : Int32))), .val (.int (1 : Int32)), .val (.int ((0 : Int32) + (1 : Int32))), .val (.int x0)]) rfl ?_
      refine Go.goto 3 d5_41 (by decide) (by decide) ?_
      refine Go.iload 5 rfl d5_3 rfl ?_
      refine Go.iload 7 rfl d5_5 rfl ?_
      refine Go.icmp_ge 44 10 d5_7 (by decide) rfl rfl (fun (b7 : ¬ ((0 : Int32) + (1 : Int32)) < (1 : Int32)) => ?_) (fun (b7 : ((0 : Int32) + (1 : Int32)) < (1 : Int32)) => ?_)
      · refine Go.iload 46 rfl d5_44 rfl ?_
        exact Go.retI d5_46 rfl (by decide) (by decide) ⟨_, rfl, ((Keep.refl h0 [t]).trans K4 (by simp)), Or.inl ⟨rfl, b2, A6⟩⟩
      · exact absurd b7 (show ¬ ((0 : Int32) + (1 : Int32)) < (1 : Int32) from by decide)
    · refine Go.iload 25 rfl d5_23 rfl ?_
      refine Go.eqI (w := 0) (by decide) ?_
      exact Go.retI d5_25 rfl (by decide) (by decide) ⟨_, rfl, (Keep.refl h0 [t]), Or.inr ⟨0, by decide, rfl, b2⟩⟩
theorem ef4n1 (mid : MethodId) (s : Addr) : entryFrame mid (List.toArray [.ref s, .int (0 : Int32), .int (1 : Int32)]) 6 = mkF mid 0 #[.val (.ref s), .val (.int (0 : Int32)), .val (.int (1 : Int32)), .unset, .unset, .unset] [] := by first | (simp [entryFrame, mkF, argsToLocals, Value.category]; done) | rfl
def Q4n1 (Z : State) (x0 : Int32) (h0 : Heap) (v : Option Value) (h : Heap) : Prop := ∃ t, v = some (.ref t) ∧ h0.size ≤ t ∧ Keep h0 h [] ∧ ((¬ (255 : Int32) < x0 ∧ Ary Z h t .byte (IL [l1 x0])) ∨ Ary Z h t .byte (IL [lo x0, hi x0]))
set_option maxRecDepth 65536 in
set_option maxHeartbeats 40000000 in
theorem c4n1 (Z : State) (hw : Wd Z tables_1) (h0 : Heap) (s : Addr) (x0 : Int32) (hAs : Sta Z Z.heap "java/lang/StringUTF16" "$assertionsDisabled" "Z" (.int 1)) (hHi : Sta Z Z.heap "java/lang/StringUTF16" "HI_BYTE_SHIFT" "I" (.int 0)) (hLo : Sta Z Z.heap "java/lang/StringUTF16" "LO_BYTE_SHIFT" "I" (.int 8)) (hA : Ary Z h0 s .char [.int x0]) (hx0 : Ch x0) : Con Z B4 (List.toArray [.ref s, .int (0 : Int32), .int (1 : Int32)]) h0 (Q4n1 Z x0 h0) := by
  refine Con.mk hw pn4 (fun mid => ef4n1 mid s) (Go.old fun hle' => ?_)
  have hle := hle'.1
  refine Go.iloadN 1 rfl d4_0 rfl ?_
  refine Go.newA 3 rfl 15 1 1 d4_1 rfl rfl (by decide) (by decide) (by decide) (by decide) fun h2 a1 g3 z4 K5 A6 E7 => ?_
  have A8 : Ary Z h2 a1 .byte [.int 0] := A6
  refine Go.astoreN 4 rfl d4_3 rfl (Ls' := #[.val (.ref s), .val (.int (0 : Int32)), .val (.int (1 : Int32)), .val (.ref a1), .unset, .unset]) rfl ?_
  refine Go.aloadN 5 rfl d4_4 rfl rfl ?_
  refine Go.iloadN 6 rfl d4_5 rfl ?_
  refine Go.aloadN 7 rfl d4_6 rfl rfl ?_
  refine Go.iconst 8 rfl (0 : Int32) d4_7 rfl ?_
  refine Go.iloadN 9 rfl d4_8 rfl ?_
  have F9 : Ary Z h2 s .char [.int x0] := (hA.keep K5 nin0)
  have ne10 : s ≠ a1 := (show @Ne Nat s a1 from by have := ltN hA.lt; have := g3; omega)
  refine Go.callS 12 rfl (C := B5) [.ref s, .int (0 : Int32), .ref a1, .int (0 : Int32), .int (1 : Int32)] (rest := []) 27 28 25 29 (c5n1 Z hw h2 s a1 x0 F9 A8 z4 ne10) d4_9 rfl rfl rfl rfl (by decide) pd5 rfl rfl rfl (W := 0) (Nat.le_of_ble_eq_true rfl) (by decide) (by decide) (by decide) (by decide) fun v11 h12 q13 => ?_
  obtain ⟨r, rfl, KQ5, DQ5⟩ := q13
  refine Go.istore 14 rfl d4_12 (Ls' := #[.val (.ref s), .val (.int (0 : Int32)), .val (.int (1 : Int32)), .val (.ref a1), .val (.int r), .unset]) rfl ?_
  refine Go.iload 16 rfl d4_14 rfl ?_
  refine Go.iloadN 17 rfl d4_16 rfl ?_
  rcases DQ5 with ⟨rfl, lg0, AQ5⟩ | ⟨i, hin, rfl, hbig⟩
  · refine Go.icmp_eq 57 20 d4_17 (by decide) rfl rfl (fun (b14 : (1 : Int32) = (1 : Int32)) => ?_) (fun (b14 : ¬ (1 : Int32) = (1 : Int32)) => ?_)
    · refine Go.aloadN 58 rfl d4_57 rfl rfl ?_
      exact Go.retA d4_58 rfl rfl rfl (by decide) (by decide) ⟨a1, rfl, Nat.le_of_eq g3.symm, (((Keep.refl h0 []).trans K5 all0).trans KQ5 (allS (Or.inr (by have := K5.1; have := g3; omega)) all0)), Or.inl ⟨lg0, AQ5⟩⟩
    · exact absurd (show (1 : Int32) = (1 : Int32) from by decide) b14
  · refine Go.icmp_eq 57 20 d4_17 (by decide) rfl rfl (fun (b15 : (Int32.ofNat i) = (1 : Int32)) => ?_) (fun (b15 : ¬ (Int32.ofNat i) = (1 : Int32)) => ?_)
    · exact absurd b15 (own_ofne hin (by decide))
    · refine Go.aloadN 21 rfl d4_20 rfl rfl ?_
      refine Go.iloadN 22 rfl d4_21 rfl ?_
      refine Go.iloadN 23 rfl d4_22 rfl ?_
      have F16 : Ary Z h12 s .char [.int x0] := (F9.keep KQ5 (ninS ne10 nin0))
      refine Go.callS 26 rfl (C := B16) [.ref s, .int (0 : Int32), .int (1 : Int32)] (rest := []) 81 82 25 83 (c16n1 Z hw h12 s x0 hAs hHi hLo F16) d4_23 rfl rfl rfl rfl (by decide) pd16 rfl rfl rfl (W := 0) (Nat.le_of_ble_eq_true rfl) (by decide) (by decide) (by decide) (by decide) fun v17 h18 q19 => ?_
      obtain ⟨u, rfl, gu, Ku, Au⟩ := q19
      have z20 : Z.heap.size ≤ u := Nat.le_trans (Nat.le_trans (Nat.le_trans hle K5.1) KQ5.1) gu
      refine Go.astore 28 rfl d4_26 rfl (Ls' := #[.val (.ref s), .val (.int (0 : Int32)), .val (.int (1 : Int32)), .val (.ref a1), .val (.int (Int32.ofNat i)), .val (.ref u)]) rfl ?_
      refine Go.aload 30 rfl d4_28 rfl rfl ?_
      refine Go.iload 32 rfl d4_30 rfl ?_
      refine Go.callS 35 rfl (C := B20) [.ref u, .int (Int32.ofNat i)] (rest := []) 97 98 25 99 (c20 Z hw h18 u (Int32.ofNat i) [lo x0, hi x0] i (len_ofNat (by omega)) (by omega) hAs hHi hLo (by show 2 * i + 1 < 2; omega) Au) d4_32 rfl rfl rfl rfl (by decide) pd20 rfl rfl rfl (W := 0) (Nat.le_of_ble_eq_true rfl) (by decide) (by decide) (by decide) (by decide) fun v21 h22 q23 => ?_
      obtain ⟨rfl, rfl⟩ := q23
      refine Go.eqI (w := ([x0] : List Int32).getD i 0) (own_gc1 hin hx0) ?_
      refine Go.sipush 38 rfl (255 : Int32) d4_35 rfl ?_
      refine Go.icmp_gt 54 41 d4_38 (by decide) rfl rfl (fun (b24 : (255 : Int32) < (([x0] : List Int32).getD i 0)) => ?_) (fun (b24 : ¬ (255 : Int32) < (([x0] : List Int32).getD i 0)) => ?_)
      · refine Go.aload 56 rfl d4_54 rfl rfl ?_
        exact Go.retA d4_56 rfl rfl rfl (by decide) (by decide) ⟨u, rfl, (by have := K5.1; have := KQ5.1; have := gu; omega), ((((Keep.refl h0 []).trans K5 all0).trans KQ5 (allS (Or.inr (by have := K5.1; have := g3; omega)) all0)).trans Ku all0), Or.inr Au⟩
      · exact absurd hbig b24
theorem ef6n1k0 (mid : MethodId) (t : Addr) : entryFrame mid (List.toArray [.ref t, .int (1 : Int32)]) 2 = mkF mid 0 #[.val (.ref t), .val (.int (1 : Int32))] [] := by first | (simp [entryFrame, mkF, argsToLocals, Value.category]; done) | rfl
def Q6n1k0 (h0 : Heap) (v : Option Value) (h : Heap) : Prop := v = some (.int 0) ∧ h0 = h
set_option maxRecDepth 65536 in
set_option maxHeartbeats 40000000 in
theorem c6n1k0 (Z : State) (hw : Wd Z tables_1) (h0 : Heap) (t : Addr)  (vs : List Value) (hB : Ary Z h0 t .byte vs) (hl : vs.length = 1) : Con Z B6 (List.toArray [.ref t, .int (1 : Int32)]) h0 (Q6n1k0 h0) := by
  refine Con.mk hw pn6 (fun mid => ef6n1k0 mid t) (Go.old fun hle' => ?_)
  have hle := hle'.1
  refine Go.iloadN 1 rfl d6_0 rfl ?_
  refine Go.aloadN 2 rfl d6_1 rfl rfl ?_
  refine Go.alen 3 rfl (1 : Int32) d6_2 hB (by rw [hl]; rfl) ?_
  refine Go.isub 4 rfl d6_3 ?_
  refine Go.bipush 6 rfl (31 : Int32) d6_4 rfl ?_
  refine Go.iushr 7 rfl d6_6 ?_
  refine Go.i2b 8 rfl d6_7 ?_
  exact Go.retN (t := .byte) (z' := 0) d6_8 rfl (by decide) (by decide) (by decide) (by decide) ⟨rfl, rfl⟩
theorem ef6n1k1 (mid : MethodId) (t : Addr) : entryFrame mid (List.toArray [.ref t, .int (1 : Int32)]) 2 = mkF mid 0 #[.val (.ref t), .val (.int (1 : Int32))] [] := by first | (simp [entryFrame, mkF, argsToLocals, Value.category]; done) | rfl
def Q6n1k1 (h0 : Heap) (v : Option Value) (h : Heap) : Prop := v = some (.int 1) ∧ h0 = h
set_option maxRecDepth 65536 in
set_option maxHeartbeats 40000000 in
theorem c6n1k1 (Z : State) (hw : Wd Z tables_1) (h0 : Heap) (t : Addr)  (vs : List Value) (hB : Ary Z h0 t .byte vs) (hl : vs.length = 2) : Con Z B6 (List.toArray [.ref t, .int (1 : Int32)]) h0 (Q6n1k1 h0) := by
  refine Con.mk hw pn6 (fun mid => ef6n1k1 mid t) (Go.old fun hle' => ?_)
  have hle := hle'.1
  refine Go.iloadN 1 rfl d6_0 rfl ?_
  refine Go.aloadN 2 rfl d6_1 rfl rfl ?_
  refine Go.alen 3 rfl (2 : Int32) d6_2 hB (by rw [hl]; rfl) ?_
  refine Go.isub 4 rfl d6_3 ?_
  refine Go.bipush 6 rfl (31 : Int32) d6_4 rfl ?_
  refine Go.iushr 7 rfl d6_6 ?_
  refine Go.i2b 8 rfl d6_7 ?_
  exact Go.retN (t := .byte) (z' := 1) d6_8 rfl (by decide) (by decide) (by decide) (by decide) ⟨rfl, rfl⟩
theorem ef2n1 (mid : MethodId) (a : Addr) (s : Addr) : entryFrame mid (List.toArray [.ref a, .ref s, .int (0 : Int32), .int (1 : Int32), .null]) 6 = mkF mid 0 #[.val (.ref a), .val (.ref s), .val (.int (0 : Int32)), .val (.int (1 : Int32)), .val (.null), .unset] [] := by first | (simp [entryFrame, mkF, argsToLocals, Value.category]; done) | rfl
def Q2n1 (Z : State) (a : Addr) (x0 : Int32) (h0 : Heap) (v : Option Value) (h : Heap) : Prop := v = none ∧ ∃ t, h0.size ≤ t ∧ Keep h0 h [a] ∧ Fld Z h a "java/lang/String" "value" "[B" (.ref t) ∧ ((Fld Z h a "java/lang/String" "coder" "B" (.int 0) ∧ ¬ (255 : Int32) < x0 ∧ Ary Z h t .byte (IL [l1 x0])) ∨ (Fld Z h a "java/lang/String" "coder" "B" (.int 1) ∧ Ary Z h t .byte (IL [lo x0, hi x0])))
set_option maxRecDepth 65536 in
set_option maxHeartbeats 40000000 in
theorem c2n1 (Z : State) (hw : Wd Z tables_1) (h0 : Heap) (a : Addr) (s : Addr) (x0 : Int32) (cs : Int32) (hS : Sta Z Z.heap "java/lang/String" "COMPACT_STRINGS" "Z" (.int cs)) (hcs : ¬ cs = 0) (hAs : Sta Z Z.heap "java/lang/StringUTF16" "$assertionsDisabled" "Z" (.int 1)) (hHi : Sta Z Z.heap "java/lang/StringUTF16" "HI_BYTE_SHIFT" "I" (.int 0)) (hLo : Sta Z Z.heap "java/lang/StringUTF16" "LO_BYTE_SHIFT" "I" (.int 8)) (hge : Z.heap.size ≤ a) (hE : Exa Z h0 a "java/lang/String") (hV : Fld Z h0 a "java/lang/String" "value" "[B" .null) (hC : Fld Z h0 a "java/lang/String" "coder" "B" (.int 0)) (hA : Ary Z h0 s .char [.int x0]) (hx0 : Ch x0) : Con Z B2 (List.toArray [.ref a, .ref s, .int (0 : Int32), .int (1 : Int32), .null]) h0 (Q2n1 Z a x0 h0) := by
  refine Con.mk hw pn2 (fun mid => ef2n1 mid a s) (Go.old fun hle' => ?_)
  have hle := hle'.1
  refine Go.aloadN 1 rfl d2_0 rfl rfl ?_
  refine Go.initO 4 rfl 11 12 13 d2_1 rfl rfl rfl rfl (by decide) (W := 0) (Nat.le_of_ble_eq_true rfl) (by decide) ?_
  refine Go.iloadN 5 rfl d2_4 rfl ?_
  refine Go.if_ne 27 8 d2_5 (by decide) rfl rfl (fun (b1 : ¬ (1 : Int32) = 0) => ?_) (fun (b1 : (1 : Int32) = 0) => ?_)
  · refine Go.getS 30 rfl (v := .int cs) 22 d2_27 rfl hS ?_
    refine Go.if_eq 58 33 d2_30 (by decide) rfl rfl (fun (b2 : cs = 0) => ?_) (fun (b2 : ¬ cs = 0) => ?_)
    · exact absurd b2 hcs
    · refine Go.aloadN 34 rfl d2_33 rfl rfl ?_
      refine Go.iloadN 35 rfl d2_34 rfl ?_
      refine Go.iloadN 36 rfl d2_35 rfl ?_
      refine Go.callS 39 rfl (C := B4) [.ref s, .int (0 : Int32), .int (1 : Int32)] (rest := []) 23 24 25 26 (c4n1 Z hw h0 s x0 hAs hHi hLo hA hx0) d2_36 rfl rfl rfl rfl (by decide) pd4 rfl rfl rfl (W := 0) (Nat.le_of_ble_eq_true rfl) (by decide) (by decide) (by decide) (by decide) fun v3 h4 q5 => ?_
      obtain ⟨t, rfl, g, K, D⟩ := q5
      have z6 : Z.heap.size ≤ t := Nat.le_trans hle g
      rcases D with ⟨lg0, A1⟩ | A1
      · refine Go.astore 41 rfl d2_39 rfl (Ls' := #[.val (.ref a), .val (.ref s), .val (.int (0 : Int32)), .val (.int (1 : Int32)), .val (.null), .val (.ref t)]) rfl ?_
        refine Go.aloadN 42 rfl d2_41 rfl rfl ?_
        refine Go.aload 44 rfl d2_42 rfl rfl ?_
        refine Go.iloadN 45 rfl d2_44 rfl ?_
        refine Go.callS 48 rfl (C := B6) [.ref t, .int (1 : Int32)] (rest := [.ref a]) 30 31 25 32 (c6n1k0 Z hw h4 t (IL [l1 x0]) A1 rfl) d2_45 rfl rfl rfl rfl (by decide) pd6 rfl rfl rfl (W := 1) (Nat.le_of_ble_eq_true rfl) (by decide) (by decide) (by decide) (by decide) fun v7 h8 q9 => ?_
        obtain ⟨rfl, rfl⟩ := q9
        have F10 : Fld Z h4 a "java/lang/String" "coder" "B" (.int (0 : Int32)) := (hC.keep K nin0)
        have F11 : Exa Z h4 a "java/lang/String" := (hE.keep K)
        refine Go.putF 51 rfl (v' := .int (0 : Int32)) (ty := .byte) 21 17 1 d2_48 rfl F10 F11 (Or.inr ⟨rfl, rfl, rfl⟩) rfl (by decide) rfl rfl hge fun h12 K13 W14 F15 => ?_
        refine Go.aloadN 52 rfl d2_51 rfl rfl ?_
        refine Go.aload 54 rfl d2_52 rfl rfl ?_
        have F16 : Fld Z h12 a "java/lang/String" "value" "[B" (.null) := (Fld.oth hw (hV.keep K nin0) W14 16 17 (Or.inr rfl) (Or.inr rfl) (by decide) rfl rfl)
        have F17 : Exa Z h12 a "java/lang/String" := (F11.keep K13)
        refine Go.putF 57 rfl (v' := .ref t) (ty := (.array .byte)) 20 16 1 d2_54 rfl F16 F17 (Or.inr ⟨rfl, rfl, rfl⟩) rfl (by decide) rfl rfl hge fun h18 K19 W20 F21 => ?_
        have F22 : Fld Z h18 a "java/lang/String" "coder" "B" (.int (0 : Int32)) := (Fld.oth hw F15 W20 17 16 (Or.inr rfl) (Or.inr rfl) (by decide) rfl rfl)
        have ne23 : t ≠ a := (show @Ne Nat t a from by have := ltN hE.lt; have := g; omega)
        have F24 : Ary Z h18 t .byte (IL [l1 x0]) := ((A1.keep K13 (ninS ne23 nin0)).keep K19 (ninS ne23 nin0))
        exact Go.retV d2_57 rfl (by decide) (by decide) ⟨rfl, t, g, ((((Keep.refl h0 [a]).trans K all0).trans K13 (by simp)).trans K19 (by simp)), F21, Or.inl ⟨F22, lg0, F24⟩⟩
      · refine Go.astore 41 rfl d2_39 rfl (Ls' := #[.val (.ref a), .val (.ref s), .val (.int (0 : Int32)), .val (.int (1 : Int32)), .val (.null), .val (.ref t)]) rfl ?_
        refine Go.aloadN 42 rfl d2_41 rfl rfl ?_
        refine Go.aload 44 rfl d2_42 rfl rfl ?_
        refine Go.iloadN 45 rfl d2_44 rfl ?_
        refine Go.callS 48 rfl (C := B6) [.ref t, .int (1 : Int32)] (rest := [.ref a]) 30 31 25 32 (c6n1k1 Z hw h4 t (IL [lo x0, hi x0]) A1 rfl) d2_45 rfl rfl rfl rfl (by decide) pd6 rfl rfl rfl (W := 1) (Nat.le_of_ble_eq_true rfl) (by decide) (by decide) (by decide) (by decide) fun v25 h26 q27 => ?_
        obtain ⟨rfl, rfl⟩ := q27
        have F28 : Fld Z h4 a "java/lang/String" "coder" "B" (.int (0 : Int32)) := (hC.keep K nin0)
        have F29 : Exa Z h4 a "java/lang/String" := (hE.keep K)
        refine Go.putF 51 rfl (v' := .int (1 : Int32)) (ty := .byte) 21 17 1 d2_48 rfl F28 F29 (Or.inr ⟨rfl, rfl, rfl⟩) rfl (by decide) rfl rfl hge fun h30 K31 W32 F33 => ?_
        refine Go.aloadN 52 rfl d2_51 rfl rfl ?_
        refine Go.aload 54 rfl d2_52 rfl rfl ?_
        have F34 : Fld Z h30 a "java/lang/String" "value" "[B" (.null) := (Fld.oth hw (hV.keep K nin0) W32 16 17 (Or.inr rfl) (Or.inr rfl) (by decide) rfl rfl)
        have F35 : Exa Z h30 a "java/lang/String" := (F29.keep K31)
        refine Go.putF 57 rfl (v' := .ref t) (ty := (.array .byte)) 20 16 1 d2_54 rfl F34 F35 (Or.inr ⟨rfl, rfl, rfl⟩) rfl (by decide) rfl rfl hge fun h36 K37 W38 F39 => ?_
        have F40 : Fld Z h36 a "java/lang/String" "coder" "B" (.int (1 : Int32)) := (Fld.oth hw F33 W38 17 16 (Or.inr rfl) (Or.inr rfl) (by decide) rfl rfl)
        have ne41 : t ≠ a := (show @Ne Nat t a from by have := ltN hE.lt; have := g; omega)
        have F42 : Ary Z h36 t .byte (IL [lo x0, hi x0]) := ((A1.keep K31 (ninS ne41 nin0)).keep K37 (ninS ne41 nin0))
        exact Go.retV d2_57 rfl (by decide) (by decide) ⟨rfl, t, g, ((((Keep.refl h0 [a]).trans K all0).trans K31 (by simp)).trans K37 (by simp)), F39, Or.inr ⟨F40, F42⟩⟩
  · exact absurd b1 (show ¬ (1 : Int32) = 0 from by decide)
theorem ef1n1 (mid : MethodId) (a : Addr) (s : Addr) : entryFrame mid (List.toArray [.ref a, .ref s]) 2 = mkF mid 0 #[.val (.ref a), .val (.ref s)] [] := by first | (simp [entryFrame, mkF, argsToLocals, Value.category]; done) | rfl
def Q1n1 (Z : State) (a : Addr) (x0 : Int32) (h0 : Heap) (v : Option Value) (h : Heap) : Prop := v = none ∧ ∃ t, h0.size ≤ t ∧ Keep h0 h [a] ∧ Fld Z h a "java/lang/String" "value" "[B" (.ref t) ∧ ((Fld Z h a "java/lang/String" "coder" "B" (.int 0) ∧ ¬ (255 : Int32) < x0 ∧ Ary Z h t .byte (IL [l1 x0])) ∨ (Fld Z h a "java/lang/String" "coder" "B" (.int 1) ∧ Ary Z h t .byte (IL [lo x0, hi x0])))
set_option maxRecDepth 65536 in
set_option maxHeartbeats 40000000 in
theorem c1n1 (Z : State) (hw : Wd Z tables_1) (h0 : Heap) (a : Addr) (s : Addr) (x0 : Int32) (cs : Int32) (hS : Sta Z Z.heap "java/lang/String" "COMPACT_STRINGS" "Z" (.int cs)) (hcs : ¬ cs = 0) (hAs : Sta Z Z.heap "java/lang/StringUTF16" "$assertionsDisabled" "Z" (.int 1)) (hHi : Sta Z Z.heap "java/lang/StringUTF16" "HI_BYTE_SHIFT" "I" (.int 0)) (hLo : Sta Z Z.heap "java/lang/StringUTF16" "LO_BYTE_SHIFT" "I" (.int 8)) (hge : Z.heap.size ≤ a) (hE : Exa Z h0 a "java/lang/String") (hV : Fld Z h0 a "java/lang/String" "value" "[B" .null) (hC : Fld Z h0 a "java/lang/String" "coder" "B" (.int 0)) (hA : Ary Z h0 s .char [.int x0]) (hx0 : Ch x0) : Con Z B1 (List.toArray [.ref a, .ref s]) h0 (Q1n1 Z a x0 h0) := by
  refine Con.mk hw pn1 (fun mid => ef1n1 mid a s) (Go.old fun hle' => ?_)
  have hle := hle'.1
  refine Go.aloadN 1 rfl d1_0 rfl rfl ?_
  refine Go.aloadN 2 rfl d1_1 rfl rfl ?_
  refine Go.iconst 3 rfl (0 : Int32) d1_2 rfl ?_
  refine Go.aloadN 4 rfl d1_3 rfl rfl ?_
  refine Go.alen 5 rfl (1 : Int32) d1_4 hA rfl ?_
  refine Go.aconstNull 6 rfl d1_5 ?_
  refine Go.callI 9 rfl (C := B2) a [.ref s, .int (0 : Int32), .int (1 : Int32), .null] (rest := []) 7 8 2 10 (c2n1 Z hw h0 a s x0 cs hS hcs hAs hHi hLo hge hE hV hC hA hx0) d1_6 rfl rfl rfl rfl rfl rfl (by decide) pd2 rfl rfl rfl (W := 0) (Nat.le_of_ble_eq_true rfl) (by decide) (by decide) (by decide) (by decide) fun v1 h2 q3 => ?_
  obtain ⟨rfl, t, g, K, F, D⟩ := q3
  exact Go.retV d1_9 rfl (by decide) (by decide) ⟨rfl, t, g, K, F, D⟩
theorem ef2z (mid : MethodId) (a : Addr) (s : Addr) : entryFrame mid (List.toArray [.ref a, .ref s, .int (0 : Int32), .int (0 : Int32), .null]) 6 = mkF mid 0 #[.val (.ref a), .val (.ref s), .val (.int (0 : Int32)), .val (.int (0 : Int32)), .val (.null), .unset] [] := by first | (simp [entryFrame, mkF, argsToLocals, Value.category]; done) | rfl
def Q2z (Z : State) (a : Addr) (h0 : Heap) (v : Option Value) (h : Heap) : Prop := v = none ∧ ∃ t, Keep h0 h [a] ∧ Fld Z h a "java/lang/String" "value" "[B" (.ref t) ∧ Fld Z h a "java/lang/String" "coder" "B" (.int 0) ∧ Ary Z h t .byte (IL [])
set_option maxRecDepth 65536 in
set_option maxHeartbeats 40000000 in
theorem c2z (Z : State) (hw : Wd Z tables_1) (h0 : Heap) (a : Addr) (s : Addr)  (hh : Jvm.Lit.constHeld Z "java/lang/String" 7) (hcw : ∀ a0, Jvm.Lit.compactW.before a0 Z = true) (hge : Z.heap.size ≤ a) (hE : Exa Z h0 a "java/lang/String") (hV : Fld Z h0 a "java/lang/String" "value" "[B" .null) (hC : Fld Z h0 a "java/lang/String" "coder" "B" (.int 0)) : ConV Z B2 (List.toArray [.ref a, .ref s, .int (0 : Int32), .int (0 : Int32), .null]) h0 (Q2z Z a h0) := by
  refine ConV.mk hw pn2 (fun mid => ef2z mid a s) (fun hE0 => Go.old fun hle' => ?_)
  have hle := hle'.1
  refine Go.aloadN 1 rfl d2_0 rfl rfl ?_
  refine Go.initO 4 rfl 11 12 13 d2_1 rfl rfl rfl rfl (by decide) (W := 0) (Nat.le_of_ble_eq_true rfl) (by decide) ?_
  refine Go.iloadN 5 rfl d2_4 rfl ?_
  refine Go.if_ne 27 8 d2_5 (by decide) rfl rfl (fun (b1 : ¬ (0 : Int32) = 0) => ?_) (fun (b1 : (0 : Int32) = 0) => ?_)
  · exact absurd (show (0 : Int32) = 0 from by decide) b1
  · refine Go.aloadN 9 rfl d2_8 rfl rfl ?_
    refine Go.ldcV 11 rfl hE0 (vs := []) (z := 0) 14 2 1 15 16 17 18 19 d2_9 rfl ⟨_, rfl, rfl⟩ hh hcw (by simp) (by decide) rfl (c0 := 0) (by decide) (by decide) (by decide) (by decide) fun h4 a2 t3 K5 E6 F7 F8 A9 => ?_
    have F11 : Fld Z h4 a "java/lang/String" "value" "[B" (.null) := (hV.keep K5 nin0)
    have ne10 : a2 ≠ a := own_fne F8 F11
    have F13 : Exa Z h4 a "java/lang/String" := (hE.keep K5)
    have ne12 : t3 ≠ a := own_na hw 1 rfl F13 A9
    refine Go.getF 14 rfl (v := .ref t3) 20 d2_11 rfl F8 ?_
    refine Go.putF 17 rfl (v' := .ref t3) (ty := (.array .byte)) 20 16 1 d2_14 rfl F11 F13 (Or.inr ⟨rfl, rfl, rfl⟩) rfl (by decide) rfl rfl hge fun h14 K15 W16 F17 => ?_
    refine Go.aloadN 18 rfl d2_17 rfl rfl ?_
    refine Go.ldcAgain 20 rfl (text := "") 14 d2_18 rfl ?_
    have F18 : Fld Z h14 a2 "java/lang/String" "coder" "B" (.int (0 : Int32)) := (F7.keep K15 (ninS ne10 nin0))
    refine Go.getF 23 rfl (v := .int (0 : Int32)) 21 d2_20 rfl F18 ?_
    have F19 : Fld Z h14 a "java/lang/String" "coder" "B" (.int (0 : Int32)) := (Fld.oth hw (hC.keep K5 nin0) W16 17 16 (Or.inr rfl) (Or.inr rfl) (by decide) rfl rfl)
    have F20 : Exa Z h14 a "java/lang/String" := (F13.keep K15)
    refine Go.putF 26 rfl (v' := .int (0 : Int32)) (ty := .byte) 21 17 1 d2_23 rfl F19 F20 (Or.inr ⟨rfl, rfl, rfl⟩) rfl (by decide) rfl rfl hge fun h21 K22 W23 F24 => ?_
    have F25 : Fld Z h21 a "java/lang/String" "value" "[B" (.ref t3) := (Fld.oth hw F17 W23 16 17 (Or.inr rfl) (Or.inr rfl) (by decide) rfl rfl)
    have F26 : Ary Z h21 t3 .byte [] := ((A9.keep K15 (ninS ne12 nin0)).keep K22 (ninS ne12 nin0))
    exact Go.retV d2_26 rfl (by decide) (by decide) ⟨rfl, t3, ((((Keep.refl h0 [a]).trans K5 all0).trans K15 (by simp)).trans K22 (by simp)), F25, F24, F26⟩
theorem ef1z (mid : MethodId) (a : Addr) (s : Addr) : entryFrame mid (List.toArray [.ref a, .ref s]) 2 = mkF mid 0 #[.val (.ref a), .val (.ref s)] [] := by first | (simp [entryFrame, mkF, argsToLocals, Value.category]; done) | rfl
def Q1z (Z : State) (a : Addr) (h0 : Heap) (v : Option Value) (h : Heap) : Prop := v = none ∧ ∃ t, Keep h0 h [a] ∧ Fld Z h a "java/lang/String" "value" "[B" (.ref t) ∧ Fld Z h a "java/lang/String" "coder" "B" (.int 0) ∧ Ary Z h t .byte (IL [])
set_option maxRecDepth 65536 in
set_option maxHeartbeats 40000000 in
theorem c1z (Z : State) (hw : Wd Z tables_1) (h0 : Heap) (a : Addr) (s : Addr)  (hh : Jvm.Lit.constHeld Z "java/lang/String" 7) (hcw : ∀ a0, Jvm.Lit.compactW.before a0 Z = true) (hge : Z.heap.size ≤ a) (hE : Exa Z h0 a "java/lang/String") (hV : Fld Z h0 a "java/lang/String" "value" "[B" .null) (hC : Fld Z h0 a "java/lang/String" "coder" "B" (.int 0)) (hA : Ary Z h0 s .char []) : ConV Z B1 (List.toArray [.ref a, .ref s]) h0 (Q1z Z a h0) := by
  refine ConV.mk hw pn1 (fun mid => ef1z mid a s) (fun hE0 => Go.old fun hle' => ?_)
  have hle := hle'.1
  refine Go.aloadN 1 rfl d1_0 rfl rfl ?_
  refine Go.aloadN 2 rfl d1_1 rfl rfl ?_
  refine Go.iconst 3 rfl (0 : Int32) d1_2 rfl ?_
  refine Go.aloadN 4 rfl d1_3 rfl rfl ?_
  refine Go.alen 5 rfl (0 : Int32) d1_4 hA rfl ?_
  refine Go.aconstNull 6 rfl d1_5 ?_
  refine Go.callIV 9 rfl (C := B2) a [.ref s, .int (0 : Int32), .int (0 : Int32), .null] (rest := []) 7 8 2 10 (c2z Z hw h0 a s hh hcw hge hE hV hC) d1_6 rfl rfl rfl rfl rfl rfl (by decide) pd2 rfl rfl rfl (W := 0) (Nat.le_of_ble_eq_true rfl) (by decide) (by decide) (by decide) (by decide) fun v1 h2 q3 => ?_
  obtain ⟨rfl, t, K, F, G, A⟩ := q3
  exact Go.retV d1_9 rfl (by decide) (by decide) ⟨rfl, t, K, F, G, A⟩
theorem d9_0 : decode jdk_42_method_152_code 0 = .ok (.getstatic 38, 3) := by decide +kernel
theorem d9_3 : decode jdk_42_method_152_code 3 = .ok (.ifCond .eq 10, 3) := by decide +kernel
theorem d9_6 : decode jdk_42_method_152_code 6 = .ok (.aload_n 0, 1) := by decide +kernel
theorem d9_7 : decode jdk_42_method_152_code 7 = .ok (.getfield 15, 3) := by decide +kernel
theorem d9_10 : decode jdk_42_method_152_code 10 = .ok (.goto 4, 3) := by decide +kernel
theorem d9_13 : decode jdk_42_method_152_code 13 = .ok (.iconst 1, 1) := by decide +kernel
theorem d9_14 : decode jdk_42_method_152_code 14 = .ok (.ireturn, 1) := by decide +kernel
theorem pd9 : parseMethodDescriptor "()B" = some ⟨[], some .byte⟩ := by decide +kernel
theorem pn9 : plainFor (⟨"java/lang/String", "coder", "()B"⟩ : MethodName) = true := by first | (refine plainFor_of_name ?_; simp [plainName, overriddenIn]; done) | (refine plainFor_of_name ?_; decide +kernel) | decide +kernel
abbrev B9 : Bd := ((⟨"java/lang/String", "coder", "()B"⟩ : MethodName), jdk_42_method_152_code, 1, (some .byte), ({ frames := 0, cells := 0, slots := 0, locals := 0 } : Room), tables_1)
theorem ef9k0 (mid : MethodId) (a : Addr) : entryFrame mid (List.toArray [.ref a]) 1 = mkF mid 0 #[.val (.ref a)] [] := by first | (simp [entryFrame, mkF, argsToLocals, Value.category]; done) | rfl
def Q9k0 (h0 : Heap) (v : Option Value) (h : Heap) : Prop := v = some (.int 0) ∧ h0 = h
set_option maxRecDepth 65536 in
set_option maxHeartbeats 40000000 in
theorem c9k0 (Z : State) (hw : Wd Z tables_1) (h0 : Heap) (a : Addr)  (cs : Int32) (hS : Sta Z Z.heap "java/lang/String" "COMPACT_STRINGS" "Z" (.int cs)) (hcs : ¬ cs = 0) (hC : Fld Z h0 a "java/lang/String" "coder" "B" (.int 0)) : Con Z B9 (List.toArray [.ref a]) h0 (Q9k0 h0) := by
  refine Con.mk hw pn9 (fun mid => ef9k0 mid a) (Go.old fun hle' => ?_)
  have hle := hle'.1
  refine Go.getS 3 rfl (v := .int cs) 22 d9_0 rfl hS ?_
  refine Go.if_eq 13 6 d9_3 (by decide) rfl rfl (fun (b1 : cs = 0) => ?_) (fun (b1 : ¬ cs = 0) => ?_)
  · exact absurd b1 hcs
  · refine Go.aloadN 7 rfl d9_6 rfl rfl ?_
    refine Go.getF 10 rfl (v := .int (0 : Int32)) 21 d9_7 rfl hC ?_
    refine Go.goto 14 d9_10 (by decide) (by decide) ?_
    exact Go.retN (t := .byte) (z' := 0) d9_14 rfl (by decide) (by decide) (by decide) (by decide) ⟨rfl, rfl⟩
theorem d12_0 : decode jdk_42_method_154_code 0 = .ok (.getstatic 38, 3) := by decide +kernel
theorem d12_3 : decode jdk_42_method_154_code 3 = .ok (.ifCond .eq 14, 3) := by decide +kernel
theorem d12_6 : decode jdk_42_method_154_code 6 = .ok (.aload_n 0, 1) := by decide +kernel
theorem d12_7 : decode jdk_42_method_154_code 7 = .ok (.getfield 15, 3) := by decide +kernel
theorem d12_10 : decode jdk_42_method_154_code 10 = .ok (.ifCond .ne 7, 3) := by decide +kernel
theorem d12_13 : decode jdk_42_method_154_code 13 = .ok (.iconst 1, 1) := by decide +kernel
theorem d12_14 : decode jdk_42_method_154_code 14 = .ok (.goto 4, 3) := by decide +kernel
theorem d12_17 : decode jdk_42_method_154_code 17 = .ok (.iconst 0, 1) := by decide +kernel
theorem d12_18 : decode jdk_42_method_154_code 18 = .ok (.ireturn, 1) := by decide +kernel
theorem pd12 : parseMethodDescriptor "()Z" = some ⟨[], some .boolean⟩ := by decide +kernel
theorem pn12 : plainFor (⟨"java/lang/String", "isLatin1", "()Z"⟩ : MethodName) = true := by first | (refine plainFor_of_name ?_; simp [plainName, overriddenIn]; done) | (refine plainFor_of_name ?_; decide +kernel) | decide +kernel
abbrev B12 : Bd := ((⟨"java/lang/String", "isLatin1", "()Z"⟩ : MethodName), jdk_42_method_154_code, 1, (some .boolean), ({ frames := 0, cells := 0, slots := 0, locals := 0 } : Room), tables_1)
theorem ef12k0 (mid : MethodId) (a : Addr) : entryFrame mid (List.toArray [.ref a]) 1 = mkF mid 0 #[.val (.ref a)] [] := by first | (simp [entryFrame, mkF, argsToLocals, Value.category]; done) | rfl
def Q12k0 (h0 : Heap) (v : Option Value) (h : Heap) : Prop := v = some (.int 1) ∧ h0 = h
set_option maxRecDepth 65536 in
set_option maxHeartbeats 40000000 in
theorem c12k0 (Z : State) (hw : Wd Z tables_1) (h0 : Heap) (a : Addr)  (cs : Int32) (hS : Sta Z Z.heap "java/lang/String" "COMPACT_STRINGS" "Z" (.int cs)) (hcs : ¬ cs = 0) (hC : Fld Z h0 a "java/lang/String" "coder" "B" (.int 0)) : Con Z B12 (List.toArray [.ref a]) h0 (Q12k0 h0) := by
  refine Con.mk hw pn12 (fun mid => ef12k0 mid a) (Go.old fun hle' => ?_)
  have hle := hle'.1
  refine Go.getS 3 rfl (v := .int cs) 22 d12_0 rfl hS ?_
  refine Go.if_eq 17 6 d12_3 (by decide) rfl rfl (fun (b1 : cs = 0) => ?_) (fun (b1 : ¬ cs = 0) => ?_)
  · exact absurd b1 hcs
  · refine Go.aloadN 7 rfl d12_6 rfl rfl ?_
    refine Go.getF 10 rfl (v := .int (0 : Int32)) 21 d12_7 rfl hC ?_
    refine Go.if_ne 17 13 d12_10 (by decide) rfl rfl (fun (b2 : ¬ (0 : Int32) = 0) => ?_) (fun (b2 : (0 : Int32) = 0) => ?_)
    · exact absurd (show (0 : Int32) = 0 from by decide) b2
    · refine Go.iconst 14 rfl (1 : Int32) d12_13 rfl ?_
      refine Go.goto 18 d12_14 (by decide) (by decide) ?_
      exact Go.retN (t := .boolean) (z' := 1) d12_18 rfl (by decide) (by decide) (by decide) (by decide) ⟨rfl, rfl⟩
theorem d8_0 : decode jdk_42_method_54_code 0 = .ok (.aload_n 0, 1) := by decide +kernel
theorem d8_1 : decode jdk_42_method_54_code 1 = .ok (.getfield 9, 3) := by decide +kernel
theorem d8_4 : decode jdk_42_method_54_code 4 = .ok (.arraylength, 1) := by decide +kernel
theorem d8_5 : decode jdk_42_method_54_code 5 = .ok (.aload_n 0, 1) := by decide +kernel
theorem d8_6 : decode jdk_42_method_54_code 6 = .ok (.invokevirtual 335, 3) := by decide +kernel
theorem d8_9 : decode jdk_42_method_54_code 9 = .ok (.ishr, 1) := by decide +kernel
theorem d8_10 : decode jdk_42_method_54_code 10 = .ok (.ireturn, 1) := by decide +kernel
theorem pd8 : parseMethodDescriptor "()I" = some ⟨[], some .int⟩ := by decide +kernel
theorem pn8 : plainFor (⟨"java/lang/String", "length", "()I"⟩ : MethodName) = true := by first | (refine plainFor_of_name ?_; simp [plainName, overriddenIn]; done) | (refine plainFor_of_name ?_; decide +kernel) | decide +kernel
abbrev B8 : Bd := ((⟨"java/lang/String", "length", "()I"⟩ : MethodName), jdk_42_method_54_code, 1, (some .int), ({ frames := 1, cells := 0, slots := 0, locals := 13 } : Room), tables_1)
theorem ef8k0 (mid : MethodId) (a : Addr) : entryFrame mid (List.toArray [.ref a]) 1 = mkF mid 0 #[.val (.ref a)] [] := by first | (simp [entryFrame, mkF, argsToLocals, Value.category]; done) | rfl
def Q8k0 (R : Int32) (h0 : Heap) (v : Option Value) (h : Heap) : Prop := v = some (.int R) ∧ h0 = h
set_option maxRecDepth 65536 in
set_option maxHeartbeats 40000000 in
theorem c8k0 (Z : State) (hw : Wd Z tables_1) (h0 : Heap) (a : Addr) (R : Int32) (cs : Int32) (hS : Sta Z Z.heap "java/lang/String" "COMPACT_STRINGS" "Z" (.int cs)) (hcs : ¬ cs = 0) (t : Addr) (vs : List Value) (L : Int32) (hL : L.toInt = vs.length) (hR : L >>> ((0 : Int32) &&& 31) = R) (hE : Exa Z h0 a "java/lang/String") (hV : Fld Z h0 a "java/lang/String" "value" "[B" (.ref t)) (hC : Fld Z h0 a "java/lang/String" "coder" "B" (.int 0)) (hA : Ary Z h0 t .byte vs) : Con Z B8 (List.toArray [.ref a]) h0 (Q8k0 R h0) := by
  refine Con.mk hw pn8 (fun mid => ef8k0 mid a) (Go.old fun hle' => ?_)
  have hle := hle'.1
  refine Go.aloadN 1 rfl d8_0 rfl rfl ?_
  refine Go.getF 4 rfl (v := .ref t) 20 d8_1 rfl hV ?_
  refine Go.alen 5 rfl L d8_4 hA hL ?_
  refine Go.aloadN 6 rfl d8_5 rfl rfl ?_
  refine Go.callV 9 rfl (C := B9) a [] (rest := [.int L]) 43 44 46 45 2 47 (c9k0 Z hw h0 a cs hS hcs hC) hE d8_6 rfl rfl rfl rfl rfl rfl (by decide) pd9 rfl rfl rfl (W := 1) (Nat.le_of_ble_eq_true rfl) (by decide) (by decide) (by decide) (by decide) fun v1 h2 q3 => ?_
  obtain ⟨rfl, rfl⟩ := q3
  refine Go.ishr 10 rfl d8_9 ?_
  refine Go.eqI (w := R) hR ?_
  exact Go.retI d8_10 rfl (by decide) (by decide) ⟨rfl, rfl⟩
theorem ef9k1 (mid : MethodId) (a : Addr) : entryFrame mid (List.toArray [.ref a]) 1 = mkF mid 0 #[.val (.ref a)] [] := by first | (simp [entryFrame, mkF, argsToLocals, Value.category]; done) | rfl
def Q9k1 (h0 : Heap) (v : Option Value) (h : Heap) : Prop := v = some (.int 1) ∧ h0 = h
set_option maxRecDepth 65536 in
set_option maxHeartbeats 40000000 in
theorem c9k1 (Z : State) (hw : Wd Z tables_1) (h0 : Heap) (a : Addr)  (cs : Int32) (hS : Sta Z Z.heap "java/lang/String" "COMPACT_STRINGS" "Z" (.int cs)) (hcs : ¬ cs = 0) (hC : Fld Z h0 a "java/lang/String" "coder" "B" (.int 1)) : Con Z B9 (List.toArray [.ref a]) h0 (Q9k1 h0) := by
  refine Con.mk hw pn9 (fun mid => ef9k1 mid a) (Go.old fun hle' => ?_)
  have hle := hle'.1
  refine Go.getS 3 rfl (v := .int cs) 22 d9_0 rfl hS ?_
  refine Go.if_eq 13 6 d9_3 (by decide) rfl rfl (fun (b1 : cs = 0) => ?_) (fun (b1 : ¬ cs = 0) => ?_)
  · exact absurd b1 hcs
  · refine Go.aloadN 7 rfl d9_6 rfl rfl ?_
    refine Go.getF 10 rfl (v := .int (1 : Int32)) 21 d9_7 rfl hC ?_
    refine Go.goto 14 d9_10 (by decide) (by decide) ?_
    exact Go.retN (t := .byte) (z' := 1) d9_14 rfl (by decide) (by decide) (by decide) (by decide) ⟨rfl, rfl⟩
theorem ef12k1 (mid : MethodId) (a : Addr) : entryFrame mid (List.toArray [.ref a]) 1 = mkF mid 0 #[.val (.ref a)] [] := by first | (simp [entryFrame, mkF, argsToLocals, Value.category]; done) | rfl
def Q12k1 (h0 : Heap) (v : Option Value) (h : Heap) : Prop := v = some (.int 0) ∧ h0 = h
set_option maxRecDepth 65536 in
set_option maxHeartbeats 40000000 in
theorem c12k1 (Z : State) (hw : Wd Z tables_1) (h0 : Heap) (a : Addr)  (cs : Int32) (hS : Sta Z Z.heap "java/lang/String" "COMPACT_STRINGS" "Z" (.int cs)) (hcs : ¬ cs = 0) (hC : Fld Z h0 a "java/lang/String" "coder" "B" (.int 1)) : Con Z B12 (List.toArray [.ref a]) h0 (Q12k1 h0) := by
  refine Con.mk hw pn12 (fun mid => ef12k1 mid a) (Go.old fun hle' => ?_)
  have hle := hle'.1
  refine Go.getS 3 rfl (v := .int cs) 22 d12_0 rfl hS ?_
  refine Go.if_eq 17 6 d12_3 (by decide) rfl rfl (fun (b1 : cs = 0) => ?_) (fun (b1 : ¬ cs = 0) => ?_)
  · exact absurd b1 hcs
  · refine Go.aloadN 7 rfl d12_6 rfl rfl ?_
    refine Go.getF 10 rfl (v := .int (1 : Int32)) 21 d12_7 rfl hC ?_
    refine Go.if_ne 17 13 d12_10 (by decide) rfl rfl (fun (b2 : ¬ (1 : Int32) = 0) => ?_) (fun (b2 : (1 : Int32) = 0) => ?_)
    · refine Go.iconst 18 rfl (0 : Int32) d12_17 rfl ?_
      exact Go.retN (t := .boolean) (z' := 0) d12_18 rfl (by decide) (by decide) (by decide) (by decide) ⟨rfl, rfl⟩
    · exact absurd b2 (show ¬ (1 : Int32) = 0 from by decide)
theorem ef8k1 (mid : MethodId) (a : Addr) : entryFrame mid (List.toArray [.ref a]) 1 = mkF mid 0 #[.val (.ref a)] [] := by first | (simp [entryFrame, mkF, argsToLocals, Value.category]; done) | rfl
def Q8k1 (R : Int32) (h0 : Heap) (v : Option Value) (h : Heap) : Prop := v = some (.int R) ∧ h0 = h
set_option maxRecDepth 65536 in
set_option maxHeartbeats 40000000 in
theorem c8k1 (Z : State) (hw : Wd Z tables_1) (h0 : Heap) (a : Addr) (R : Int32) (cs : Int32) (hS : Sta Z Z.heap "java/lang/String" "COMPACT_STRINGS" "Z" (.int cs)) (hcs : ¬ cs = 0) (t : Addr) (vs : List Value) (L : Int32) (hL : L.toInt = vs.length) (hR : L >>> ((1 : Int32) &&& 31) = R) (hE : Exa Z h0 a "java/lang/String") (hV : Fld Z h0 a "java/lang/String" "value" "[B" (.ref t)) (hC : Fld Z h0 a "java/lang/String" "coder" "B" (.int 1)) (hA : Ary Z h0 t .byte vs) : Con Z B8 (List.toArray [.ref a]) h0 (Q8k1 R h0) := by
  refine Con.mk hw pn8 (fun mid => ef8k1 mid a) (Go.old fun hle' => ?_)
  have hle := hle'.1
  refine Go.aloadN 1 rfl d8_0 rfl rfl ?_
  refine Go.getF 4 rfl (v := .ref t) 20 d8_1 rfl hV ?_
  refine Go.alen 5 rfl L d8_4 hA hL ?_
  refine Go.aloadN 6 rfl d8_5 rfl rfl ?_
  refine Go.callV 9 rfl (C := B9) a [] (rest := [.int L]) 43 44 46 45 2 47 (c9k1 Z hw h0 a cs hS hcs hC) hE d8_6 rfl rfl rfl rfl rfl rfl (by decide) pd9 rfl rfl rfl (W := 1) (Nat.le_of_ble_eq_true rfl) (by decide) (by decide) (by decide) (by decide) fun v1 h2 q3 => ?_
  obtain ⟨rfl, rfl⟩ := q3
  refine Go.ishr 10 rfl d8_9 ?_
  refine Go.eqI (w := R) hR ?_
  exact Go.retI d8_10 rfl (by decide) (by decide) ⟨rfl, rfl⟩
theorem d15_0 : decode jdk_41_method_11_code 0 = .ok (.iload_n 0, 1) := by decide +kernel
theorem d15_1 : decode jdk_41_method_11_code 1 = .ok (.ifCond .lt 8, 3) := by decide +kernel
theorem d15_4 : decode jdk_41_method_11_code 4 = .ok (.iload_n 0, 1) := by decide +kernel
theorem d15_5 : decode jdk_41_method_11_code 5 = .ok (.iload_n 1, 1) := by decide +kernel
theorem d15_6 : decode jdk_41_method_11_code 6 = .ok (.if_icmp .lt 10, 3) := by decide +kernel
theorem d15_16 : decode jdk_41_method_11_code 16 = .ok (.iload_n 0, 1) := by decide +kernel
theorem d15_17 : decode jdk_41_method_11_code 17 = .ok (.ireturn, 1) := by decide +kernel
theorem pd15 : parseMethodDescriptor "(IILjava/util/function/BiFunction;)I" = some ⟨[.int, .int, (.object "java/util/function/BiFunction")], some .int⟩ := by decide +kernel
theorem pn15 : plainFor (⟨"jdk/internal/util/Preconditions", "checkIndex", "(IILjava/util/function/BiFunction;)I"⟩ : MethodName) = true := by first | (refine plainFor_of_name ?_; simp [plainName, overriddenIn]; done) | (refine plainFor_of_name ?_; decide +kernel) | decide +kernel
abbrev B15 : Bd := ((⟨"jdk/internal/util/Preconditions", "checkIndex", "(IILjava/util/function/BiFunction;)I"⟩ : MethodName), jdk_41_method_11_code, 3, (some .int), ({ frames := 0, cells := 0, slots := 0, locals := 0 } : Room), tables_1)
theorem ef15m (mid : MethodId) (i : Int32) (l : Int32) (m : Addr) : entryFrame mid (List.toArray [.int i, .int l, .ref m]) 3 = mkF mid 0 #[.val (.int i), .val (.int l), .val (.ref m)] [] := by first | (simp [entryFrame, mkF, argsToLocals, Value.category]; done) | rfl
def Q15m (i : Int32) (h0 : Heap) (v : Option Value) (h : Heap) : Prop := v = some (.int i) ∧ h0 = h
set_option maxRecDepth 65536 in
set_option maxHeartbeats 40000000 in
theorem c15m (Z : State) (hw : Wd Z tables_1) (h0 : Heap) (i : Int32) (l : Int32) (m : Addr)  (h1 : ¬ i < 0) (h2 : i < l) : Con Z B15 (List.toArray [.int i, .int l, .ref m]) h0 (Q15m i h0) := by
  refine Con.mk hw pn15 (fun mid => ef15m mid i l m) (Go.old fun hle' => ?_)
  have hle := hle'.1
  refine Go.iloadN 1 rfl d15_0 rfl ?_
  refine Go.if_lt 9 4 d15_1 (by decide) rfl rfl (fun (b1 : i < 0) => ?_) (fun (b1 : ¬ i < 0) => ?_)
  · exact absurd b1 h1
  · refine Go.iloadN 5 rfl d15_4 rfl ?_
    refine Go.iloadN 6 rfl d15_5 rfl ?_
    refine Go.icmp_lt 16 9 d15_6 (by decide) rfl rfl (fun (b2 : i < l) => ?_) (fun (b2 : ¬ i < l) => ?_)
    · refine Go.iloadN 17 rfl d15_16 rfl ?_
      exact Go.retI d15_17 rfl (by decide) (by decide) ⟨rfl, rfl⟩
    · exact absurd h2 b2
theorem ef15u (mid : MethodId) (i : Int32) (l : Int32) : entryFrame mid (List.toArray [.int i, .int l, .null]) 3 = mkF mid 0 #[.val (.int i), .val (.int l), .val (.null)] [] := by first | (simp [entryFrame, mkF, argsToLocals, Value.category]; done) | rfl
def Q15u (i : Int32) (h0 : Heap) (v : Option Value) (h : Heap) : Prop := v = some (.int i) ∧ h0 = h
set_option maxRecDepth 65536 in
set_option maxHeartbeats 40000000 in
theorem c15u (Z : State) (hw : Wd Z tables_1) (h0 : Heap) (i : Int32) (l : Int32)  (h1 : ¬ i < 0) (h2 : i < l) : Con Z B15 (List.toArray [.int i, .int l, .null]) h0 (Q15u i h0) := by
  refine Con.mk hw pn15 (fun mid => ef15u mid i l) (Go.old fun hle' => ?_)
  have hle := hle'.1
  refine Go.iloadN 1 rfl d15_0 rfl ?_
  refine Go.if_lt 9 4 d15_1 (by decide) rfl rfl (fun (b1 : i < 0) => ?_) (fun (b1 : ¬ i < 0) => ?_)
  · exact absurd b1 h1
  · refine Go.iloadN 5 rfl d15_4 rfl ?_
    refine Go.iloadN 6 rfl d15_5 rfl ?_
    refine Go.icmp_lt 16 9 d15_6 (by decide) rfl rfl (fun (b2 : i < l) => ?_) (fun (b2 : ¬ i < l) => ?_)
    · refine Go.iloadN 17 rfl d15_16 rfl ?_
      exact Go.retI d15_17 rfl (by decide) (by decide) ⟨rfl, rfl⟩
    · exact absurd h2 b2
theorem d14_0 : decode jdk_42_method_155_code 0 = .ok (.iload_n 0, 1) := by decide +kernel
theorem d14_1 : decode jdk_42_method_155_code 1 = .ok (.iload_n 1, 1) := by decide +kernel
theorem d14_2 : decode jdk_42_method_155_code 2 = .ok (.getstatic 1053, 3) := by decide +kernel
theorem d14_5 : decode jdk_42_method_155_code 5 = .ok (.invokestatic 1059, 3) := by decide +kernel
theorem d14_8 : decode jdk_42_method_155_code 8 = .ok (.pop, 1) := by decide +kernel
theorem d14_9 : decode jdk_42_method_155_code 9 = .ok (.return_, 1) := by decide +kernel
theorem pd14 : parseMethodDescriptor "(II)V" = some ⟨[.int, .int], none⟩ := by decide +kernel
theorem pn14 : plainFor (⟨"java/lang/String", "checkIndex", "(II)V"⟩ : MethodName) = true := by first | (refine plainFor_of_name ?_; simp [plainName, overriddenIn]; done) | (refine plainFor_of_name ?_; decide +kernel) | decide +kernel
abbrev B14 : Bd := ((⟨"java/lang/String", "checkIndex", "(II)V"⟩ : MethodName), jdk_42_method_155_code, 2, none, ({ frames := 1, cells := 0, slots := 0, locals := 14 } : Room), tables_1)
theorem ef14 (mid : MethodId) (i : Int32) (l : Int32) : entryFrame mid (List.toArray [.int i, .int l]) 2 = mkF mid 0 #[.val (.int i), .val (.int l)] [] := by first | (simp [entryFrame, mkF, argsToLocals, Value.category]; done) | rfl
def Q14 (h0 : Heap) (v : Option Value) (h : Heap) : Prop := v = none ∧ h0 = h
set_option maxRecDepth 65536 in
set_option maxHeartbeats 40000000 in
theorem c14 (Z : State) (hw : Wd Z tables_1) (h0 : Heap) (i : Int32) (l : Int32)  (hfm : (Sta Z Z.heap "jdk/internal/util/Preconditions" "SIOOBE_FORMATTER" "Ljava/util/function/BiFunction;" .null) ∨ ∃ m, Sta Z Z.heap "jdk/internal/util/Preconditions" "SIOOBE_FORMATTER" "Ljava/util/function/BiFunction;" (.ref m)) (h1 : ¬ i < 0) (h2 : i < l) : Con Z B14 (List.toArray [.int i, .int l]) h0 (Q14 h0) := by
  refine Con.mk hw pn14 (fun mid => ef14 mid i l) (Go.old fun hle' => ?_)
  have hle := hle'.1
  rcases hfm with hfm | ⟨m, hfm⟩
  · refine Go.iloadN 1 rfl d14_0 rfl ?_
    refine Go.iloadN 2 rfl d14_1 rfl ?_
    refine Go.getS 5 rfl (v := .null) 73 d14_2 rfl hfm ?_
    refine Go.callS 8 rfl (C := B15) [.int i, .int l, .null] (rest := []) 75 76 74 77 (c15u Z hw h0 i l h1 h2) d14_5 rfl rfl rfl rfl (by decide) pd15 rfl rfl rfl (W := 0) (Nat.le_of_ble_eq_true rfl) (by decide) (by decide) (by decide) (by decide) fun v1 h2 q3 => ?_
    obtain ⟨rfl, rfl⟩ := q3
    refine Go.pop 9 rfl d14_8 rfl ?_
    exact Go.retV d14_9 rfl (by decide) (by decide) ⟨rfl, rfl⟩
  · refine Go.iloadN 1 rfl d14_0 rfl ?_
    refine Go.iloadN 2 rfl d14_1 rfl ?_
    refine Go.getS 5 rfl (v := .ref m) 73 d14_2 rfl hfm ?_
    refine Go.callS 8 rfl (C := B15) [.int i, .int l, .ref m] (rest := []) 75 76 74 77 (c15m Z hw h0 i l m h1 h2) d14_5 rfl rfl rfl rfl (by decide) pd15 rfl rfl rfl (W := 0) (Nat.le_of_ble_eq_true rfl) (by decide) (by decide) (by decide) (by decide) fun v4 h5 q6 => ?_
    obtain ⟨rfl, rfl⟩ := q6
    refine Go.pop 9 rfl d14_8 rfl ?_
    exact Go.retV d14_9 rfl (by decide) (by decide) ⟨rfl, rfl⟩
theorem d13_0 : decode jdk_43_method_2_code 0 = .ok (.iload_n 1, 1) := by decide +kernel
theorem d13_1 : decode jdk_43_method_2_code 1 = .ok (.aload_n 0, 1) := by decide +kernel
theorem d13_2 : decode jdk_43_method_2_code 2 = .ok (.arraylength, 1) := by decide +kernel
theorem d13_3 : decode jdk_43_method_2_code 3 = .ok (.invokestatic 9, 3) := by decide +kernel
theorem d13_6 : decode jdk_43_method_2_code 6 = .ok (.aload_n 0, 1) := by decide +kernel
theorem d13_7 : decode jdk_43_method_2_code 7 = .ok (.iload_n 1, 1) := by decide +kernel
theorem d13_8 : decode jdk_43_method_2_code 8 = .ok (.baload, 1) := by decide +kernel
theorem d13_9 : decode jdk_43_method_2_code 9 = .ok (.sipush 255, 3) := by decide +kernel
theorem d13_12 : decode jdk_43_method_2_code 12 = .ok (.iand, 1) := by decide +kernel
theorem d13_13 : decode jdk_43_method_2_code 13 = .ok (.i2c, 1) := by decide +kernel
theorem d13_14 : decode jdk_43_method_2_code 14 = .ok (.ireturn, 1) := by decide +kernel
theorem pd13 : parseMethodDescriptor "([BI)C" = some ⟨[(.array .byte), .int], some .char⟩ := by decide +kernel
theorem pn13 : plainFor (⟨"java/lang/StringLatin1", "charAt", "([BI)C"⟩ : MethodName) = true := by first | (refine plainFor_of_name ?_; simp [plainName, overriddenIn]; done) | (refine plainFor_of_name ?_; decide +kernel) | decide +kernel
abbrev B13 : Bd := ((⟨"java/lang/StringLatin1", "charAt", "([BI)C"⟩ : MethodName), jdk_43_method_2_code, 2, (some .char), ({ frames := 2, cells := 0, slots := 0, locals := 27 } : Room), tables_1)
theorem ef13 (mid : MethodId) (t : Addr) (j : Int32) : entryFrame mid (List.toArray [.ref t, .int j]) 2 = mkF mid 0 #[.val (.ref t), .val (.int j)] [] := by first | (simp [entryFrame, mkF, argsToLocals, Value.category]; done) | rfl
def Q13 (x : Int32) (h0 : Heap) (v : Option Value) (h : Heap) : Prop := v = some (.int x) ∧ h0 = h
set_option maxRecDepth 65536 in
set_option maxHeartbeats 40000000 in
theorem c13 (Z : State) (hw : Wd Z tables_1) (h0 : Heap) (t : Addr) (j : Int32) (x : Int32) (us : List Int32) (jn : Nat) (hj : j.toInt = jn) (hj9 : jn < 9) (hfm : (Sta Z Z.heap "jdk/internal/util/Preconditions" "SIOOBE_FORMATTER" "Ljava/util/function/BiFunction;" .null) ∨ ∃ m, Sta Z Z.heap "jdk/internal/util/Preconditions" "SIOOBE_FORMATTER" "Ljava/util/function/BiFunction;" (.ref m)) (hlen : us.length < 2 ^ 31) (hlt : jn < us.length) (hc : gl (us.getD jn 0) = x) (hA : Ary Z h0 t .byte (IL us)) : Con Z B13 (List.toArray [.ref t, .int j]) h0 (Q13 x h0) := by
  refine Con.mk hw pn13 (fun mid => ef13 mid t j) (Go.old fun hle' => ?_)
  have hle := hle'.1
  refine Go.iloadN 1 rfl d13_0 rfl ?_
  refine Go.aloadN 2 rfl d13_1 rfl rfl ?_
  refine Go.alen 3 rfl (Int32.ofNat us.length) d13_2 hA (by rw [IL.len]; exact len_ofNat hlen) ?_
  refine Go.callS 6 rfl (C := B14) [.int j, .int (Int32.ofNat us.length)] (rest := []) 70 71 2 72 (c14 Z hw h0 j (Int32.ofNat us.length) hfm (own_jn hj) (own_jl hj hlt hlen)) d13_3 rfl rfl rfl rfl (by decide) pd14 rfl rfl rfl (W := 0) (Nat.le_of_ble_eq_true rfl) (by decide) (by decide) (by decide) (by decide) fun v1 h2 q3 => ?_
  obtain ⟨rfl, rfl⟩ := q3
  refine Go.aloadN 7 rfl d13_6 rfl rfl ?_
  refine Go.iloadN 8 rfl d13_7 rfl ?_
  refine Go.baload 9 rfl (us.getD jn 0) d13_8 hA jn hj (IL.get hlt) ?_
  refine Go.sipush 12 rfl (255 : Int32) d13_9 rfl ?_
  refine Go.iand 13 rfl d13_12 ?_
  refine Go.i2c 14 rfl d13_13 ?_
  exact Go.retN (t := .char) (z' := (gl (us.getD jn 0))) d13_14 rfl (by decide) rfl (by decide) (by decide) ⟨by rw [← hc], rfl⟩
theorem d23_0 : decode jdk_52_method_6_code 0 = .ok (.aload_n 0, 1) := by decide +kernel
theorem d23_1 : decode jdk_52_method_6_code 1 = .ok (.arraylength, 1) := by decide +kernel
theorem d23_2 : decode jdk_52_method_6_code 2 = .ok (.iconst 1, 1) := by decide +kernel
theorem d23_3 : decode jdk_52_method_6_code 3 = .ok (.ishr, 1) := by decide +kernel
theorem d23_4 : decode jdk_52_method_6_code 4 = .ok (.ireturn, 1) := by decide +kernel
theorem pd23 : parseMethodDescriptor "([B)I" = some ⟨[(.array .byte)], some .int⟩ := by decide +kernel
theorem pn23 : plainFor (⟨"java/lang/StringUTF16", "length", "([B)I"⟩ : MethodName) = true := by first | (refine plainFor_of_name ?_; simp [plainName, overriddenIn]; done) | (refine plainFor_of_name ?_; decide +kernel) | decide +kernel
abbrev B23 : Bd := ((⟨"java/lang/StringUTF16", "length", "([B)I"⟩ : MethodName), jdk_52_method_6_code, 1, (some .int), ({ frames := 0, cells := 0, slots := 0, locals := 0 } : Room), tables_1)
theorem ef23 (mid : MethodId) (t : Addr) : entryFrame mid (List.toArray [.ref t]) 1 = mkF mid 0 #[.val (.ref t)] [] := by first | (simp [entryFrame, mkF, argsToLocals, Value.category]; done) | rfl
def Q23 (R : Int32) (h0 : Heap) (v : Option Value) (h : Heap) : Prop := v = some (.int R) ∧ h0 = h
set_option maxRecDepth 65536 in
set_option maxHeartbeats 40000000 in
theorem c23 (Z : State) (hw : Wd Z tables_1) (h0 : Heap) (t : Addr) (R : Int32) (vs : List Value) (L : Int32) (hL : L.toInt = vs.length) (hR : L >>> ((1 : Int32) &&& 31) = R) (hA : Ary Z h0 t .byte vs) : Con Z B23 (List.toArray [.ref t]) h0 (Q23 R h0) := by
  refine Con.mk hw pn23 (fun mid => ef23 mid t) (Go.old fun hle' => ?_)
  have hle := hle'.1
  refine Go.aloadN 1 rfl d23_0 rfl rfl ?_
  refine Go.alen 2 rfl L d23_1 hA hL ?_
  refine Go.iconst 3 rfl (1 : Int32) d23_2 rfl ?_
  refine Go.ishr 4 rfl d23_3 ?_
  refine Go.eqI (w := R) hR ?_
  exact Go.retI d23_4 rfl (by decide) (by decide) ⟨rfl, rfl⟩
theorem d22_0 : decode jdk_52_method_91_code 0 = .ok (.iload_n 0, 1) := by decide +kernel
theorem d22_1 : decode jdk_52_method_91_code 1 = .ok (.aload_n 1, 1) := by decide +kernel
theorem d22_2 : decode jdk_52_method_91_code 2 = .ok (.invokestatic 48, 3) := by decide +kernel
theorem d22_5 : decode jdk_52_method_91_code 5 = .ok (.invokestatic 414, 3) := by decide +kernel
theorem d22_8 : decode jdk_52_method_91_code 8 = .ok (.return_, 1) := by decide +kernel
theorem pd22 : parseMethodDescriptor "(I[B)V" = some ⟨[.int, (.array .byte)], none⟩ := by decide +kernel
theorem pn22 : plainFor (⟨"java/lang/StringUTF16", "checkIndex", "(I[B)V"⟩ : MethodName) = true := by first | (refine plainFor_of_name ?_; simp [plainName, overriddenIn]; done) | (refine plainFor_of_name ?_; decide +kernel) | decide +kernel
abbrev B22 : Bd := ((⟨"java/lang/StringUTF16", "checkIndex", "(I[B)V"⟩ : MethodName), jdk_52_method_91_code, 2, none, ({ frames := 2, cells := 0, slots := 0, locals := 27 } : Room), tables_1)
theorem ef22 (mid : MethodId) (j : Int32) (t : Addr) : entryFrame mid (List.toArray [.int j, .ref t]) 2 = mkF mid 0 #[.val (.int j), .val (.ref t)] [] := by first | (simp [entryFrame, mkF, argsToLocals, Value.category]; done) | rfl
def Q22 (h0 : Heap) (v : Option Value) (h : Heap) : Prop := v = none ∧ h0 = h
set_option maxRecDepth 65536 in
set_option maxHeartbeats 40000000 in
theorem c22 (Z : State) (hw : Wd Z tables_1) (h0 : Heap) (j : Int32) (t : Addr)  (us : List Int32) (hfm : (Sta Z Z.heap "jdk/internal/util/Preconditions" "SIOOBE_FORMATTER" "Ljava/util/function/BiFunction;" .null) ∨ ∃ m, Sta Z Z.heap "jdk/internal/util/Preconditions" "SIOOBE_FORMATTER" "Ljava/util/function/BiFunction;" (.ref m)) (L : Int32) (R : Int32) (hL : L.toInt = us.length) (hR : L >>> ((1 : Int32) &&& 31) = R) (hjR : j < R) (h1 : ¬ j < 0) (hA : Ary Z h0 t .byte (IL us)) : Con Z B22 (List.toArray [.int j, .ref t]) h0 (Q22 h0) := by
  refine Con.mk hw pn22 (fun mid => ef22 mid j t) (Go.old fun hle' => ?_)
  have hle := hle'.1
  refine Go.iloadN 1 rfl d22_0 rfl ?_
  refine Go.aloadN 2 rfl d22_1 rfl rfl ?_
  refine Go.callS 5 rfl (C := B23) [.ref t] (rest := [.int j]) 106 107 25 108 (c23 Z hw h0 t R (IL us) L (by rw [IL.len]; exact hL) hR hA) d22_2 rfl rfl rfl rfl (by decide) pd23 rfl rfl rfl (W := 1) (Nat.le_of_ble_eq_true rfl) (by decide) (by decide) (by decide) (by decide) fun v1 h2 q3 => ?_
  obtain ⟨rfl, rfl⟩ := q3
  refine Go.callS 8 rfl (C := B14) [.int j, .int R] (rest := []) 109 71 2 72 (c14 Z hw h0 j R hfm h1 hjR) d22_5 rfl rfl rfl rfl (by decide) pd14 rfl rfl rfl (W := 0) (Nat.le_of_ble_eq_true rfl) (by decide) (by decide) (by decide) (by decide) fun v4 h5 q6 => ?_
  obtain ⟨rfl, rfl⟩ := q6
  exact Go.retV d22_8 rfl (by decide) (by decide) ⟨rfl, rfl⟩
theorem d21_0 : decode jdk_52_method_83_code 0 = .ok (.iload_n 1, 1) := by decide +kernel
theorem d21_1 : decode jdk_52_method_83_code 1 = .ok (.aload_n 0, 1) := by decide +kernel
theorem d21_2 : decode jdk_52_method_83_code 2 = .ok (.invokestatic 67, 3) := by decide +kernel
theorem d21_5 : decode jdk_52_method_83_code 5 = .ok (.aload_n 0, 1) := by decide +kernel
theorem d21_6 : decode jdk_52_method_83_code 6 = .ok (.iload_n 1, 1) := by decide +kernel
theorem d21_7 : decode jdk_52_method_83_code 7 = .ok (.invokestatic 71, 3) := by decide +kernel
theorem d21_10 : decode jdk_52_method_83_code 10 = .ok (.ireturn, 1) := by decide +kernel
theorem pd21 : parseMethodDescriptor "([BI)C" = some ⟨[(.array .byte), .int], some .char⟩ := by decide +kernel
theorem pn21 : plainFor (⟨"java/lang/StringUTF16", "charAt", "([BI)C"⟩ : MethodName) = true := by first | (refine plainFor_of_name ?_; simp [plainName, overriddenIn]; done) | (refine plainFor_of_name ?_; decide +kernel) | decide +kernel
abbrev B21 : Bd := ((⟨"java/lang/StringUTF16", "charAt", "([BI)C"⟩ : MethodName), jdk_52_method_83_code, 2, (some .char), ({ frames := 3, cells := 0, slots := 0, locals := 40 } : Room), tables_1)
theorem ef21 (mid : MethodId) (t : Addr) (j : Int32) : entryFrame mid (List.toArray [.ref t, .int j]) 2 = mkF mid 0 #[.val (.ref t), .val (.int j)] [] := by first | (simp [entryFrame, mkF, argsToLocals, Value.category]; done) | rfl
def Q21 (x : Int32) (h0 : Heap) (v : Option Value) (h : Heap) : Prop := v = some (.int x) ∧ h0 = h
set_option maxRecDepth 65536 in
set_option maxHeartbeats 40000000 in
theorem c21 (Z : State) (hw : Wd Z tables_1) (h0 : Heap) (t : Addr) (j : Int32) (x : Int32) (us : List Int32) (jn : Nat) (hj : j.toInt = jn) (hj9 : jn < 9) (hAs : Sta Z Z.heap "java/lang/StringUTF16" "$assertionsDisabled" "Z" (.int 1)) (hHi : Sta Z Z.heap "java/lang/StringUTF16" "HI_BYTE_SHIFT" "I" (.int 0)) (hLo : Sta Z Z.heap "java/lang/StringUTF16" "LO_BYTE_SHIFT" "I" (.int 8)) (hfm : (Sta Z Z.heap "jdk/internal/util/Preconditions" "SIOOBE_FORMATTER" "Ljava/util/function/BiFunction;" .null) ∨ ∃ m, Sta Z Z.heap "jdk/internal/util/Preconditions" "SIOOBE_FORMATTER" "Ljava/util/function/BiFunction;" (.ref m)) (L : Int32) (R : Int32) (hL : L.toInt = us.length) (hR : L >>> ((1 : Int32) &&& 31) = R) (hjR : j < R) (hlt : 2 * jn + 1 < us.length) (hc : gc (us.getD (2 * jn) 0) (us.getD (2 * jn + 1) 0) = x) (hx : Ch x) (hA : Ary Z h0 t .byte (IL us)) : Con Z B21 (List.toArray [.ref t, .int j]) h0 (Q21 x h0) := by
  refine Con.mk hw pn21 (fun mid => ef21 mid t j) (Go.old fun hle' => ?_)
  have hle := hle'.1
  refine Go.iloadN 1 rfl d21_0 rfl ?_
  refine Go.aloadN 2 rfl d21_1 rfl rfl ?_
  refine Go.callS 5 rfl (C := B22) [.int j, .ref t] (rest := []) 103 104 25 105 (c22 Z hw h0 j t us hfm L R hL hR hjR (own_jn hj) hA) d21_2 rfl rfl rfl rfl (by decide) pd22 rfl rfl rfl (W := 0) (Nat.le_of_ble_eq_true rfl) (by decide) (by decide) (by decide) (by decide) fun v1 h2 q3 => ?_
  obtain ⟨rfl, rfl⟩ := q3
  refine Go.aloadN 6 rfl d21_5 rfl rfl ?_
  refine Go.iloadN 7 rfl d21_6 rfl ?_
  refine Go.callS 10 rfl (C := B20) [.ref t, .int j] (rest := []) 97 98 25 99 (c20 Z hw h0 t j us jn hj hj9 hAs hHi hLo hlt hA) d21_7 rfl rfl rfl rfl (by decide) pd20 rfl rfl rfl (W := 0) (Nat.le_of_ble_eq_true rfl) (by decide) (by decide) (by decide) (by decide) fun v4 h5 q6 => ?_
  obtain ⟨rfl, rfl⟩ := q6
  refine Go.eqI (w := x) hc ?_
  exact Go.retN (t := .char) (z' := x) d21_10 rfl (by decide) (own_nc hx) (by decide) (by decide) ⟨rfl, rfl⟩
theorem d11_0 : decode jdk_42_method_56_code 0 = .ok (.aload_n 0, 1) := by decide +kernel
theorem d11_1 : decode jdk_42_method_56_code 1 = .ok (.invokevirtual 492, 3) := by decide +kernel
theorem d11_4 : decode jdk_42_method_56_code 4 = .ok (.ifCond .eq 12, 3) := by decide +kernel
theorem d11_7 : decode jdk_42_method_56_code 7 = .ok (.aload_n 0, 1) := by decide +kernel
theorem d11_8 : decode jdk_42_method_56_code 8 = .ok (.getfield 9, 3) := by decide +kernel
theorem d11_11 : decode jdk_42_method_56_code 11 = .ok (.iload_n 1, 1) := by decide +kernel
theorem d11_12 : decode jdk_42_method_56_code 12 = .ok (.invokestatic 495, 3) := by decide +kernel
theorem d11_15 : decode jdk_42_method_56_code 15 = .ok (.ireturn, 1) := by decide +kernel
theorem d11_16 : decode jdk_42_method_56_code 16 = .ok (.aload_n 0, 1) := by decide +kernel
theorem d11_17 : decode jdk_42_method_56_code 17 = .ok (.getfield 9, 3) := by decide +kernel
theorem d11_20 : decode jdk_42_method_56_code 20 = .ok (.iload_n 1, 1) := by decide +kernel
theorem d11_21 : decode jdk_42_method_56_code 21 = .ok (.invokestatic 498, 3) := by decide +kernel
theorem d11_24 : decode jdk_42_method_56_code 24 = .ok (.ireturn, 1) := by decide +kernel
theorem pd11 : parseMethodDescriptor "(I)C" = some ⟨[.int], some .char⟩ := by decide +kernel
theorem pn11 : plainFor (⟨"java/lang/String", "charAt", "(I)C"⟩ : MethodName) = true := by first | (refine plainFor_of_name ?_; simp [plainName, overriddenIn]; done) | (refine plainFor_of_name ?_; decide +kernel) | decide +kernel
abbrev B11 : Bd := ((⟨"java/lang/String", "charAt", "(I)C"⟩ : MethodName), jdk_42_method_56_code, 2, (some .char), ({ frames := 4, cells := 0, slots := 0, locals := 53 } : Room), tables_1)
theorem ef11k1 (mid : MethodId) (a : Addr) (j : Int32) : entryFrame mid (List.toArray [.ref a, .int j]) 2 = mkF mid 0 #[.val (.ref a), .val (.int j)] [] := by first | (simp [entryFrame, mkF, argsToLocals, Value.category]; done) | rfl
def Q11k1 (x : Int32) (h0 : Heap) (v : Option Value) (h : Heap) : Prop := v = some (.int x) ∧ h0 = h
set_option maxRecDepth 65536 in
set_option maxHeartbeats 40000000 in
theorem c11k1 (Z : State) (hw : Wd Z tables_1) (h0 : Heap) (a : Addr) (j : Int32) (x : Int32) (cs : Int32) (hS : Sta Z Z.heap "java/lang/String" "COMPACT_STRINGS" "Z" (.int cs)) (hcs : ¬ cs = 0) (hAs : Sta Z Z.heap "java/lang/StringUTF16" "$assertionsDisabled" "Z" (.int 1)) (hHi : Sta Z Z.heap "java/lang/StringUTF16" "HI_BYTE_SHIFT" "I" (.int 0)) (hLo : Sta Z Z.heap "java/lang/StringUTF16" "LO_BYTE_SHIFT" "I" (.int 8)) (hfm : (Sta Z Z.heap "jdk/internal/util/Preconditions" "SIOOBE_FORMATTER" "Ljava/util/function/BiFunction;" .null) ∨ ∃ m, Sta Z Z.heap "jdk/internal/util/Preconditions" "SIOOBE_FORMATTER" "Ljava/util/function/BiFunction;" (.ref m)) (t : Addr) (us : List Int32) (jn : Nat) (hj : j.toInt = jn) (hj9 : jn < 9) (hE : Exa Z h0 a "java/lang/String") (hV : Fld Z h0 a "java/lang/String" "value" "[B" (.ref t)) (hA : Ary Z h0 t .byte (IL us)) (hx : Ch x) (hC : Fld Z h0 a "java/lang/String" "coder" "B" (.int 1)) (L : Int32) (R : Int32) (hL : L.toInt = us.length) (hR : L >>> ((1 : Int32) &&& 31) = R) (hjR : j < R) (hlt : 2 * jn + 1 < us.length) (hc : gc (us.getD (2 * jn) 0) (us.getD (2 * jn + 1) 0) = x) : Con Z B11 (List.toArray [.ref a, .int j]) h0 (Q11k1 x h0) := by
  refine Con.mk hw pn11 (fun mid => ef11k1 mid a j) (Go.old fun hle' => ?_)
  have hle := hle'.1
  refine Go.aloadN 1 rfl d11_0 rfl rfl ?_
  refine Go.callV 4 rfl (C := B12) a [] (rest := []) 61 62 64 63 2 65 (c12k1 Z hw h0 a cs hS hcs hC) hE d11_1 rfl rfl rfl rfl rfl rfl (by decide) pd12 rfl rfl rfl (W := 0) (Nat.le_of_ble_eq_true rfl) (by decide) (by decide) (by decide) (by decide) fun v1 h2 q3 => ?_
  obtain ⟨rfl, rfl⟩ := q3
  refine Go.if_eq 16 7 d11_4 (by decide) rfl rfl (fun (b4 : (0 : Int32) = 0) => ?_) (fun (b4 : ¬ (0 : Int32) = 0) => ?_)
  · refine Go.aloadN 17 rfl d11_16 rfl rfl ?_
    refine Go.getF 20 rfl (v := .ref t) 20 d11_17 rfl hV ?_
    refine Go.iloadN 21 rfl d11_20 rfl ?_
    refine Go.callS 24 rfl (C := B21) [.ref t, .int j] (rest := []) 100 101 25 102 (c21 Z hw h0 t j x us jn hj hj9 hAs hHi hLo hfm L R hL hR hjR hlt hc hx hA) d11_21 rfl rfl rfl rfl (by decide) pd21 rfl rfl rfl (W := 0) (Nat.le_of_ble_eq_true rfl) (by decide) (by decide) (by decide) (by decide) fun v5 h6 q7 => ?_
    obtain ⟨rfl, rfl⟩ := q7
    exact Go.retN (t := .char) (z' := x) d11_24 rfl (by decide) (own_nc hx) (by decide) (by decide) ⟨rfl, rfl⟩
  · exact absurd (show (0 : Int32) = 0 from by decide) b4
theorem ef11k0 (mid : MethodId) (a : Addr) (j : Int32) : entryFrame mid (List.toArray [.ref a, .int j]) 2 = mkF mid 0 #[.val (.ref a), .val (.int j)] [] := by first | (simp [entryFrame, mkF, argsToLocals, Value.category]; done) | rfl
def Q11k0 (x : Int32) (h0 : Heap) (v : Option Value) (h : Heap) : Prop := v = some (.int x) ∧ h0 = h
set_option maxRecDepth 65536 in
set_option maxHeartbeats 40000000 in
theorem c11k0 (Z : State) (hw : Wd Z tables_1) (h0 : Heap) (a : Addr) (j : Int32) (x : Int32) (cs : Int32) (hS : Sta Z Z.heap "java/lang/String" "COMPACT_STRINGS" "Z" (.int cs)) (hcs : ¬ cs = 0) (hAs : Sta Z Z.heap "java/lang/StringUTF16" "$assertionsDisabled" "Z" (.int 1)) (hHi : Sta Z Z.heap "java/lang/StringUTF16" "HI_BYTE_SHIFT" "I" (.int 0)) (hLo : Sta Z Z.heap "java/lang/StringUTF16" "LO_BYTE_SHIFT" "I" (.int 8)) (hfm : (Sta Z Z.heap "jdk/internal/util/Preconditions" "SIOOBE_FORMATTER" "Ljava/util/function/BiFunction;" .null) ∨ ∃ m, Sta Z Z.heap "jdk/internal/util/Preconditions" "SIOOBE_FORMATTER" "Ljava/util/function/BiFunction;" (.ref m)) (t : Addr) (us : List Int32) (jn : Nat) (hj : j.toInt = jn) (hj9 : jn < 9) (hE : Exa Z h0 a "java/lang/String") (hV : Fld Z h0 a "java/lang/String" "value" "[B" (.ref t)) (hA : Ary Z h0 t .byte (IL us)) (hx : Ch x) (hC : Fld Z h0 a "java/lang/String" "coder" "B" (.int 0)) (hlen : us.length < 2 ^ 31) (hlt : jn < us.length) (hc : gl (us.getD jn 0) = x) : Con Z B11 (List.toArray [.ref a, .int j]) h0 (Q11k0 x h0) := by
  refine Con.mk hw pn11 (fun mid => ef11k0 mid a j) (Go.old fun hle' => ?_)
  have hle := hle'.1
  refine Go.aloadN 1 rfl d11_0 rfl rfl ?_
  refine Go.callV 4 rfl (C := B12) a [] (rest := []) 61 62 64 63 2 65 (c12k0 Z hw h0 a cs hS hcs hC) hE d11_1 rfl rfl rfl rfl rfl rfl (by decide) pd12 rfl rfl rfl (W := 0) (Nat.le_of_ble_eq_true rfl) (by decide) (by decide) (by decide) (by decide) fun v1 h2 q3 => ?_
  obtain ⟨rfl, rfl⟩ := q3
  refine Go.if_eq 16 7 d11_4 (by decide) rfl rfl (fun (b4 : (1 : Int32) = 0) => ?_) (fun (b4 : ¬ (1 : Int32) = 0) => ?_)
  · exact absurd b4 (show ¬ (1 : Int32) = 0 from by decide)
  · refine Go.aloadN 8 rfl d11_7 rfl rfl ?_
    refine Go.getF 11 rfl (v := .ref t) 20 d11_8 rfl hV ?_
    refine Go.iloadN 12 rfl d11_11 rfl ?_
    refine Go.callS 15 rfl (C := B13) [.ref t, .int j] (rest := []) 66 67 68 69 (c13 Z hw h0 t j x us jn hj hj9 hfm hlen hlt hc hA) d11_12 rfl rfl rfl rfl (by decide) pd13 rfl rfl rfl (W := 0) (Nat.le_of_ble_eq_true rfl) (by decide) (by decide) (by decide) (by decide) fun v5 h6 q7 => ?_
    obtain ⟨rfl, rfl⟩ := q7
    exact Go.retN (t := .char) (z' := x) d11_15 rfl (by decide) (own_nc hx) (by decide) (by decide) ⟨rfl, rfl⟩
theorem d7_0 : decode prog_46_method_9_code 0 = .ok (.ldc2_w 115, 3) := by decide +kernel
theorem d7_3 : decode prog_46_method_9_code 3 = .ok (.lstore_n 1, 1) := by decide +kernel
theorem d7_4 : decode prog_46_method_9_code 4 = .ok (.iconst 0, 1) := by decide +kernel
theorem d7_5 : decode prog_46_method_9_code 5 = .ok (.istore_n 3, 1) := by decide +kernel
theorem d7_6 : decode prog_46_method_9_code 6 = .ok (.iload_n 3, 1) := by decide +kernel
theorem d7_7 : decode prog_46_method_9_code 7 = .ok (.aload_n 0, 1) := by decide +kernel
theorem d7_8 : decode prog_46_method_9_code 8 = .ok (.invokevirtual 38, 3) := by decide +kernel
theorem d7_11 : decode prog_46_method_9_code 11 = .ok (.if_icmp .ge 22, 3) := by decide +kernel
theorem d7_14 : decode prog_46_method_9_code 14 = .ok (.lload_n 1, 1) := by decide +kernel
theorem d7_15 : decode prog_46_method_9_code 15 = .ok (.aload_n 0, 1) := by decide +kernel
theorem d7_16 : decode prog_46_method_9_code 16 = .ok (.iload_n 3, 1) := by decide +kernel
theorem d7_17 : decode prog_46_method_9_code 17 = .ok (.invokevirtual 43, 3) := by decide +kernel
theorem d7_20 : decode prog_46_method_9_code 20 = .ok (.i2l, 1) := by decide +kernel
theorem d7_21 : decode prog_46_method_9_code 21 = .ok (.lxor, 1) := by decide +kernel
theorem d7_22 : decode prog_46_method_9_code 22 = .ok (.ldc2_w 117, 3) := by decide +kernel
theorem d7_25 : decode prog_46_method_9_code 25 = .ok (.lmul, 1) := by decide +kernel
theorem d7_26 : decode prog_46_method_9_code 26 = .ok (.lstore_n 1, 1) := by decide +kernel
theorem d7_27 : decode prog_46_method_9_code 27 = .ok (.iinc 3 1, 3) := by decide +kernel
theorem d7_30 : decode prog_46_method_9_code 30 = .ok (.goto (-24), 3) := by decide +kernel
theorem d7_33 : decode prog_46_method_9_code 33 = .ok (.lload_n 1, 1) := by decide +kernel
theorem d7_34 : decode prog_46_method_9_code 34 = .ok (.lload_n 1, 1) := by decide +kernel
theorem d7_35 : decode prog_46_method_9_code 35 = .ok (.bipush 33, 2) := by decide +kernel
theorem d7_37 : decode prog_46_method_9_code 37 = .ok (.lushr, 1) := by decide +kernel
theorem d7_38 : decode prog_46_method_9_code 38 = .ok (.lxor, 1) := by decide +kernel
theorem d7_39 : decode prog_46_method_9_code 39 = .ok (.ldc2_w 119, 3) := by decide +kernel
theorem d7_42 : decode prog_46_method_9_code 42 = .ok (.lmul, 1) := by decide +kernel
theorem d7_43 : decode prog_46_method_9_code 43 = .ok (.lstore_n 1, 1) := by decide +kernel
theorem d7_44 : decode prog_46_method_9_code 44 = .ok (.lload_n 1, 1) := by decide +kernel
theorem d7_45 : decode prog_46_method_9_code 45 = .ok (.lload_n 1, 1) := by decide +kernel
theorem d7_46 : decode prog_46_method_9_code 46 = .ok (.bipush 33, 2) := by decide +kernel
theorem d7_48 : decode prog_46_method_9_code 48 = .ok (.lushr, 1) := by decide +kernel
theorem d7_49 : decode prog_46_method_9_code 49 = .ok (.lxor, 1) := by decide +kernel
theorem d7_50 : decode prog_46_method_9_code 50 = .ok (.ldc2_w 121, 3) := by decide +kernel
theorem d7_53 : decode prog_46_method_9_code 53 = .ok (.lmul, 1) := by decide +kernel
theorem d7_54 : decode prog_46_method_9_code 54 = .ok (.lstore_n 1, 1) := by decide +kernel
theorem d7_55 : decode prog_46_method_9_code 55 = .ok (.lload_n 1, 1) := by decide +kernel
theorem d7_56 : decode prog_46_method_9_code 56 = .ok (.lload_n 1, 1) := by decide +kernel
theorem d7_57 : decode prog_46_method_9_code 57 = .ok (.bipush 33, 2) := by decide +kernel
theorem d7_59 : decode prog_46_method_9_code 59 = .ok (.lushr, 1) := by decide +kernel
theorem d7_60 : decode prog_46_method_9_code 60 = .ok (.lxor, 1) := by decide +kernel
theorem d7_61 : decode prog_46_method_9_code 61 = .ok (.lreturn, 1) := by decide +kernel
theorem pd7 : parseMethodDescriptor "(Ljava/lang/String;)J" = some ⟨[(.object "java/lang/String")], some .long⟩ := by decide +kernel
theorem pn7 : plainFor (⟨"com/example/concordat/concordat/identity/Text", "hash", "(Ljava/lang/String;)J"⟩ : MethodName) = true := by first | (refine plainFor_of_name ?_; simp [plainName, overriddenIn]; done) | (refine plainFor_of_name ?_; decide +kernel) | decide +kernel
abbrev B7 : Bd := ((⟨"com/example/concordat/concordat/identity/Text", "hash", "(Ljava/lang/String;)J"⟩ : MethodName), prog_46_method_9_code, 4, (some .long), ({ frames := 5, cells := 0, slots := 0, locals := 68 } : Room), tables_1)
theorem ef7n4 (mid : MethodId) (a : Addr) : entryFrame mid (List.toArray [.ref a]) 4 = mkF mid 0 #[.val (.ref a), .unset, .unset, .unset] [] := by first | (simp [entryFrame, mkF, argsToLocals, Value.category]; done) | rfl
def Q7n4 (x0 : Int32) (x1 : Int32) (x2 : Int32) (x3 : Int32) (h0 : Heap) (v : Option Value) (h : Heap) : Prop := v = some (.long (mixf (((((((((-3750763034362895579 : Int64) ^^^ x0.toInt64) * (1099511628211 : Int64)) ^^^ x1.toInt64) * (1099511628211 : Int64)) ^^^ x2.toInt64) * (1099511628211 : Int64)) ^^^ x3.toInt64) * (1099511628211 : Int64)))) ∧ h0 = h
set_option maxRecDepth 65536 in
set_option maxHeartbeats 40000000 in
theorem c7n4 (Z : State) (hw : Wd Z tables_1) (h0 : Heap) (a : Addr) (x0 : Int32) (x1 : Int32) (x2 : Int32) (x3 : Int32) (cs : Int32) (hS : Sta Z Z.heap "java/lang/String" "COMPACT_STRINGS" "Z" (.int cs)) (hcs : ¬ cs = 0) (hAs : Sta Z Z.heap "java/lang/StringUTF16" "$assertionsDisabled" "Z" (.int 1)) (hHi : Sta Z Z.heap "java/lang/StringUTF16" "HI_BYTE_SHIFT" "I" (.int 0)) (hLo : Sta Z Z.heap "java/lang/StringUTF16" "LO_BYTE_SHIFT" "I" (.int 8)) (hfm : (Sta Z Z.heap "jdk/internal/util/Preconditions" "SIOOBE_FORMATTER" "Ljava/util/function/BiFunction;" .null) ∨ ∃ m, Sta Z Z.heap "jdk/internal/util/Preconditions" "SIOOBE_FORMATTER" "Ljava/util/function/BiFunction;" (.ref m)) (t : Addr) (hE : Exa Z h0 a "java/lang/String") (hV : Fld Z h0 a "java/lang/String" "value" "[B" (.ref t)) (hD : ((Fld Z h0 a "java/lang/String" "coder" "B" (.int 0) ∧ ¬ (255 : Int32) < x0 ∧ ¬ (255 : Int32) < x1 ∧ ¬ (255 : Int32) < x2 ∧ ¬ (255 : Int32) < x3 ∧ Ary Z h0 t .byte (IL [l1 x0, l1 x1, l1 x2, l1 x3])) ∨ (Fld Z h0 a "java/lang/String" "coder" "B" (.int 1) ∧ Ary Z h0 t .byte (IL [lo x0, hi x0, lo x1, hi x1, lo x2, hi x2, lo x3, hi x3])))) (hx0 : Ch x0) (hx1 : Ch x1) (hx2 : Ch x2) (hx3 : Ch x3) : Con Z B7 (List.toArray [.ref a]) h0 (Q7n4 x0 x1 x2 x3 h0) := by
  refine Con.mk hw pn7 (fun mid => ef7n4 mid a) (Go.old fun hle' => ?_)
  have hle := hle'.1
  rcases hD with ⟨hC, lg0, lg1, lg2, lg3, hA⟩ | ⟨hC, hA⟩
  · refine Go.ldc2J 3 rfl (v := (-3750763034362895579 : Int64)) 37 d7_0 rfl ?_
    refine Go.lstoreN 4 rfl d7_3 (Ls' := #[.val (.ref a), .val (.long (-3750763034362895579 : Int64)), .second, .unset]) rfl ?_
    refine Go.iconst 5 rfl (0 : Int32) d7_4 rfl ?_
    refine Go.istoreN 6 rfl d7_5 (Ls' := #[.val (.ref a), .val (.long (-3750763034362895579 : Int64)), .second, .val (.int (0 : Int32))]) rfl ?_
    refine Go.iloadN 7 rfl d7_6 rfl ?_
    refine Go.aloadN 8 rfl d7_7 rfl rfl ?_
    refine Go.callV 11 rfl (C := B8) a [] (rest := [.int (0 : Int32)]) 38 39 41 40 2 42 (c8k0 Z hw h0 a (4 : Int32) cs hS hcs t (IL [l1 x0, l1 x1, l1 x2, l1 x3]) (4 : Int32) rfl (by decide) hE hV hC hA) hE d7_8 rfl rfl rfl rfl rfl rfl (by decide) pd8 rfl rfl rfl (W := 1) (Nat.le_of_ble_eq_true rfl) (by decide) (by decide) (by decide) (by decide) fun v1 h2 q3 => ?_
    obtain ⟨rfl, rfl⟩ := q3
    refine Go.icmp_ge 33 14 d7_11 (by decide) rfl rfl (fun (b4 : ¬ (0 : Int32) < (4 : Int32)) => ?_) (fun (b4 : (0 : Int32) < (4 : Int32)) => ?_)
    · exact absurd (show (0 : Int32) < (4 : Int32) from by decide) b4
    · refine Go.lloadN 15 rfl d7_14 rfl ?_
      refine Go.aloadN 16 rfl d7_15 rfl rfl ?_
      refine Go.iloadN 17 rfl d7_16 rfl ?_
      refine Go.callV 20 rfl (C := B11) a [.int (0 : Int32)] (rest := [.long (-3750763034362895579 : Int64)]) 56 57 59 58 2 60 (c11k0 Z hw h0 a (0 : Int32) x0 cs hS hcs hAs hHi hLo hfm t [l1 x0, l1 x1, l1 x2, l1 x3] 0 rfl (by decide) hE hV hA hx0 hC (Nat.le_of_ble_eq_true rfl) (Nat.le_of_ble_eq_true rfl) (own_gl hx0 lg0)) hE d7_17 rfl rfl rfl rfl rfl rfl (by decide) pd11 rfl rfl rfl (W := 2) (Nat.le_of_ble_eq_true rfl) (by decide) (by decide) (by decide) (by decide) fun v5 h6 q7 => ?_
      obtain ⟨rfl, rfl⟩ := q7
      refine Go.i2l 21 rfl d7_20 ?_
      refine Go.lxor 22 rfl d7_21 ?_
      refine Go.ldc2J 25 rfl (v := (1099511628211 : Int64)) 78 d7_22 rfl ?_
      refine Go.lmul 26 rfl d7_25 ?_
      refine Go.nameJ fun v8 hv8 => ?_
      refine Go.lstoreN 27 rfl d7_26 (Ls' := #[.val (.ref a), .val (.long v8), .second, .val (.int (0 : Int32))]) rfl ?_
      refine Go.iinc 30 rfl (1 : Int32) d7_27 rfl rfl (Ls' := #[.val (.ref a), .val (.long v8), .second, .val (.int ((0 : Int32) + (1 : Int32)))]) rfl ?_
      refine Go.goto 6 d7_30 (by decide) (by decide) ?_
      refine Go.iloadN 7 rfl d7_6 rfl ?_
      refine Go.aloadN 8 rfl d7_7 rfl rfl ?_
      refine Go.callV 11 rfl (C := B8) a [] (rest := [.int ((0 : Int32) + (1 : Int32))]) 38 39 41 40 2 42 (c8k0 Z hw h0 a (4 : Int32) cs hS hcs t (IL [l1 x0, l1 x1, l1 x2, l1 x3]) (4 : Int32) rfl (by decide) hE hV hC hA) hE d7_8 rfl rfl rfl rfl rfl rfl (by decide) pd8 rfl rfl rfl (W := 1) (Nat.le_of_ble_eq_true rfl) (by decide) (by decide) (by decide) (by decide) fun v9 h10 q11 => ?_
      obtain ⟨rfl, rfl⟩ := q11
      refine Go.icmp_ge 33 14 d7_11 (by decide) rfl rfl (fun (b12 : ¬ ((0 : Int32) + (1 : Int32)) < (4 : Int32)) => ?_) (fun (b12 : ((0 : Int32) + (1 : Int32)) < (4 : Int32)) => ?_)
      · exact absurd (show ((0 : Int32) + (1 : Int32)) < (4 : Int32) from by decide) b12
      · refine Go.lloadN 15 rfl d7_14 rfl ?_
        refine Go.aloadN 16 rfl d7_15 rfl rfl ?_
        refine Go.iloadN 17 rfl d7_16 rfl ?_
        refine Go.callV 20 rfl (C := B11) a [.int ((0 : Int32) + (1 : Int32))] (rest := [.long v8]) 56 57 59 58 2 60 (c11k0 Z hw h0 a ((0 : Int32) + (1 : Int32)) x1 cs hS hcs hAs hHi hLo hfm t [l1 x0, l1 x1, l1 x2, l1 x3] 1 rfl (by decide) hE hV hA hx1 hC (Nat.le_of_ble_eq_true rfl) (Nat.le_of_ble_eq_true rfl) (own_gl hx1 lg1)) hE d7_17 rfl rfl rfl rfl rfl rfl (by decide) pd11 rfl rfl rfl (W := 2) (Nat.le_of_ble_eq_true rfl) (by decide) (by decide) (by decide) (by decide) fun v13 h14 q15 => ?_
        obtain ⟨rfl, rfl⟩ := q15
        refine Go.i2l 21 rfl d7_20 ?_
        refine Go.lxor 22 rfl d7_21 ?_
        refine Go.ldc2J 25 rfl (v := (1099511628211 : Int64)) 78 d7_22 rfl ?_
        refine Go.lmul 26 rfl d7_25 ?_
        refine Go.nameJ fun v16 hv16 => ?_
        refine Go.lstoreN 27 rfl d7_26 (Ls' := #[.val (.ref a), .val (.long v16), .second, .val (.int ((0 : Int32) + (1 : Int32)))]) rfl ?_
        refine Go.iinc 30 rfl (1 : Int32) d7_27 rfl rfl (Ls' := #[.val (.ref a), .val (.long v16), .second, .val (.int (((0 : Int32) + (1 : Int32)) + (1 : Int32)))]) rfl ?_
        refine Go.goto 6 d7_30 (by decide) (by decide) ?_
        refine Go.iloadN 7 rfl d7_6 rfl ?_
        refine Go.aloadN 8 rfl d7_7 rfl rfl ?_
        refine Go.callV 11 rfl (C := B8) a [] (rest := [.int (((0 : Int32) + (1 : Int32)) + (1 : Int32))]) 38 39 41 40 2 42 (c8k0 Z hw h0 a (4 : Int32) cs hS hcs t (IL [l1 x0, l1 x1, l1 x2, l1 x3]) (4 : Int32) rfl (by decide) hE hV hC hA) hE d7_8 rfl rfl rfl rfl rfl rfl (by decide) pd8 rfl rfl rfl (W := 1) (Nat.le_of_ble_eq_true rfl) (by decide) (by decide) (by decide) (by decide) fun v17 h18 q19 => ?_
        obtain ⟨rfl, rfl⟩ := q19
        refine Go.icmp_ge 33 14 d7_11 (by decide) rfl rfl (fun (b20 : ¬ (((0 : Int32) + (1 : Int32)) + (1 : Int32)) < (4 : Int32)) => ?_) (fun (b20 : (((0 : Int32) + (1 : Int32)) + (1 : Int32)) < (4 : Int32)) => ?_)
        · exact absurd (show (((0 : Int32) + (1 : Int32)) + (1 : Int32)) < (4 : Int32) from by decide) b20
        · refine Go.lloadN 15 rfl d7_14 rfl ?_
          refine Go.aloadN 16 rfl d7_15 rfl rfl ?_
          refine Go.iloadN 17 rfl d7_16 rfl ?_
          refine Go.callV 20 rfl (C := B11) a [.int (((0 : Int32) + (1 : Int32)) + (1 : Int32))] (rest := [.long v16]) 56 57 59 58 2 60 (c11k0 Z hw h0 a (((0 : Int32) + (1 : Int32)) + (1 : Int32)) x2 cs hS hcs hAs hHi hLo hfm t [l1 x0, l1 x1, l1 x2, l1 x3] 2 rfl (by decide) hE hV hA hx2 hC (Nat.le_of_ble_eq_true rfl) (Nat.le_of_ble_eq_true rfl) (own_gl hx2 lg2)) hE d7_17 rfl rfl rfl rfl rfl rfl (by decide) pd11 rfl rfl rfl (W := 2) (Nat.le_of_ble_eq_true rfl) (by decide) (by decide) (by decide) (by decide) fun v21 h22 q23 => ?_
          obtain ⟨rfl, rfl⟩ := q23
          refine Go.i2l 21 rfl d7_20 ?_
          refine Go.lxor 22 rfl d7_21 ?_
          refine Go.ldc2J 25 rfl (v := (1099511628211 : Int64)) 78 d7_22 rfl ?_
          refine Go.lmul 26 rfl d7_25 ?_
          refine Go.nameJ fun v24 hv24 => ?_
          refine Go.lstoreN 27 rfl d7_26 (Ls' := #[.val (.ref a), .val (.long v24), .second, .val (.int (((0 : Int32) + (1 : Int32)) + (1 : Int32)))]) rfl ?_
          refine Go.iinc 30 rfl (1 : Int32) d7_27 rfl rfl (Ls' := #[.val (.ref a), .val (.long v24), .second, .val (.int ((((0 : Int32) + (1 : Int32)) + (1 : Int32)) + (1 : Int32)))]) rfl ?_
          refine Go.goto 6 d7_30 (by decide) (by decide) ?_
          refine Go.iloadN 7 rfl d7_6 rfl ?_
          refine Go.aloadN 8 rfl d7_7 rfl rfl ?_
          refine Go.callV 11 rfl (C := B8) a [] (rest := [.int ((((0 : Int32) + (1 : Int32)) + (1 : Int32)) + (1 : Int32))]) 38 39 41 40 2 42 (c8k0 Z hw h0 a (4 : Int32) cs hS hcs t (IL [l1 x0, l1 x1, l1 x2, l1 x3]) (4 : Int32) rfl (by decide) hE hV hC hA) hE d7_8 rfl rfl rfl rfl rfl rfl (by decide) pd8 rfl rfl rfl (W := 1) (Nat.le_of_ble_eq_true rfl) (by decide) (by decide) (by decide) (by decide) fun v25 h26 q27 => ?_
          obtain ⟨rfl, rfl⟩ := q27
          refine Go.icmp_ge 33 14 d7_11 (by decide) rfl rfl (fun (b28 : ¬ ((((0 : Int32) + (1 : Int32)) + (1 : Int32)) + (1 : Int32)) < (4 : Int32)) => ?_) (fun (b28 : ((((0 : Int32) + (1 : Int32)) + (1 : Int32)) + (1 : Int32)) < (4 : Int32)) => ?_)
          · exact absurd (show ((((0 : Int32) + (1 : Int32)) + (1 : Int32)) + (1 : Int32)) < (4 : Int32) from by decide) b28
          · refine Go.lloadN 15 rfl d7_14 rfl ?_
            refine Go.aloadN 16 rfl d7_15 rfl rfl ?_
            refine Go.iloadN 17 rfl d7_16 rfl ?_
            refine Go.callV 20 rfl (C := B11) a [.int ((((0 : Int32) + (1 : Int32)) + (1 : Int32)) + (1 : Int32))] (rest := [.long v24]) 56 57 59 58 2 60 (c11k0 Z hw h0 a ((((0 : Int32) + (1 : Int32)) + (1 : Int32)) + (1 : Int32)) x3 cs hS hcs hAs hHi hLo hfm t [l1 x0, l1 x1, l1 x2, l1 x3] 3 rfl (by decide) hE hV hA hx3 hC (Nat.le_of_ble_eq_true rfl) (Nat.le_of_ble_eq_true rfl) (own_gl hx3 lg3)) hE d7_17 rfl rfl rfl rfl rfl rfl (by decide) pd11 rfl rfl rfl (W := 2) (Nat.le_of_ble_eq_true rfl) (by decide) (by decide) (by decide) (by decide) fun v29 h30 q31 => ?_
            obtain ⟨rfl, rfl⟩ := q31
            refine Go.i2l 21 rfl d7_20 ?_
            refine Go.lxor 22 rfl d7_21 ?_
            refine Go.ldc2J 25 rfl (v := (1099511628211 : Int64)) 78 d7_22 rfl ?_
            refine Go.lmul 26 rfl d7_25 ?_
            refine Go.nameJ fun v32 hv32 => ?_
            refine Go.lstoreN 27 rfl d7_26 (Ls' := #[.val (.ref a), .val (.long v32), .second, .val (.int ((((0 : Int32) + (1 : Int32)) + (1 : Int32)) + (1 : Int32)))]) rfl ?_
            refine Go.iinc 30 rfl (1 : Int32) d7_27 rfl rfl (Ls' := #[.val (.ref a), .val (.long v32), .second, .val (.int (((((0 : Int32) + (1 : Int32)) + (1 : Int32)) + (1 : Int32)) + (1 : Int32)))]) rfl ?_
            refine Go.goto 6 d7_30 (by decide) (by decide) ?_
            refine Go.iloadN 7 rfl d7_6 rfl ?_
            refine Go.aloadN 8 rfl d7_7 rfl rfl ?_
            refine Go.callV 11 rfl (C := B8) a [] (rest := [.int (((((0 : Int32) + (1 : Int32)) + (1 : Int32)) + (1 : Int32)) + (1 : Int32))]) 38 39 41 40 2 42 (c8k0 Z hw h0 a (4 : Int32) cs hS hcs t (IL [l1 x0, l1 x1, l1 x2, l1 x3]) (4 : Int32) rfl (by decide) hE hV hC hA) hE d7_8 rfl rfl rfl rfl rfl rfl (by decide) pd8 rfl rfl rfl (W := 1) (Nat.le_of_ble_eq_true rfl) (by decide) (by decide) (by decide) (by decide) fun v33 h34 q35 => ?_
            obtain ⟨rfl, rfl⟩ := q35
            refine Go.icmp_ge 33 14 d7_11 (by decide) rfl rfl (fun (b36 : ¬ (((((0 : Int32) + (1 : Int32)) + (1 : Int32)) + (1 : Int32)) + (1 : Int32)) < (4 : Int32)) => ?_) (fun (b36 : (((((0 : Int32) + (1 : Int32)) + (1 : Int32)) + (1 : Int32)) + (1 : Int32)) < (4 : Int32)) => ?_)
            · refine Go.lloadN 34 rfl d7_33 rfl ?_
              refine Go.lloadN 35 rfl d7_34 rfl ?_
              refine Go.bipush 37 rfl (33 : Int32) d7_35 rfl ?_
              refine Go.lushr 38 rfl d7_37 ?_
              refine Go.lxor 39 rfl d7_38 ?_
              refine Go.ldc2J 42 rfl (v := (-49064778989728563 : Int64)) 48 d7_39 rfl ?_
              refine Go.lmul 43 rfl d7_42 ?_
              refine Go.nameJ fun v37 hv37 => ?_
              refine Go.lstoreN 44 rfl d7_43 (Ls' := #[.val (.ref a), .val (.long v37), .second, .val (.int (((((0 : Int32) + (1 : Int32)) + (1 : Int32)) + (1 : Int32)) + (1 : Int32)))]) rfl ?_
              refine Go.lloadN 45 rfl d7_44 rfl ?_
              refine Go.lloadN 46 rfl d7_45 rfl ?_
              refine Go.bipush 48 rfl (33 : Int32) d7_46 rfl ?_
              refine Go.lushr 49 rfl d7_48 ?_
              refine Go.lxor 50 rfl d7_49 ?_
              refine Go.ldc2J 53 rfl (v := (-4265267296055464877 : Int64)) 49 d7_50 rfl ?_
              refine Go.lmul 54 rfl d7_53 ?_
              refine Go.nameJ fun v38 hv38 => ?_
              refine Go.lstoreN 55 rfl d7_54 (Ls' := #[.val (.ref a), .val (.long v38), .second, .val (.int (((((0 : Int32) + (1 : Int32)) + (1 : Int32)) + (1 : Int32)) + (1 : Int32)))]) rfl ?_
              refine Go.lloadN 56 rfl d7_55 rfl ?_
              refine Go.lloadN 57 rfl d7_56 rfl ?_
              refine Go.bipush 59 rfl (33 : Int32) d7_57 rfl ?_
              refine Go.lushr 60 rfl d7_59 ?_
              refine Go.lxor 61 rfl d7_60 ?_
              subst_vars
              exact Go.retJ d7_61 rfl (by decide) (by decide) ⟨rfl, rfl⟩
            · exact absurd b36 (show ¬ (((((0 : Int32) + (1 : Int32)) + (1 : Int32)) + (1 : Int32)) + (1 : Int32)) < (4 : Int32) from by decide)
  · refine Go.ldc2J 3 rfl (v := (-3750763034362895579 : Int64)) 37 d7_0 rfl ?_
    refine Go.lstoreN 4 rfl d7_3 (Ls' := #[.val (.ref a), .val (.long (-3750763034362895579 : Int64)), .second, .unset]) rfl ?_
    refine Go.iconst 5 rfl (0 : Int32) d7_4 rfl ?_
    refine Go.istoreN 6 rfl d7_5 (Ls' := #[.val (.ref a), .val (.long (-3750763034362895579 : Int64)), .second, .val (.int (0 : Int32))]) rfl ?_
    refine Go.iloadN 7 rfl d7_6 rfl ?_
    refine Go.aloadN 8 rfl d7_7 rfl rfl ?_
    refine Go.callV 11 rfl (C := B8) a [] (rest := [.int (0 : Int32)]) 38 39 41 40 2 42 (c8k1 Z hw h0 a (4 : Int32) cs hS hcs t (IL [lo x0, hi x0, lo x1, hi x1, lo x2, hi x2, lo x3, hi x3]) (8 : Int32) rfl (by decide) hE hV hC hA) hE d7_8 rfl rfl rfl rfl rfl rfl (by decide) pd8 rfl rfl rfl (W := 1) (Nat.le_of_ble_eq_true rfl) (by decide) (by decide) (by decide) (by decide) fun v39 h40 q41 => ?_
    obtain ⟨rfl, rfl⟩ := q41
    refine Go.icmp_ge 33 14 d7_11 (by decide) rfl rfl (fun (b42 : ¬ (0 : Int32) < (4 : Int32)) => ?_) (fun (b42 : (0 : Int32) < (4 : Int32)) => ?_)
    · exact absurd (show (0 : Int32) < (4 : Int32) from by decide) b42
    · refine Go.lloadN 15 rfl d7_14 rfl ?_
      refine Go.aloadN 16 rfl d7_15 rfl rfl ?_
      refine Go.iloadN 17 rfl d7_16 rfl ?_
      refine Go.callV 20 rfl (C := B11) a [.int (0 : Int32)] (rest := [.long (-3750763034362895579 : Int64)]) 56 57 59 58 2 60 (c11k1 Z hw h0 a (0 : Int32) x0 cs hS hcs hAs hHi hLo hfm t [lo x0, hi x0, lo x1, hi x1, lo x2, hi x2, lo x3, hi x3] 0 rfl (by decide) hE hV hA hx0 hC (8 : Int32) (4 : Int32) rfl (by decide) (by decide) (Nat.le_of_ble_eq_true rfl) (own_gc hx0)) hE d7_17 rfl rfl rfl rfl rfl rfl (by decide) pd11 rfl rfl rfl (W := 2) (Nat.le_of_ble_eq_true rfl) (by decide) (by decide) (by decide) (by decide) fun v43 h44 q45 => ?_
      obtain ⟨rfl, rfl⟩ := q45
      refine Go.i2l 21 rfl d7_20 ?_
      refine Go.lxor 22 rfl d7_21 ?_
      refine Go.ldc2J 25 rfl (v := (1099511628211 : Int64)) 78 d7_22 rfl ?_
      refine Go.lmul 26 rfl d7_25 ?_
      refine Go.nameJ fun v46 hv46 => ?_
      refine Go.lstoreN 27 rfl d7_26 (Ls' := #[.val (.ref a), .val (.long v46), .second, .val (.int (0 : Int32))]) rfl ?_
      refine Go.iinc 30 rfl (1 : Int32) d7_27 rfl rfl (Ls' := #[.val (.ref a), .val (.long v46), .second, .val (.int ((0 : Int32) + (1 : Int32)))]) rfl ?_
      refine Go.goto 6 d7_30 (by decide) (by decide) ?_
      refine Go.iloadN 7 rfl d7_6 rfl ?_
      refine Go.aloadN 8 rfl d7_7 rfl rfl ?_
      refine Go.callV 11 rfl (C := B8) a [] (rest := [.int ((0 : Int32) + (1 : Int32))]) 38 39 41 40 2 42 (c8k1 Z hw h0 a (4 : Int32) cs hS hcs t (IL [lo x0, hi x0, lo x1, hi x1, lo x2, hi x2, lo x3, hi x3]) (8 : Int32) rfl (by decide) hE hV hC hA) hE d7_8 rfl rfl rfl rfl rfl rfl (by decide) pd8 rfl rfl rfl (W := 1) (Nat.le_of_ble_eq_true rfl) (by decide) (by decide) (by decide) (by decide) fun v47 h48 q49 => ?_
      obtain ⟨rfl, rfl⟩ := q49
      refine Go.icmp_ge 33 14 d7_11 (by decide) rfl rfl (fun (b50 : ¬ ((0 : Int32) + (1 : Int32)) < (4 : Int32)) => ?_) (fun (b50 : ((0 : Int32) + (1 : Int32)) < (4 : Int32)) => ?_)
      · exact absurd (show ((0 : Int32) + (1 : Int32)) < (4 : Int32) from by decide) b50
      · refine Go.lloadN 15 rfl d7_14 rfl ?_
        refine Go.aloadN 16 rfl d7_15 rfl rfl ?_
        refine Go.iloadN 17 rfl d7_16 rfl ?_
        refine Go.callV 20 rfl (C := B11) a [.int ((0 : Int32) + (1 : Int32))] (rest := [.long v46]) 56 57 59 58 2 60 (c11k1 Z hw h0 a ((0 : Int32) + (1 : Int32)) x1 cs hS hcs hAs hHi hLo hfm t [lo x0, hi x0, lo x1, hi x1, lo x2, hi x2, lo x3, hi x3] 1 rfl (by decide) hE hV hA hx1 hC (8 : Int32) (4 : Int32) rfl (by decide) (by decide) (Nat.le_of_ble_eq_true rfl) (own_gc hx1)) hE d7_17 rfl rfl rfl rfl rfl rfl (by decide) pd11 rfl rfl rfl (W := 2) (Nat.le_of_ble_eq_true rfl) (by decide) (by decide) (by decide) (by decide) fun v51 h52 q53 => ?_
        obtain ⟨rfl, rfl⟩ := q53
        refine Go.i2l 21 rfl d7_20 ?_
        refine Go.lxor 22 rfl d7_21 ?_
        refine Go.ldc2J 25 rfl (v := (1099511628211 : Int64)) 78 d7_22 rfl ?_
        refine Go.lmul 26 rfl d7_25 ?_
        refine Go.nameJ fun v54 hv54 => ?_
        refine Go.lstoreN 27 rfl d7_26 (Ls' := #[.val (.ref a), .val (.long v54), .second, .val (.int ((0 : Int32) + (1 : Int32)))]) rfl ?_
        refine Go.iinc 30 rfl (1 : Int32) d7_27 rfl rfl (Ls' := #[.val (.ref a), .val (.long v54), .second, .val (.int (((0 : Int32) + (1 : Int32)) + (1 : Int32)))]) rfl ?_
        refine Go.goto 6 d7_30 (by decide) (by decide) ?_
        refine Go.iloadN 7 rfl d7_6 rfl ?_
        refine Go.aloadN 8 rfl d7_7 rfl rfl ?_
        refine Go.callV 11 rfl (C := B8) a [] (rest := [.int (((0 : Int32) + (1 : Int32)) + (1 : Int32))]) 38 39 41 40 2 42 (c8k1 Z hw h0 a (4 : Int32) cs hS hcs t (IL [lo x0, hi x0, lo x1, hi x1, lo x2, hi x2, lo x3, hi x3]) (8 : Int32) rfl (by decide) hE hV hC hA) hE d7_8 rfl rfl rfl rfl rfl rfl (by decide) pd8 rfl rfl rfl (W := 1) (Nat.le_of_ble_eq_true rfl) (by decide) (by decide) (by decide) (by decide) fun v55 h56 q57 => ?_
        obtain ⟨rfl, rfl⟩ := q57
        refine Go.icmp_ge 33 14 d7_11 (by decide) rfl rfl (fun (b58 : ¬ (((0 : Int32) + (1 : Int32)) + (1 : Int32)) < (4 : Int32)) => ?_) (fun (b58 : (((0 : Int32) + (1 : Int32)) + (1 : Int32)) < (4 : Int32)) => ?_)
        · exact absurd (show (((0 : Int32) + (1 : Int32)) + (1 : Int32)) < (4 : Int32) from by decide) b58
        · refine Go.lloadN 15 rfl d7_14 rfl ?_
          refine Go.aloadN 16 rfl d7_15 rfl rfl ?_
          refine Go.iloadN 17 rfl d7_16 rfl ?_
          refine Go.callV 20 rfl (C := B11) a [.int (((0 : Int32) + (1 : Int32)) + (1 : Int32))] (rest := [.long v54]) 56 57 59 58 2 60 (c11k1 Z hw h0 a (((0 : Int32) + (1 : Int32)) + (1 : Int32)) x2 cs hS hcs hAs hHi hLo hfm t [lo x0, hi x0, lo x1, hi x1, lo x2, hi x2, lo x3, hi x3] 2 rfl (by decide) hE hV hA hx2 hC (8 : Int32) (4 : Int32) rfl (by decide) (by decide) (Nat.le_of_ble_eq_true rfl) (own_gc hx2)) hE d7_17 rfl rfl rfl rfl rfl rfl (by decide) pd11 rfl rfl rfl (W := 2) (Nat.le_of_ble_eq_true rfl) (by decide) (by decide) (by decide) (by decide) fun v59 h60 q61 => ?_
          obtain ⟨rfl, rfl⟩ := q61
          refine Go.i2l 21 rfl d7_20 ?_
          refine Go.lxor 22 rfl d7_21 ?_
          refine Go.ldc2J 25 rfl (v := (1099511628211 : Int64)) 78 d7_22 rfl ?_
          refine Go.lmul 26 rfl d7_25 ?_
          refine Go.nameJ fun v62 hv62 => ?_
          refine Go.lstoreN 27 rfl d7_26 (Ls' := #[.val (.ref a), .val (.long v62), .second, .val (.int (((0 : Int32) + (1 : Int32)) + (1 : Int32)))]) rfl ?_
          refine Go.iinc 30 rfl (1 : Int32) d7_27 rfl rfl (Ls' := #[.val (.ref a), .val (.long v62), .second, .val (.int ((((0 : Int32) + (1 : Int32)) + (1 : Int32)) + (1 : Int32)))]) rfl ?_
          refine Go.goto 6 d7_30 (by decide) (by decide) ?_
          refine Go.iloadN 7 rfl d7_6 rfl ?_
          refine Go.aloadN 8 rfl d7_7 rfl rfl ?_
          refine Go.callV 11 rfl (C := B8) a [] (rest := [.int ((((0 : Int32) + (1 : Int32)) + (1 : Int32)) + (1 : Int32))]) 38 39 41 40 2 42 (c8k1 Z hw h0 a (4 : Int32) cs hS hcs t (IL [lo x0, hi x0, lo x1, hi x1, lo x2, hi x2, lo x3, hi x3]) (8 : Int32) rfl (by decide) hE hV hC hA) hE d7_8 rfl rfl rfl rfl rfl rfl (by decide) pd8 rfl rfl rfl (W := 1) (Nat.le_of_ble_eq_true rfl) (by decide) (by decide) (by decide) (by decide) fun v63 h64 q65 => ?_
          obtain ⟨rfl, rfl⟩ := q65
          refine Go.icmp_ge 33 14 d7_11 (by decide) rfl rfl (fun (b66 : ¬ ((((0 : Int32) + (1 : Int32)) + (1 : Int32)) + (1 : Int32)) < (4 : Int32)) => ?_) (fun (b66 : ((((0 : Int32) + (1 : Int32)) + (1 : Int32)) + (1 : Int32)) < (4 : Int32)) => ?_)
          · exact absurd (show ((((0 : Int32) + (1 : Int32)) + (1 : Int32)) + (1 : Int32)) < (4 : Int32) from by decide) b66
          · refine Go.lloadN 15 rfl d7_14 rfl ?_
            refine Go.aloadN 16 rfl d7_15 rfl rfl ?_
            refine Go.iloadN 17 rfl d7_16 rfl ?_
            refine Go.callV 20 rfl (C := B11) a [.int ((((0 : Int32) + (1 : Int32)) + (1 : Int32)) + (1 : Int32))] (rest := [.long v62]) 56 57 59 58 2 60 (c11k1 Z hw h0 a ((((0 : Int32) + (1 : Int32)) + (1 : Int32)) + (1 : Int32)) x3 cs hS hcs hAs hHi hLo hfm t [lo x0, hi x0, lo x1, hi x1, lo x2, hi x2, lo x3, hi x3] 3 rfl (by decide) hE hV hA hx3 hC (8 : Int32) (4 : Int32) rfl (by decide) (by decide) (Nat.le_of_ble_eq_true rfl) (own_gc hx3)) hE d7_17 rfl rfl rfl rfl rfl rfl (by decide) pd11 rfl rfl rfl (W := 2) (Nat.le_of_ble_eq_true rfl) (by decide) (by decide) (by decide) (by decide) fun v67 h68 q69 => ?_
            obtain ⟨rfl, rfl⟩ := q69
            refine Go.i2l 21 rfl d7_20 ?_
            refine Go.lxor 22 rfl d7_21 ?_
            refine Go.ldc2J 25 rfl (v := (1099511628211 : Int64)) 78 d7_22 rfl ?_
            refine Go.lmul 26 rfl d7_25 ?_
            refine Go.nameJ fun v70 hv70 => ?_
            refine Go.lstoreN 27 rfl d7_26 (Ls' := #[.val (.ref a), .val (.long v70), .second, .val (.int ((((0 : Int32) + (1 : Int32)) + (1 : Int32)) + (1 : Int32)))]) rfl ?_
            refine Go.iinc 30 rfl (1 : Int32) d7_27 rfl rfl (Ls' := #[.val (.ref a), .val (.long v70), .second, .val (.int (((((0 : Int32) + (1 : Int32)) + (1 : Int32)) + (1 : Int32)) + (1 : Int32)))]) rfl ?_
            refine Go.goto 6 d7_30 (by decide) (by decide) ?_
            refine Go.iloadN 7 rfl d7_6 rfl ?_
            refine Go.aloadN 8 rfl d7_7 rfl rfl ?_
            refine Go.callV 11 rfl (C := B8) a [] (rest := [.int (((((0 : Int32) + (1 : Int32)) + (1 : Int32)) + (1 : Int32)) + (1 : Int32))]) 38 39 41 40 2 42 (c8k1 Z hw h0 a (4 : Int32) cs hS hcs t (IL [lo x0, hi x0, lo x1, hi x1, lo x2, hi x2, lo x3, hi x3]) (8 : Int32) rfl (by decide) hE hV hC hA) hE d7_8 rfl rfl rfl rfl rfl rfl (by decide) pd8 rfl rfl rfl (W := 1) (Nat.le_of_ble_eq_true rfl) (by decide) (by decide) (by decide) (by decide) fun v71 h72 q73 => ?_
            obtain ⟨rfl, rfl⟩ := q73
            refine Go.icmp_ge 33 14 d7_11 (by decide) rfl rfl (fun (b74 : ¬ (((((0 : Int32) + (1 : Int32)) + (1 : Int32)) + (1 : Int32)) + (1 : Int32)) < (4 : Int32)) => ?_) (fun (b74 : (((((0 : Int32) + (1 : Int32)) + (1 : Int32)) + (1 : Int32)) + (1 : Int32)) < (4 : Int32)) => ?_)
            · refine Go.lloadN 34 rfl d7_33 rfl ?_
              refine Go.lloadN 35 rfl d7_34 rfl ?_
              refine Go.bipush 37 rfl (33 : Int32) d7_35 rfl ?_
              refine Go.lushr 38 rfl d7_37 ?_
              refine Go.lxor 39 rfl d7_38 ?_
              refine Go.ldc2J 42 rfl (v := (-49064778989728563 : Int64)) 48 d7_39 rfl ?_
              refine Go.lmul 43 rfl d7_42 ?_
              refine Go.nameJ fun v75 hv75 => ?_
              refine Go.lstoreN 44 rfl d7_43 (Ls' := #[.val (.ref a), .val (.long v75), .second, .val (.int (((((0 : Int32) + (1 : Int32)) + (1 : Int32)) + (1 : Int32)) + (1 : Int32)))]) rfl ?_
              refine Go.lloadN 45 rfl d7_44 rfl ?_
              refine Go.lloadN 46 rfl d7_45 rfl ?_
              refine Go.bipush 48 rfl (33 : Int32) d7_46 rfl ?_
              refine Go.lushr 49 rfl d7_48 ?_
              refine Go.lxor 50 rfl d7_49 ?_
              refine Go.ldc2J 53 rfl (v := (-4265267296055464877 : Int64)) 49 d7_50 rfl ?_
              refine Go.lmul 54 rfl d7_53 ?_
              refine Go.nameJ fun v76 hv76 => ?_
              refine Go.lstoreN 55 rfl d7_54 (Ls' := #[.val (.ref a), .val (.long v76), .second, .val (.int (((((0 : Int32) + (1 : Int32)) + (1 : Int32)) + (1 : Int32)) + (1 : Int32)))]) rfl ?_
              refine Go.lloadN 56 rfl d7_55 rfl ?_
              refine Go.lloadN 57 rfl d7_56 rfl ?_
              refine Go.bipush 59 rfl (33 : Int32) d7_57 rfl ?_
              refine Go.lushr 60 rfl d7_59 ?_
              refine Go.lxor 61 rfl d7_60 ?_
              subst_vars
              exact Go.retJ d7_61 rfl (by decide) (by decide) ⟨rfl, rfl⟩
            · exact absurd b74 (show ¬ (((((0 : Int32) + (1 : Int32)) + (1 : Int32)) + (1 : Int32)) + (1 : Int32)) < (4 : Int32) from by decide)
theorem ef7n3 (mid : MethodId) (a : Addr) : entryFrame mid (List.toArray [.ref a]) 4 = mkF mid 0 #[.val (.ref a), .unset, .unset, .unset] [] := by first | (simp [entryFrame, mkF, argsToLocals, Value.category]; done) | rfl
def Q7n3 (x0 : Int32) (x1 : Int32) (x2 : Int32) (h0 : Heap) (v : Option Value) (h : Heap) : Prop := v = some (.long (mixf (((((((-3750763034362895579 : Int64) ^^^ x0.toInt64) * (1099511628211 : Int64)) ^^^ x1.toInt64) * (1099511628211 : Int64)) ^^^ x2.toInt64) * (1099511628211 : Int64)))) ∧ h0 = h
set_option maxRecDepth 65536 in
set_option maxHeartbeats 40000000 in
theorem c7n3 (Z : State) (hw : Wd Z tables_1) (h0 : Heap) (a : Addr) (x0 : Int32) (x1 : Int32) (x2 : Int32) (cs : Int32) (hS : Sta Z Z.heap "java/lang/String" "COMPACT_STRINGS" "Z" (.int cs)) (hcs : ¬ cs = 0) (hAs : Sta Z Z.heap "java/lang/StringUTF16" "$assertionsDisabled" "Z" (.int 1)) (hHi : Sta Z Z.heap "java/lang/StringUTF16" "HI_BYTE_SHIFT" "I" (.int 0)) (hLo : Sta Z Z.heap "java/lang/StringUTF16" "LO_BYTE_SHIFT" "I" (.int 8)) (hfm : (Sta Z Z.heap "jdk/internal/util/Preconditions" "SIOOBE_FORMATTER" "Ljava/util/function/BiFunction;" .null) ∨ ∃ m, Sta Z Z.heap "jdk/internal/util/Preconditions" "SIOOBE_FORMATTER" "Ljava/util/function/BiFunction;" (.ref m)) (t : Addr) (hE : Exa Z h0 a "java/lang/String") (hV : Fld Z h0 a "java/lang/String" "value" "[B" (.ref t)) (hD : ((Fld Z h0 a "java/lang/String" "coder" "B" (.int 0) ∧ ¬ (255 : Int32) < x0 ∧ ¬ (255 : Int32) < x1 ∧ ¬ (255 : Int32) < x2 ∧ Ary Z h0 t .byte (IL [l1 x0, l1 x1, l1 x2])) ∨ (Fld Z h0 a "java/lang/String" "coder" "B" (.int 1) ∧ Ary Z h0 t .byte (IL [lo x0, hi x0, lo x1, hi x1, lo x2, hi x2])))) (hx0 : Ch x0) (hx1 : Ch x1) (hx2 : Ch x2) : Con Z B7 (List.toArray [.ref a]) h0 (Q7n3 x0 x1 x2 h0) := by
  refine Con.mk hw pn7 (fun mid => ef7n3 mid a) (Go.old fun hle' => ?_)
  have hle := hle'.1
  rcases hD with ⟨hC, lg0, lg1, lg2, hA⟩ | ⟨hC, hA⟩
  · refine Go.ldc2J 3 rfl (v := (-3750763034362895579 : Int64)) 37 d7_0 rfl ?_
    refine Go.lstoreN 4 rfl d7_3 (Ls' := #[.val (.ref a), .val (.long (-3750763034362895579 : Int64)), .second, .unset]) rfl ?_
    refine Go.iconst 5 rfl (0 : Int32) d7_4 rfl ?_
    refine Go.istoreN 6 rfl d7_5 (Ls' := #[.val (.ref a), .val (.long (-3750763034362895579 : Int64)), .second, .val (.int (0 : Int32))]) rfl ?_
    refine Go.iloadN 7 rfl d7_6 rfl ?_
    refine Go.aloadN 8 rfl d7_7 rfl rfl ?_
    refine Go.callV 11 rfl (C := B8) a [] (rest := [.int (0 : Int32)]) 38 39 41 40 2 42 (c8k0 Z hw h0 a (3 : Int32) cs hS hcs t (IL [l1 x0, l1 x1, l1 x2]) (3 : Int32) rfl (by decide) hE hV hC hA) hE d7_8 rfl rfl rfl rfl rfl rfl (by decide) pd8 rfl rfl rfl (W := 1) (Nat.le_of_ble_eq_true rfl) (by decide) (by decide) (by decide) (by decide) fun v1 h2 q3 => ?_
    obtain ⟨rfl, rfl⟩ := q3
    refine Go.icmp_ge 33 14 d7_11 (by decide) rfl rfl (fun (b4 : ¬ (0 : Int32) < (3 : Int32)) => ?_) (fun (b4 : (0 : Int32) < (3 : Int32)) => ?_)
    · exact absurd (show (0 : Int32) < (3 : Int32) from by decide) b4
    · refine Go.lloadN 15 rfl d7_14 rfl ?_
      refine Go.aloadN 16 rfl d7_15 rfl rfl ?_
      refine Go.iloadN 17 rfl d7_16 rfl ?_
      refine Go.callV 20 rfl (C := B11) a [.int (0 : Int32)] (rest := [.long (-3750763034362895579 : Int64)]) 56 57 59 58 2 60 (c11k0 Z hw h0 a (0 : Int32) x0 cs hS hcs hAs hHi hLo hfm t [l1 x0, l1 x1, l1 x2] 0 rfl (by decide) hE hV hA hx0 hC (Nat.le_of_ble_eq_true rfl) (Nat.le_of_ble_eq_true rfl) (own_gl hx0 lg0)) hE d7_17 rfl rfl rfl rfl rfl rfl (by decide) pd11 rfl rfl rfl (W := 2) (Nat.le_of_ble_eq_true rfl) (by decide) (by decide) (by decide) (by decide) fun v5 h6 q7 => ?_
      obtain ⟨rfl, rfl⟩ := q7
      refine Go.i2l 21 rfl d7_20 ?_
      refine Go.lxor 22 rfl d7_21 ?_
      refine Go.ldc2J 25 rfl (v := (1099511628211 : Int64)) 78 d7_22 rfl ?_
      refine Go.lmul 26 rfl d7_25 ?_
      refine Go.nameJ fun v8 hv8 => ?_
      refine Go.lstoreN 27 rfl d7_26 (Ls' := #[.val (.ref a), .val (.long v8), .second, .val (.int (0 : Int32))]) rfl ?_
      refine Go.iinc 30 rfl (1 : Int32) d7_27 rfl rfl (Ls' := #[.val (.ref a), .val (.long v8), .second, .val (.int ((0 : Int32) + (1 : Int32)))]) rfl ?_
      refine Go.goto 6 d7_30 (by decide) (by decide) ?_
      refine Go.iloadN 7 rfl d7_6 rfl ?_
      refine Go.aloadN 8 rfl d7_7 rfl rfl ?_
      refine Go.callV 11 rfl (C := B8) a [] (rest := [.int ((0 : Int32) + (1 : Int32))]) 38 39 41 40 2 42 (c8k0 Z hw h0 a (3 : Int32) cs hS hcs t (IL [l1 x0, l1 x1, l1 x2]) (3 : Int32) rfl (by decide) hE hV hC hA) hE d7_8 rfl rfl rfl rfl rfl rfl (by decide) pd8 rfl rfl rfl (W := 1) (Nat.le_of_ble_eq_true rfl) (by decide) (by decide) (by decide) (by decide) fun v9 h10 q11 => ?_
      obtain ⟨rfl, rfl⟩ := q11
      refine Go.icmp_ge 33 14 d7_11 (by decide) rfl rfl (fun (b12 : ¬ ((0 : Int32) + (1 : Int32)) < (3 : Int32)) => ?_) (fun (b12 : ((0 : Int32) + (1 : Int32)) < (3 : Int32)) => ?_)
      · exact absurd (show ((0 : Int32) + (1 : Int32)) < (3 : Int32) from by decide) b12
      · refine Go.lloadN 15 rfl d7_14 rfl ?_
        refine Go.aloadN 16 rfl d7_15 rfl rfl ?_
        refine Go.iloadN 17 rfl d7_16 rfl ?_
        refine Go.callV 20 rfl (C := B11) a [.int ((0 : Int32) + (1 : Int32))] (rest := [.long v8]) 56 57 59 58 2 60 (c11k0 Z hw h0 a ((0 : Int32) + (1 : Int32)) x1 cs hS hcs hAs hHi hLo hfm t [l1 x0, l1 x1, l1 x2] 1 rfl (by decide) hE hV hA hx1 hC (Nat.le_of_ble_eq_true rfl) (Nat.le_of_ble_eq_true rfl) (own_gl hx1 lg1)) hE d7_17 rfl rfl rfl rfl rfl rfl (by decide) pd11 rfl rfl rfl (W := 2) (Nat.le_of_ble_eq_true rfl) (by decide) (by decide) (by decide) (by decide) fun v13 h14 q15 => ?_
        obtain ⟨rfl, rfl⟩ := q15
        refine Go.i2l 21 rfl d7_20 ?_
        refine Go.lxor 22 rfl d7_21 ?_
        refine Go.ldc2J 25 rfl (v := (1099511628211 : Int64)) 78 d7_22 rfl ?_
        refine Go.lmul 26 rfl d7_25 ?_
        refine Go.nameJ fun v16 hv16 => ?_
        refine Go.lstoreN 27 rfl d7_26 (Ls' := #[.val (.ref a), .val (.long v16), .second, .val (.int ((0 : Int32) + (1 : Int32)))]) rfl ?_
        refine Go.iinc 30 rfl (1 : Int32) d7_27 rfl rfl (Ls' := #[.val (.ref a), .val (.long v16), .second, .val (.int (((0 : Int32) + (1 : Int32)) + (1 : Int32)))]) rfl ?_
        refine Go.goto 6 d7_30 (by decide) (by decide) ?_
        refine Go.iloadN 7 rfl d7_6 rfl ?_
        refine Go.aloadN 8 rfl d7_7 rfl rfl ?_
        refine Go.callV 11 rfl (C := B8) a [] (rest := [.int (((0 : Int32) + (1 : Int32)) + (1 : Int32))]) 38 39 41 40 2 42 (c8k0 Z hw h0 a (3 : Int32) cs hS hcs t (IL [l1 x0, l1 x1, l1 x2]) (3 : Int32) rfl (by decide) hE hV hC hA) hE d7_8 rfl rfl rfl rfl rfl rfl (by decide) pd8 rfl rfl rfl (W := 1) (Nat.le_of_ble_eq_true rfl) (by decide) (by decide) (by decide) (by decide) fun v17 h18 q19 => ?_
        obtain ⟨rfl, rfl⟩ := q19
        refine Go.icmp_ge 33 14 d7_11 (by decide) rfl rfl (fun (b20 : ¬ (((0 : Int32) + (1 : Int32)) + (1 : Int32)) < (3 : Int32)) => ?_) (fun (b20 : (((0 : Int32) + (1 : Int32)) + (1 : Int32)) < (3 : Int32)) => ?_)
        · exact absurd (show (((0 : Int32) + (1 : Int32)) + (1 : Int32)) < (3 : Int32) from by decide) b20
        · refine Go.lloadN 15 rfl d7_14 rfl ?_
          refine Go.aloadN 16 rfl d7_15 rfl rfl ?_
          refine Go.iloadN 17 rfl d7_16 rfl ?_
          refine Go.callV 20 rfl (C := B11) a [.int (((0 : Int32) + (1 : Int32)) + (1 : Int32))] (rest := [.long v16]) 56 57 59 58 2 60 (c11k0 Z hw h0 a (((0 : Int32) + (1 : Int32)) + (1 : Int32)) x2 cs hS hcs hAs hHi hLo hfm t [l1 x0, l1 x1, l1 x2] 2 rfl (by decide) hE hV hA hx2 hC (Nat.le_of_ble_eq_true rfl) (Nat.le_of_ble_eq_true rfl) (own_gl hx2 lg2)) hE d7_17 rfl rfl rfl rfl rfl rfl (by decide) pd11 rfl rfl rfl (W := 2) (Nat.le_of_ble_eq_true rfl) (by decide) (by decide) (by decide) (by decide) fun v21 h22 q23 => ?_
          obtain ⟨rfl, rfl⟩ := q23
          refine Go.i2l 21 rfl d7_20 ?_
          refine Go.lxor 22 rfl d7_21 ?_
          refine Go.ldc2J 25 rfl (v := (1099511628211 : Int64)) 78 d7_22 rfl ?_
          refine Go.lmul 26 rfl d7_25 ?_
          refine Go.nameJ fun v24 hv24 => ?_
          refine Go.lstoreN 27 rfl d7_26 (Ls' := #[.val (.ref a), .val (.long v24), .second, .val (.int (((0 : Int32) + (1 : Int32)) + (1 : Int32)))]) rfl ?_
          refine Go.iinc 30 rfl (1 : Int32) d7_27 rfl rfl (Ls' := #[.val (.ref a), .val (.long v24), .second, .val (.int ((((0 : Int32) + (1 : Int32)) + (1 : Int32)) + (1 : Int32)))]) rfl ?_
          refine Go.goto 6 d7_30 (by decide) (by decide) ?_
          refine Go.iloadN 7 rfl d7_6 rfl ?_
          refine Go.aloadN 8 rfl d7_7 rfl rfl ?_
          refine Go.callV 11 rfl (C := B8) a [] (rest := [.int ((((0 : Int32) + (1 : Int32)) + (1 : Int32)) + (1 : Int32))]) 38 39 41 40 2 42 (c8k0 Z hw h0 a (3 : Int32) cs hS hcs t (IL [l1 x0, l1 x1, l1 x2]) (3 : Int32) rfl (by decide) hE hV hC hA) hE d7_8 rfl rfl rfl rfl rfl rfl (by decide) pd8 rfl rfl rfl (W := 1) (Nat.le_of_ble_eq_true rfl) (by decide) (by decide) (by decide) (by decide) fun v25 h26 q27 => ?_
          obtain ⟨rfl, rfl⟩ := q27
          refine Go.icmp_ge 33 14 d7_11 (by decide) rfl rfl (fun (b28 : ¬ ((((0 : Int32) + (1 : Int32)) + (1 : Int32)) + (1 : Int32)) < (3 : Int32)) => ?_) (fun (b28 : ((((0 : Int32) + (1 : Int32)) + (1 : Int32)) + (1 : Int32)) < (3 : Int32)) => ?_)
          · refine Go.lloadN 34 rfl d7_33 rfl ?_
            refine Go.lloadN 35 rfl d7_34 rfl ?_
            refine Go.bipush 37 rfl (33 : Int32) d7_35 rfl ?_
            refine Go.lushr 38 rfl d7_37 ?_
            refine Go.lxor 39 rfl d7_38 ?_
            refine Go.ldc2J 42 rfl (v := (-49064778989728563 : Int64)) 48 d7_39 rfl ?_
            refine Go.lmul 43 rfl d7_42 ?_
            refine Go.nameJ fun v29 hv29 => ?_
            refine Go.lstoreN 44 rfl d7_43 (Ls' := #[.val (.ref a), .val (.long v29), .second, .val (.int ((((0 : Int32) + (1 : Int32)) + (1 : Int32)) + (1 : Int32)))]) rfl ?_
            refine Go.lloadN 45 rfl d7_44 rfl ?_
            refine Go.lloadN 46 rfl d7_45 rfl ?_
            refine Go.bipush 48 rfl (33 : Int32) d7_46 rfl ?_
            refine Go.lushr 49 rfl d7_48 ?_
            refine Go.lxor 50 rfl d7_49 ?_
            refine Go.ldc2J 53 rfl (v := (-4265267296055464877 : Int64)) 49 d7_50 rfl ?_
            refine Go.lmul 54 rfl d7_53 ?_
            refine Go.nameJ fun v30 hv30 => ?_
            refine Go.lstoreN 55 rfl d7_54 (Ls' := #[.val (.ref a), .val (.long v30), .second, .val (.int ((((0 : Int32) + (1 : Int32)) + (1 : Int32)) + (1 : Int32)))]) rfl ?_
            refine Go.lloadN 56 rfl d7_55 rfl ?_
            refine Go.lloadN 57 rfl d7_56 rfl ?_
            refine Go.bipush 59 rfl (33 : Int32) d7_57 rfl ?_
            refine Go.lushr 60 rfl d7_59 ?_
            refine Go.lxor 61 rfl d7_60 ?_
            subst_vars
            exact Go.retJ d7_61 rfl (by decide) (by decide) ⟨rfl, rfl⟩
          · exact absurd b28 (show ¬ ((((0 : Int32) + (1 : Int32)) + (1 : Int32)) + (1 : Int32)) < (3 : Int32) from by decide)
  · refine Go.ldc2J 3 rfl (v := (-3750763034362895579 : Int64)) 37 d7_0 rfl ?_
    refine Go.lstoreN 4 rfl d7_3 (Ls' := #[.val (.ref a), .val (.long (-3750763034362895579 : Int64)), .second, .unset]) rfl ?_
    refine Go.iconst 5 rfl (0 : Int32) d7_4 rfl ?_
    refine Go.istoreN 6 rfl d7_5 (Ls' := #[.val (.ref a), .val (.long (-3750763034362895579 : Int64)), .second, .val (.int (0 : Int32))]) rfl ?_
    refine Go.iloadN 7 rfl d7_6 rfl ?_
    refine Go.aloadN 8 rfl d7_7 rfl rfl ?_
    refine Go.callV 11 rfl (C := B8) a [] (rest := [.int (0 : Int32)]) 38 39 41 40 2 42 (c8k1 Z hw h0 a (3 : Int32) cs hS hcs t (IL [lo x0, hi x0, lo x1, hi x1, lo x2, hi x2]) (6 : Int32) rfl (by decide) hE hV hC hA) hE d7_8 rfl rfl rfl rfl rfl rfl (by decide) pd8 rfl rfl rfl (W := 1) (Nat.le_of_ble_eq_true rfl) (by decide) (by decide) (by decide) (by decide) fun v31 h32 q33 => ?_
    obtain ⟨rfl, rfl⟩ := q33
    refine Go.icmp_ge 33 14 d7_11 (by decide) rfl rfl (fun (b34 : ¬ (0 : Int32) < (3 : Int32)) => ?_) (fun (b34 : (0 : Int32) < (3 : Int32)) => ?_)
    · exact absurd (show (0 : Int32) < (3 : Int32) from by decide) b34
    · refine Go.lloadN 15 rfl d7_14 rfl ?_
      refine Go.aloadN 16 rfl d7_15 rfl rfl ?_
      refine Go.iloadN 17 rfl d7_16 rfl ?_
      refine Go.callV 20 rfl (C := B11) a [.int (0 : Int32)] (rest := [.long (-3750763034362895579 : Int64)]) 56 57 59 58 2 60 (c11k1 Z hw h0 a (0 : Int32) x0 cs hS hcs hAs hHi hLo hfm t [lo x0, hi x0, lo x1, hi x1, lo x2, hi x2] 0 rfl (by decide) hE hV hA hx0 hC (6 : Int32) (3 : Int32) rfl (by decide) (by decide) (Nat.le_of_ble_eq_true rfl) (own_gc hx0)) hE d7_17 rfl rfl rfl rfl rfl rfl (by decide) pd11 rfl rfl rfl (W := 2) (Nat.le_of_ble_eq_true rfl) (by decide) (by decide) (by decide) (by decide) fun v35 h36 q37 => ?_
      obtain ⟨rfl, rfl⟩ := q37
      refine Go.i2l 21 rfl d7_20 ?_
      refine Go.lxor 22 rfl d7_21 ?_
      refine Go.ldc2J 25 rfl (v := (1099511628211 : Int64)) 78 d7_22 rfl ?_
      refine Go.lmul 26 rfl d7_25 ?_
      refine Go.nameJ fun v38 hv38 => ?_
      refine Go.lstoreN 27 rfl d7_26 (Ls' := #[.val (.ref a), .val (.long v38), .second, .val (.int (0 : Int32))]) rfl ?_
      refine Go.iinc 30 rfl (1 : Int32) d7_27 rfl rfl (Ls' := #[.val (.ref a), .val (.long v38), .second, .val (.int ((0 : Int32) + (1 : Int32)))]) rfl ?_
      refine Go.goto 6 d7_30 (by decide) (by decide) ?_
      refine Go.iloadN 7 rfl d7_6 rfl ?_
      refine Go.aloadN 8 rfl d7_7 rfl rfl ?_
      refine Go.callV 11 rfl (C := B8) a [] (rest := [.int ((0 : Int32) + (1 : Int32))]) 38 39 41 40 2 42 (c8k1 Z hw h0 a (3 : Int32) cs hS hcs t (IL [lo x0, hi x0, lo x1, hi x1, lo x2, hi x2]) (6 : Int32) rfl (by decide) hE hV hC hA) hE d7_8 rfl rfl rfl rfl rfl rfl (by decide) pd8 rfl rfl rfl (W := 1) (Nat.le_of_ble_eq_true rfl) (by decide) (by decide) (by decide) (by decide) fun v39 h40 q41 => ?_
      obtain ⟨rfl, rfl⟩ := q41
      refine Go.icmp_ge 33 14 d7_11 (by decide) rfl rfl (fun (b42 : ¬ ((0 : Int32) + (1 : Int32)) < (3 : Int32)) => ?_) (fun (b42 : ((0 : Int32) + (1 : Int32)) < (3 : Int32)) => ?_)
      · exact absurd (show ((0 : Int32) + (1 : Int32)) < (3 : Int32) from by decide) b42
      · refine Go.lloadN 15 rfl d7_14 rfl ?_
        refine Go.aloadN 16 rfl d7_15 rfl rfl ?_
        refine Go.iloadN 17 rfl d7_16 rfl ?_
        refine Go.callV 20 rfl (C := B11) a [.int ((0 : Int32) + (1 : Int32))] (rest := [.long v38]) 56 57 59 58 2 60 (c11k1 Z hw h0 a ((0 : Int32) + (1 : Int32)) x1 cs hS hcs hAs hHi hLo hfm t [lo x0, hi x0, lo x1, hi x1, lo x2, hi x2] 1 rfl (by decide) hE hV hA hx1 hC (6 : Int32) (3 : Int32) rfl (by decide) (by decide) (Nat.le_of_ble_eq_true rfl) (own_gc hx1)) hE d7_17 rfl rfl rfl rfl rfl rfl (by decide) pd11 rfl rfl rfl (W := 2) (Nat.le_of_ble_eq_true rfl) (by decide) (by decide) (by decide) (by decide) fun v43 h44 q45 => ?_
        obtain ⟨rfl, rfl⟩ := q45
        refine Go.i2l 21 rfl d7_20 ?_
        refine Go.lxor 22 rfl d7_21 ?_
        refine Go.ldc2J 25 rfl (v := (1099511628211 : Int64)) 78 d7_22 rfl ?_
        refine Go.lmul 26 rfl d7_25 ?_
        refine Go.nameJ fun v46 hv46 => ?_
        refine Go.lstoreN 27 rfl d7_26 (Ls' := #[.val (.ref a), .val (.long v46), .second, .val (.int ((0 : Int32) + (1 : Int32)))]) rfl ?_
        refine Go.iinc 30 rfl (1 : Int32) d7_27 rfl rfl (Ls' := #[.val (.ref a), .val (.long v46), .second, .val (.int (((0 : Int32) + (1 : Int32)) + (1 : Int32)))]) rfl ?_
        refine Go.goto 6 d7_30 (by decide) (by decide) ?_
        refine Go.iloadN 7 rfl d7_6 rfl ?_
        refine Go.aloadN 8 rfl d7_7 rfl rfl ?_
        refine Go.callV 11 rfl (C := B8) a [] (rest := [.int (((0 : Int32) + (1 : Int32)) + (1 : Int32))]) 38 39 41 40 2 42 (c8k1 Z hw h0 a (3 : Int32) cs hS hcs t (IL [lo x0, hi x0, lo x1, hi x1, lo x2, hi x2]) (6 : Int32) rfl (by decide) hE hV hC hA) hE d7_8 rfl rfl rfl rfl rfl rfl (by decide) pd8 rfl rfl rfl (W := 1) (Nat.le_of_ble_eq_true rfl) (by decide) (by decide) (by decide) (by decide) fun v47 h48 q49 => ?_
        obtain ⟨rfl, rfl⟩ := q49
        refine Go.icmp_ge 33 14 d7_11 (by decide) rfl rfl (fun (b50 : ¬ (((0 : Int32) + (1 : Int32)) + (1 : Int32)) < (3 : Int32)) => ?_) (fun (b50 : (((0 : Int32) + (1 : Int32)) + (1 : Int32)) < (3 : Int32)) => ?_)
        · exact absurd (show (((0 : Int32) + (1 : Int32)) + (1 : Int32)) < (3 : Int32) from by decide) b50
        · refine Go.lloadN 15 rfl d7_14 rfl ?_
          refine Go.aloadN 16 rfl d7_15 rfl rfl ?_
          refine Go.iloadN 17 rfl d7_16 rfl ?_
          refine Go.callV 20 rfl (C := B11) a [.int (((0 : Int32) + (1 : Int32)) + (1 : Int32))] (rest := [.long v46]) 56 57 59 58 2 60 (c11k1 Z hw h0 a (((0 : Int32) + (1 : Int32)) + (1 : Int32)) x2 cs hS hcs hAs hHi hLo hfm t [lo x0, hi x0, lo x1, hi x1, lo x2, hi x2] 2 rfl (by decide) hE hV hA hx2 hC (6 : Int32) (3 : Int32) rfl (by decide) (by decide) (Nat.le_of_ble_eq_true rfl) (own_gc hx2)) hE d7_17 rfl rfl rfl rfl rfl rfl (by decide) pd11 rfl rfl rfl (W := 2) (Nat.le_of_ble_eq_true rfl) (by decide) (by decide) (by decide) (by decide) fun v51 h52 q53 => ?_
          obtain ⟨rfl, rfl⟩ := q53
          refine Go.i2l 21 rfl d7_20 ?_
          refine Go.lxor 22 rfl d7_21 ?_
          refine Go.ldc2J 25 rfl (v := (1099511628211 : Int64)) 78 d7_22 rfl ?_
          refine Go.lmul 26 rfl d7_25 ?_
          refine Go.nameJ fun v54 hv54 => ?_
          refine Go.lstoreN 27 rfl d7_26 (Ls' := #[.val (.ref a), .val (.long v54), .second, .val (.int (((0 : Int32) + (1 : Int32)) + (1 : Int32)))]) rfl ?_
          refine Go.iinc 30 rfl (1 : Int32) d7_27 rfl rfl (Ls' := #[.val (.ref a), .val (.long v54), .second, .val (.int ((((0 : Int32) + (1 : Int32)) + (1 : Int32)) + (1 : Int32)))]) rfl ?_
          refine Go.goto 6 d7_30 (by decide) (by decide) ?_
          refine Go.iloadN 7 rfl d7_6 rfl ?_
          refine Go.aloadN 8 rfl d7_7 rfl rfl ?_
          refine Go.callV 11 rfl (C := B8) a [] (rest := [.int ((((0 : Int32) + (1 : Int32)) + (1 : Int32)) + (1 : Int32))]) 38 39 41 40 2 42 (c8k1 Z hw h0 a (3 : Int32) cs hS hcs t (IL [lo x0, hi x0, lo x1, hi x1, lo x2, hi x2]) (6 : Int32) rfl (by decide) hE hV hC hA) hE d7_8 rfl rfl rfl rfl rfl rfl (by decide) pd8 rfl rfl rfl (W := 1) (Nat.le_of_ble_eq_true rfl) (by decide) (by decide) (by decide) (by decide) fun v55 h56 q57 => ?_
          obtain ⟨rfl, rfl⟩ := q57
          refine Go.icmp_ge 33 14 d7_11 (by decide) rfl rfl (fun (b58 : ¬ ((((0 : Int32) + (1 : Int32)) + (1 : Int32)) + (1 : Int32)) < (3 : Int32)) => ?_) (fun (b58 : ((((0 : Int32) + (1 : Int32)) + (1 : Int32)) + (1 : Int32)) < (3 : Int32)) => ?_)
          · refine Go.lloadN 34 rfl d7_33 rfl ?_
            refine Go.lloadN 35 rfl d7_34 rfl ?_
            refine Go.bipush 37 rfl (33 : Int32) d7_35 rfl ?_
            refine Go.lushr 38 rfl d7_37 ?_
            refine Go.lxor 39 rfl d7_38 ?_
            refine Go.ldc2J 42 rfl (v := (-49064778989728563 : Int64)) 48 d7_39 rfl ?_
            refine Go.lmul 43 rfl d7_42 ?_
            refine Go.nameJ fun v59 hv59 => ?_
            refine Go.lstoreN 44 rfl d7_43 (Ls' := #[.val (.ref a), .val (.long v59), .second, .val (.int ((((0 : Int32) + (1 : Int32)) + (1 : Int32)) + (1 : Int32)))]) rfl ?_
            refine Go.lloadN 45 rfl d7_44 rfl ?_
            refine Go.lloadN 46 rfl d7_45 rfl ?_
            refine Go.bipush 48 rfl (33 : Int32) d7_46 rfl ?_
            refine Go.lushr 49 rfl d7_48 ?_
            refine Go.lxor 50 rfl d7_49 ?_
            refine Go.ldc2J 53 rfl (v := (-4265267296055464877 : Int64)) 49 d7_50 rfl ?_
            refine Go.lmul 54 rfl d7_53 ?_
            refine Go.nameJ fun v60 hv60 => ?_
            refine Go.lstoreN 55 rfl d7_54 (Ls' := #[.val (.ref a), .val (.long v60), .second, .val (.int ((((0 : Int32) + (1 : Int32)) + (1 : Int32)) + (1 : Int32)))]) rfl ?_
            refine Go.lloadN 56 rfl d7_55 rfl ?_
            refine Go.lloadN 57 rfl d7_56 rfl ?_
            refine Go.bipush 59 rfl (33 : Int32) d7_57 rfl ?_
            refine Go.lushr 60 rfl d7_59 ?_
            refine Go.lxor 61 rfl d7_60 ?_
            subst_vars
            exact Go.retJ d7_61 rfl (by decide) (by decide) ⟨rfl, rfl⟩
          · exact absurd b58 (show ¬ ((((0 : Int32) + (1 : Int32)) + (1 : Int32)) + (1 : Int32)) < (3 : Int32) from by decide)
theorem ef7n2 (mid : MethodId) (a : Addr) : entryFrame mid (List.toArray [.ref a]) 4 = mkF mid 0 #[.val (.ref a), .unset, .unset, .unset] [] := by first | (simp [entryFrame, mkF, argsToLocals, Value.category]; done) | rfl
def Q7n2 (x0 : Int32) (x1 : Int32) (h0 : Heap) (v : Option Value) (h : Heap) : Prop := v = some (.long (mixf (((((-3750763034362895579 : Int64) ^^^ x0.toInt64) * (1099511628211 : Int64)) ^^^ x1.toInt64) * (1099511628211 : Int64)))) ∧ h0 = h
set_option maxRecDepth 65536 in
set_option maxHeartbeats 40000000 in
theorem c7n2 (Z : State) (hw : Wd Z tables_1) (h0 : Heap) (a : Addr) (x0 : Int32) (x1 : Int32) (cs : Int32) (hS : Sta Z Z.heap "java/lang/String" "COMPACT_STRINGS" "Z" (.int cs)) (hcs : ¬ cs = 0) (hAs : Sta Z Z.heap "java/lang/StringUTF16" "$assertionsDisabled" "Z" (.int 1)) (hHi : Sta Z Z.heap "java/lang/StringUTF16" "HI_BYTE_SHIFT" "I" (.int 0)) (hLo : Sta Z Z.heap "java/lang/StringUTF16" "LO_BYTE_SHIFT" "I" (.int 8)) (hfm : (Sta Z Z.heap "jdk/internal/util/Preconditions" "SIOOBE_FORMATTER" "Ljava/util/function/BiFunction;" .null) ∨ ∃ m, Sta Z Z.heap "jdk/internal/util/Preconditions" "SIOOBE_FORMATTER" "Ljava/util/function/BiFunction;" (.ref m)) (t : Addr) (hE : Exa Z h0 a "java/lang/String") (hV : Fld Z h0 a "java/lang/String" "value" "[B" (.ref t)) (hD : ((Fld Z h0 a "java/lang/String" "coder" "B" (.int 0) ∧ ¬ (255 : Int32) < x0 ∧ ¬ (255 : Int32) < x1 ∧ Ary Z h0 t .byte (IL [l1 x0, l1 x1])) ∨ (Fld Z h0 a "java/lang/String" "coder" "B" (.int 1) ∧ Ary Z h0 t .byte (IL [lo x0, hi x0, lo x1, hi x1])))) (hx0 : Ch x0) (hx1 : Ch x1) : Con Z B7 (List.toArray [.ref a]) h0 (Q7n2 x0 x1 h0) := by
  refine Con.mk hw pn7 (fun mid => ef7n2 mid a) (Go.old fun hle' => ?_)
  have hle := hle'.1
  rcases hD with ⟨hC, lg0, lg1, hA⟩ | ⟨hC, hA⟩
  · refine Go.ldc2J 3 rfl (v := (-3750763034362895579 : Int64)) 37 d7_0 rfl ?_
    refine Go.lstoreN 4 rfl d7_3 (Ls' := #[.val (.ref a), .val (.long (-3750763034362895579 : Int64)), .second, .unset]) rfl ?_
    refine Go.iconst 5 rfl (0 : Int32) d7_4 rfl ?_
    refine Go.istoreN 6 rfl d7_5 (Ls' := #[.val (.ref a), .val (.long (-3750763034362895579 : Int64)), .second, .val (.int (0 : Int32))]) rfl ?_
    refine Go.iloadN 7 rfl d7_6 rfl ?_
    refine Go.aloadN 8 rfl d7_7 rfl rfl ?_
    refine Go.callV 11 rfl (C := B8) a [] (rest := [.int (0 : Int32)]) 38 39 41 40 2 42 (c8k0 Z hw h0 a (2 : Int32) cs hS hcs t (IL [l1 x0, l1 x1]) (2 : Int32) rfl (by decide) hE hV hC hA) hE d7_8 rfl rfl rfl rfl rfl rfl (by decide) pd8 rfl rfl rfl (W := 1) (Nat.le_of_ble_eq_true rfl) (by decide) (by decide) (by decide) (by decide) fun v1 h2 q3 => ?_
    obtain ⟨rfl, rfl⟩ := q3
    refine Go.icmp_ge 33 14 d7_11 (by decide) rfl rfl (fun (b4 : ¬ (0 : Int32) < (2 : Int32)) => ?_) (fun (b4 : (0 : Int32) < (2 : Int32)) => ?_)
    · exact absurd (show (0 : Int32) < (2 : Int32) from by decide) b4
    · refine Go.lloadN 15 rfl d7_14 rfl ?_
      refine Go.aloadN 16 rfl d7_15 rfl rfl ?_
      refine Go.iloadN 17 rfl d7_16 rfl ?_
      refine Go.callV 20 rfl (C := B11) a [.int (0 : Int32)] (rest := [.long (-3750763034362895579 : Int64)]) 56 57 59 58 2 60 (c11k0 Z hw h0 a (0 : Int32) x0 cs hS hcs hAs hHi hLo hfm t [l1 x0, l1 x1] 0 rfl (by decide) hE hV hA hx0 hC (Nat.le_of_ble_eq_true rfl) (Nat.le_of_ble_eq_true rfl) (own_gl hx0 lg0)) hE d7_17 rfl rfl rfl rfl rfl rfl (by decide) pd11 rfl rfl rfl (W := 2) (Nat.le_of_ble_eq_true rfl) (by decide) (by decide) (by decide) (by decide) fun v5 h6 q7 => ?_
      obtain ⟨rfl, rfl⟩ := q7
      refine Go.i2l 21 rfl d7_20 ?_
      refine Go.lxor 22 rfl d7_21 ?_
      refine Go.ldc2J 25 rfl (v := (1099511628211 : Int64)) 78 d7_22 rfl ?_
      refine Go.lmul 26 rfl d7_25 ?_
      refine Go.nameJ fun v8 hv8 => ?_
      refine Go.lstoreN 27 rfl d7_26 (Ls' := #[.val (.ref a), .val (.long v8), .second, .val (.int (0 : Int32))]) rfl ?_
      refine Go.iinc 30 rfl (1 : Int32) d7_27 rfl rfl (Ls' := #[.val (.ref a), .val (.long v8), .second, .val (.int ((0 : Int32) + (1 : Int32)))]) rfl ?_
      refine Go.goto 6 d7_30 (by decide) (by decide) ?_
      refine Go.iloadN 7 rfl d7_6 rfl ?_
      refine Go.aloadN 8 rfl d7_7 rfl rfl ?_
      refine Go.callV 11 rfl (C := B8) a [] (rest := [.int ((0 : Int32) + (1 : Int32))]) 38 39 41 40 2 42 (c8k0 Z hw h0 a (2 : Int32) cs hS hcs t (IL [l1 x0, l1 x1]) (2 : Int32) rfl (by decide) hE hV hC hA) hE d7_8 rfl rfl rfl rfl rfl rfl (by decide) pd8 rfl rfl rfl (W := 1) (Nat.le_of_ble_eq_true rfl) (by decide) (by decide) (by decide) (by decide) fun v9 h10 q11 => ?_
      obtain ⟨rfl, rfl⟩ := q11
      refine Go.icmp_ge 33 14 d7_11 (by decide) rfl rfl (fun (b12 : ¬ ((0 : Int32) + (1 : Int32)) < (2 : Int32)) => ?_) (fun (b12 : ((0 : Int32) + (1 : Int32)) < (2 : Int32)) => ?_)
      · exact absurd (show ((0 : Int32) + (1 : Int32)) < (2 : Int32) from by decide) b12
      · refine Go.lloadN 15 rfl d7_14 rfl ?_
        refine Go.aloadN 16 rfl d7_15 rfl rfl ?_
        refine Go.iloadN 17 rfl d7_16 rfl ?_
        refine Go.callV 20 rfl (C := B11) a [.int ((0 : Int32) + (1 : Int32))] (rest := [.long v8]) 56 57 59 58 2 60 (c11k0 Z hw h0 a ((0 : Int32) + (1 : Int32)) x1 cs hS hcs hAs hHi hLo hfm t [l1 x0, l1 x1] 1 rfl (by decide) hE hV hA hx1 hC (Nat.le_of_ble_eq_true rfl) (Nat.le_of_ble_eq_true rfl) (own_gl hx1 lg1)) hE d7_17 rfl rfl rfl rfl rfl rfl (by decide) pd11 rfl rfl rfl (W := 2) (Nat.le_of_ble_eq_true rfl) (by decide) (by decide) (by decide) (by decide) fun v13 h14 q15 => ?_
        obtain ⟨rfl, rfl⟩ := q15
        refine Go.i2l 21 rfl d7_20 ?_
        refine Go.lxor 22 rfl d7_21 ?_
        refine Go.ldc2J 25 rfl (v := (1099511628211 : Int64)) 78 d7_22 rfl ?_
        refine Go.lmul 26 rfl d7_25 ?_
        refine Go.nameJ fun v16 hv16 => ?_
        refine Go.lstoreN 27 rfl d7_26 (Ls' := #[.val (.ref a), .val (.long v16), .second, .val (.int ((0 : Int32) + (1 : Int32)))]) rfl ?_
        refine Go.iinc 30 rfl (1 : Int32) d7_27 rfl rfl (Ls' := #[.val (.ref a), .val (.long v16), .second, .val (.int (((0 : Int32) + (1 : Int32)) + (1 : Int32)))]) rfl ?_
        refine Go.goto 6 d7_30 (by decide) (by decide) ?_
        refine Go.iloadN 7 rfl d7_6 rfl ?_
        refine Go.aloadN 8 rfl d7_7 rfl rfl ?_
        refine Go.callV 11 rfl (C := B8) a [] (rest := [.int (((0 : Int32) + (1 : Int32)) + (1 : Int32))]) 38 39 41 40 2 42 (c8k0 Z hw h0 a (2 : Int32) cs hS hcs t (IL [l1 x0, l1 x1]) (2 : Int32) rfl (by decide) hE hV hC hA) hE d7_8 rfl rfl rfl rfl rfl rfl (by decide) pd8 rfl rfl rfl (W := 1) (Nat.le_of_ble_eq_true rfl) (by decide) (by decide) (by decide) (by decide) fun v17 h18 q19 => ?_
        obtain ⟨rfl, rfl⟩ := q19
        refine Go.icmp_ge 33 14 d7_11 (by decide) rfl rfl (fun (b20 : ¬ (((0 : Int32) + (1 : Int32)) + (1 : Int32)) < (2 : Int32)) => ?_) (fun (b20 : (((0 : Int32) + (1 : Int32)) + (1 : Int32)) < (2 : Int32)) => ?_)
        · refine Go.lloadN 34 rfl d7_33 rfl ?_
          refine Go.lloadN 35 rfl d7_34 rfl ?_
          refine Go.bipush 37 rfl (33 : Int32) d7_35 rfl ?_
          refine Go.lushr 38 rfl d7_37 ?_
          refine Go.lxor 39 rfl d7_38 ?_
          refine Go.ldc2J 42 rfl (v := (-49064778989728563 : Int64)) 48 d7_39 rfl ?_
          refine Go.lmul 43 rfl d7_42 ?_
          refine Go.nameJ fun v21 hv21 => ?_
          refine Go.lstoreN 44 rfl d7_43 (Ls' := #[.val (.ref a), .val (.long v21), .second, .val (.int (((0 : Int32) + (1 : Int32)) + (1 : Int32)))]) rfl ?_
          refine Go.lloadN 45 rfl d7_44 rfl ?_
          refine Go.lloadN 46 rfl d7_45 rfl ?_
          refine Go.bipush 48 rfl (33 : Int32) d7_46 rfl ?_
          refine Go.lushr 49 rfl d7_48 ?_
          refine Go.lxor 50 rfl d7_49 ?_
          refine Go.ldc2J 53 rfl (v := (-4265267296055464877 : Int64)) 49 d7_50 rfl ?_
          refine Go.lmul 54 rfl d7_53 ?_
          refine Go.nameJ fun v22 hv22 => ?_
          refine Go.lstoreN 55 rfl d7_54 (Ls' := #[.val (.ref a), .val (.long v22), .second, .val (.int (((0 : Int32) + (1 : Int32)) + (1 : Int32)))]) rfl ?_
          refine Go.lloadN 56 rfl d7_55 rfl ?_
          refine Go.lloadN 57 rfl d7_56 rfl ?_
          refine Go.bipush 59 rfl (33 : Int32) d7_57 rfl ?_
          refine Go.lushr 60 rfl d7_59 ?_
          refine Go.lxor 61 rfl d7_60 ?_
          subst_vars
          exact Go.retJ d7_61 rfl (by decide) (by decide) ⟨rfl, rfl⟩
        · exact absurd b20 (show ¬ (((0 : Int32) + (1 : Int32)) + (1 : Int32)) < (2 : Int32) from by decide)
  · refine Go.ldc2J 3 rfl (v := (-3750763034362895579 : Int64)) 37 d7_0 rfl ?_
    refine Go.lstoreN 4 rfl d7_3 (Ls' := #[.val (.ref a), .val (.long (-3750763034362895579 : Int64)), .second, .unset]) rfl ?_
    refine Go.iconst 5 rfl (0 : Int32) d7_4 rfl ?_
    refine Go.istoreN 6 rfl d7_5 (Ls' := #[.val (.ref a), .val (.long (-3750763034362895579 : Int64)), .second, .val (.int (0 : Int32))]) rfl ?_
    refine Go.iloadN 7 rfl d7_6 rfl ?_
    refine Go.aloadN 8 rfl d7_7 rfl rfl ?_
    refine Go.callV 11 rfl (C := B8) a [] (rest := [.int (0 : Int32)]) 38 39 41 40 2 42 (c8k1 Z hw h0 a (2 : Int32) cs hS hcs t (IL [lo x0, hi x0, lo x1, hi x1]) (4 : Int32) rfl (by decide) hE hV hC hA) hE d7_8 rfl rfl rfl rfl rfl rfl (by decide) pd8 rfl rfl rfl (W := 1) (Nat.le_of_ble_eq_true rfl) (by decide) (by decide) (by decide) (by decide) fun v23 h24 q25 => ?_
    obtain ⟨rfl, rfl⟩ := q25
    refine Go.icmp_ge 33 14 d7_11 (by decide) rfl rfl (fun (b26 : ¬ (0 : Int32) < (2 : Int32)) => ?_) (fun (b26 : (0 : Int32) < (2 : Int32)) => ?_)
    · exact absurd (show (0 : Int32) < (2 : Int32) from by decide) b26
    · refine Go.lloadN 15 rfl d7_14 rfl ?_
      refine Go.aloadN 16 rfl d7_15 rfl rfl ?_
      refine Go.iloadN 17 rfl d7_16 rfl ?_
      refine Go.callV 20 rfl (C := B11) a [.int (0 : Int32)] (rest := [.long (-3750763034362895579 : Int64)]) 56 57 59 58 2 60 (c11k1 Z hw h0 a (0 : Int32) x0 cs hS hcs hAs hHi hLo hfm t [lo x0, hi x0, lo x1, hi x1] 0 rfl (by decide) hE hV hA hx0 hC (4 : Int32) (2 : Int32) rfl (by decide) (by decide) (Nat.le_of_ble_eq_true rfl) (own_gc hx0)) hE d7_17 rfl rfl rfl rfl rfl rfl (by decide) pd11 rfl rfl rfl (W := 2) (Nat.le_of_ble_eq_true rfl) (by decide) (by decide) (by decide) (by decide) fun v27 h28 q29 => ?_
      obtain ⟨rfl, rfl⟩ := q29
      refine Go.i2l 21 rfl d7_20 ?_
      refine Go.lxor 22 rfl d7_21 ?_
      refine Go.ldc2J 25 rfl (v := (1099511628211 : Int64)) 78 d7_22 rfl ?_
      refine Go.lmul 26 rfl d7_25 ?_
      refine Go.nameJ fun v30 hv30 => ?_
      refine Go.lstoreN 27 rfl d7_26 (Ls' := #[.val (.ref a), .val (.long v30), .second, .val (.int (0 : Int32))]) rfl ?_
      refine Go.iinc 30 rfl (1 : Int32) d7_27 rfl rfl (Ls' := #[.val (.ref a), .val (.long v30), .second, .val (.int ((0 : Int32) + (1 : Int32)))]) rfl ?_
      refine Go.goto 6 d7_30 (by decide) (by decide) ?_
      refine Go.iloadN 7 rfl d7_6 rfl ?_
      refine Go.aloadN 8 rfl d7_7 rfl rfl ?_
      refine Go.callV 11 rfl (C := B8) a [] (rest := [.int ((0 : Int32) + (1 : Int32))]) 38 39 41 40 2 42 (c8k1 Z hw h0 a (2 : Int32) cs hS hcs t (IL [lo x0, hi x0, lo x1, hi x1]) (4 : Int32) rfl (by decide) hE hV hC hA) hE d7_8 rfl rfl rfl rfl rfl rfl (by decide) pd8 rfl rfl rfl (W := 1) (Nat.le_of_ble_eq_true rfl) (by decide) (by decide) (by decide) (by decide) fun v31 h32 q33 => ?_
      obtain ⟨rfl, rfl⟩ := q33
      refine Go.icmp_ge 33 14 d7_11 (by decide) rfl rfl (fun (b34 : ¬ ((0 : Int32) + (1 : Int32)) < (2 : Int32)) => ?_) (fun (b34 : ((0 : Int32) + (1 : Int32)) < (2 : Int32)) => ?_)
      · exact absurd (show ((0 : Int32) + (1 : Int32)) < (2 : Int32) from by decide) b34
      · refine Go.lloadN 15 rfl d7_14 rfl ?_
        refine Go.aloadN 16 rfl d7_15 rfl rfl ?_
        refine Go.iloadN 17 rfl d7_16 rfl ?_
        refine Go.callV 20 rfl (C := B11) a [.int ((0 : Int32) + (1 : Int32))] (rest := [.long v30]) 56 57 59 58 2 60 (c11k1 Z hw h0 a ((0 : Int32) + (1 : Int32)) x1 cs hS hcs hAs hHi hLo hfm t [lo x0, hi x0, lo x1, hi x1] 1 rfl (by decide) hE hV hA hx1 hC (4 : Int32) (2 : Int32) rfl (by decide) (by decide) (Nat.le_of_ble_eq_true rfl) (own_gc hx1)) hE d7_17 rfl rfl rfl rfl rfl rfl (by decide) pd11 rfl rfl rfl (W := 2) (Nat.le_of_ble_eq_true rfl) (by decide) (by decide) (by decide) (by decide) fun v35 h36 q37 => ?_
        obtain ⟨rfl, rfl⟩ := q37
        refine Go.i2l 21 rfl d7_20 ?_
        refine Go.lxor 22 rfl d7_21 ?_
        refine Go.ldc2J 25 rfl (v := (1099511628211 : Int64)) 78 d7_22 rfl ?_
        refine Go.lmul 26 rfl d7_25 ?_
        refine Go.nameJ fun v38 hv38 => ?_
        refine Go.lstoreN 27 rfl d7_26 (Ls' := #[.val (.ref a), .val (.long v38), .second, .val (.int ((0 : Int32) + (1 : Int32)))]) rfl ?_
        refine Go.iinc 30 rfl (1 : Int32) d7_27 rfl rfl (Ls' := #[.val (.ref a), .val (.long v38), .second, .val (.int (((0 : Int32) + (1 : Int32)) + (1 : Int32)))]) rfl ?_
        refine Go.goto 6 d7_30 (by decide) (by decide) ?_
        refine Go.iloadN 7 rfl d7_6 rfl ?_
        refine Go.aloadN 8 rfl d7_7 rfl rfl ?_
        refine Go.callV 11 rfl (C := B8) a [] (rest := [.int (((0 : Int32) + (1 : Int32)) + (1 : Int32))]) 38 39 41 40 2 42 (c8k1 Z hw h0 a (2 : Int32) cs hS hcs t (IL [lo x0, hi x0, lo x1, hi x1]) (4 : Int32) rfl (by decide) hE hV hC hA) hE d7_8 rfl rfl rfl rfl rfl rfl (by decide) pd8 rfl rfl rfl (W := 1) (Nat.le_of_ble_eq_true rfl) (by decide) (by decide) (by decide) (by decide) fun v39 h40 q41 => ?_
        obtain ⟨rfl, rfl⟩ := q41
        refine Go.icmp_ge 33 14 d7_11 (by decide) rfl rfl (fun (b42 : ¬ (((0 : Int32) + (1 : Int32)) + (1 : Int32)) < (2 : Int32)) => ?_) (fun (b42 : (((0 : Int32) + (1 : Int32)) + (1 : Int32)) < (2 : Int32)) => ?_)
        · refine Go.lloadN 34 rfl d7_33 rfl ?_
          refine Go.lloadN 35 rfl d7_34 rfl ?_
          refine Go.bipush 37 rfl (33 : Int32) d7_35 rfl ?_
          refine Go.lushr 38 rfl d7_37 ?_
          refine Go.lxor 39 rfl d7_38 ?_
          refine Go.ldc2J 42 rfl (v := (-49064778989728563 : Int64)) 48 d7_39 rfl ?_
          refine Go.lmul 43 rfl d7_42 ?_
          refine Go.nameJ fun v43 hv43 => ?_
          refine Go.lstoreN 44 rfl d7_43 (Ls' := #[.val (.ref a), .val (.long v43), .second, .val (.int (((0 : Int32) + (1 : Int32)) + (1 : Int32)))]) rfl ?_
          refine Go.lloadN 45 rfl d7_44 rfl ?_
          refine Go.lloadN 46 rfl d7_45 rfl ?_
          refine Go.bipush 48 rfl (33 : Int32) d7_46 rfl ?_
          refine Go.lushr 49 rfl d7_48 ?_
          refine Go.lxor 50 rfl d7_49 ?_
          refine Go.ldc2J 53 rfl (v := (-4265267296055464877 : Int64)) 49 d7_50 rfl ?_
          refine Go.lmul 54 rfl d7_53 ?_
          refine Go.nameJ fun v44 hv44 => ?_
          refine Go.lstoreN 55 rfl d7_54 (Ls' := #[.val (.ref a), .val (.long v44), .second, .val (.int (((0 : Int32) + (1 : Int32)) + (1 : Int32)))]) rfl ?_
          refine Go.lloadN 56 rfl d7_55 rfl ?_
          refine Go.lloadN 57 rfl d7_56 rfl ?_
          refine Go.bipush 59 rfl (33 : Int32) d7_57 rfl ?_
          refine Go.lushr 60 rfl d7_59 ?_
          refine Go.lxor 61 rfl d7_60 ?_
          subst_vars
          exact Go.retJ d7_61 rfl (by decide) (by decide) ⟨rfl, rfl⟩
        · exact absurd b42 (show ¬ (((0 : Int32) + (1 : Int32)) + (1 : Int32)) < (2 : Int32) from by decide)
theorem ef7n1 (mid : MethodId) (a : Addr) : entryFrame mid (List.toArray [.ref a]) 4 = mkF mid 0 #[.val (.ref a), .unset, .unset, .unset] [] := by first | (simp [entryFrame, mkF, argsToLocals, Value.category]; done) | rfl
def Q7n1 (x0 : Int32) (h0 : Heap) (v : Option Value) (h : Heap) : Prop := v = some (.long (mixf (((-3750763034362895579 : Int64) ^^^ x0.toInt64) * (1099511628211 : Int64)))) ∧ h0 = h
set_option maxRecDepth 65536 in
set_option maxHeartbeats 40000000 in
theorem c7n1 (Z : State) (hw : Wd Z tables_1) (h0 : Heap) (a : Addr) (x0 : Int32) (cs : Int32) (hS : Sta Z Z.heap "java/lang/String" "COMPACT_STRINGS" "Z" (.int cs)) (hcs : ¬ cs = 0) (hAs : Sta Z Z.heap "java/lang/StringUTF16" "$assertionsDisabled" "Z" (.int 1)) (hHi : Sta Z Z.heap "java/lang/StringUTF16" "HI_BYTE_SHIFT" "I" (.int 0)) (hLo : Sta Z Z.heap "java/lang/StringUTF16" "LO_BYTE_SHIFT" "I" (.int 8)) (hfm : (Sta Z Z.heap "jdk/internal/util/Preconditions" "SIOOBE_FORMATTER" "Ljava/util/function/BiFunction;" .null) ∨ ∃ m, Sta Z Z.heap "jdk/internal/util/Preconditions" "SIOOBE_FORMATTER" "Ljava/util/function/BiFunction;" (.ref m)) (t : Addr) (hE : Exa Z h0 a "java/lang/String") (hV : Fld Z h0 a "java/lang/String" "value" "[B" (.ref t)) (hD : ((Fld Z h0 a "java/lang/String" "coder" "B" (.int 0) ∧ ¬ (255 : Int32) < x0 ∧ Ary Z h0 t .byte (IL [l1 x0])) ∨ (Fld Z h0 a "java/lang/String" "coder" "B" (.int 1) ∧ Ary Z h0 t .byte (IL [lo x0, hi x0])))) (hx0 : Ch x0) : Con Z B7 (List.toArray [.ref a]) h0 (Q7n1 x0 h0) := by
  refine Con.mk hw pn7 (fun mid => ef7n1 mid a) (Go.old fun hle' => ?_)
  have hle := hle'.1
  rcases hD with ⟨hC, lg0, hA⟩ | ⟨hC, hA⟩
  · refine Go.ldc2J 3 rfl (v := (-3750763034362895579 : Int64)) 37 d7_0 rfl ?_
    refine Go.lstoreN 4 rfl d7_3 (Ls' := #[.val (.ref a), .val (.long (-3750763034362895579 : Int64)), .second, .unset]) rfl ?_
    refine Go.iconst 5 rfl (0 : Int32) d7_4 rfl ?_
    refine Go.istoreN 6 rfl d7_5 (Ls' := #[.val (.ref a), .val (.long (-3750763034362895579 : Int64)), .second, .val (.int (0 : Int32))]) rfl ?_
    refine Go.iloadN 7 rfl d7_6 rfl ?_
    refine Go.aloadN 8 rfl d7_7 rfl rfl ?_
    refine Go.callV 11 rfl (C := B8) a [] (rest := [.int (0 : Int32)]) 38 39 41 40 2 42 (c8k0 Z hw h0 a (1 : Int32) cs hS hcs t (IL [l1 x0]) (1 : Int32) rfl (by decide) hE hV hC hA) hE d7_8 rfl rfl rfl rfl rfl rfl (by decide) pd8 rfl rfl rfl (W := 1) (Nat.le_of_ble_eq_true rfl) (by decide) (by decide) (by decide) (by decide) fun v1 h2 q3 => ?_
    obtain ⟨rfl, rfl⟩ := q3
    refine Go.icmp_ge 33 14 d7_11 (by decide) rfl rfl (fun (b4 : ¬ (0 : Int32) < (1 : Int32)) => ?_) (fun (b4 : (0 : Int32) < (1 : Int32)) => ?_)
    · exact absurd (show (0 : Int32) < (1 : Int32) from by decide) b4
    · refine Go.lloadN 15 rfl d7_14 rfl ?_
      refine Go.aloadN 16 rfl d7_15 rfl rfl ?_
      refine Go.iloadN 17 rfl d7_16 rfl ?_
      refine Go.callV 20 rfl (C := B11) a [.int (0 : Int32)] (rest := [.long (-3750763034362895579 : Int64)]) 56 57 59 58 2 60 (c11k0 Z hw h0 a (0 : Int32) x0 cs hS hcs hAs hHi hLo hfm t [l1 x0] 0 rfl (by decide) hE hV hA hx0 hC (Nat.le_of_ble_eq_true rfl) (Nat.le_of_ble_eq_true rfl) (own_gl hx0 lg0)) hE d7_17 rfl rfl rfl rfl rfl rfl (by decide) pd11 rfl rfl rfl (W := 2) (Nat.le_of_ble_eq_true rfl) (by decide) (by decide) (by decide) (by decide) fun v5 h6 q7 => ?_
      obtain ⟨rfl, rfl⟩ := q7
      refine Go.i2l 21 rfl d7_20 ?_
      refine Go.lxor 22 rfl d7_21 ?_
      refine Go.ldc2J 25 rfl (v := (1099511628211 : Int64)) 78 d7_22 rfl ?_
      refine Go.lmul 26 rfl d7_25 ?_
      refine Go.nameJ fun v8 hv8 => ?_
      refine Go.lstoreN 27 rfl d7_26 (Ls' := #[.val (.ref a), .val (.long v8), .second, .val (.int (0 : Int32))]) rfl ?_
      refine Go.iinc 30 rfl (1 : Int32) d7_27 rfl rfl (Ls' := #[.val (.ref a), .val (.long v8), .second, .val (.int ((0 : Int32) + (1 : Int32)))]) rfl ?_
      refine Go.goto 6 d7_30 (by decide) (by decide) ?_
      refine Go.iloadN 7 rfl d7_6 rfl ?_
      refine Go.aloadN 8 rfl d7_7 rfl rfl ?_
      refine Go.callV 11 rfl (C := B8) a [] (rest := [.int ((0 : Int32) + (1 : Int32))]) 38 39 41 40 2 42 (c8k0 Z hw h0 a (1 : Int32) cs hS hcs t (IL [l1 x0]) (1 : Int32) rfl (by decide) hE hV hC hA) hE d7_8 rfl rfl rfl rfl rfl rfl (by decide) pd8 rfl rfl rfl (W := 1) (Nat.le_of_ble_eq_true rfl) (by decide) (by decide) (by decide) (by decide) fun v9 h10 q11 => ?_
      obtain ⟨rfl, rfl⟩ := q11
      refine Go.icmp_ge 33 14 d7_11 (by decide) rfl rfl (fun (b12 : ¬ ((0 : Int32) + (1 : Int32)) < (1 : Int32)) => ?_) (fun (b12 : ((0 : Int32) + (1 : Int32)) < (1 : Int32)) => ?_)
      · refine Go.lloadN 34 rfl d7_33 rfl ?_
        refine Go.lloadN 35 rfl d7_34 rfl ?_
        refine Go.bipush 37 rfl (33 : Int32) d7_35 rfl ?_
        refine Go.lushr 38 rfl d7_37 ?_
        refine Go.lxor 39 rfl d7_38 ?_
        refine Go.ldc2J 42 rfl (v := (-49064778989728563 : Int64)) 48 d7_39 rfl ?_
        refine Go.lmul 43 rfl d7_42 ?_
        refine Go.nameJ fun v13 hv13 => ?_
        refine Go.lstoreN 44 rfl d7_43 (Ls' := #[.val (.ref a), .val (.long v13), .second, .val (.int ((0 : Int32) + (1 : Int32)))]) rfl ?_
        refine Go.lloadN 45 rfl d7_44 rfl ?_
        refine Go.lloadN 46 rfl d7_45 rfl ?_
        refine Go.bipush 48 rfl (33 : Int32) d7_46 rfl ?_
        refine Go.lushr 49 rfl d7_48 ?_
        refine Go.lxor 50 rfl d7_49 ?_
        refine Go.ldc2J 53 rfl (v := (-4265267296055464877 : Int64)) 49 d7_50 rfl ?_
        refine Go.lmul 54 rfl d7_53 ?_
        refine Go.nameJ fun v14 hv14 => ?_
        refine Go.lstoreN 55 rfl d7_54 (Ls' := #[.val (.ref a), .val (.long v14), .second, .val (.int ((0 : Int32) + (1 : Int32)))]) rfl ?_
        refine Go.lloadN 56 rfl d7_55 rfl ?_
        refine Go.lloadN 57 rfl d7_56 rfl ?_
        refine Go.bipush 59 rfl (33 : Int32) d7_57 rfl ?_
        refine Go.lushr 60 rfl d7_59 ?_
        refine Go.lxor 61 rfl d7_60 ?_
        subst_vars
        exact Go.retJ d7_61 rfl (by decide) (by decide) ⟨rfl, rfl⟩
      · exact absurd b12 (show ¬ ((0 : Int32) + (1 : Int32)) < (1 : Int32) from by decide)
  · refine Go.ldc2J 3 rfl (v := (-3750763034362895579 : Int64)) 37 d7_0 rfl ?_
    refine Go.lstoreN 4 rfl d7_3 (Ls' := #[.val (.ref a), .val (.long (-3750763034362895579 : Int64)), .second, .unset]) rfl ?_
    refine Go.iconst 5 rfl (0 : Int32) d7_4 rfl ?_
    refine Go.istoreN 6 rfl d7_5 (Ls' := #[.val (.ref a), .val (.long (-3750763034362895579 : Int64)), .second, .val (.int (0 : Int32))]) rfl ?_
    refine Go.iloadN 7 rfl d7_6 rfl ?_
    refine Go.aloadN 8 rfl d7_7 rfl rfl ?_
    refine Go.callV 11 rfl (C := B8) a [] (rest := [.int (0 : Int32)]) 38 39 41 40 2 42 (c8k1 Z hw h0 a (1 : Int32) cs hS hcs t (IL [lo x0, hi x0]) (2 : Int32) rfl (by decide) hE hV hC hA) hE d7_8 rfl rfl rfl rfl rfl rfl (by decide) pd8 rfl rfl rfl (W := 1) (Nat.le_of_ble_eq_true rfl) (by decide) (by decide) (by decide) (by decide) fun v15 h16 q17 => ?_
    obtain ⟨rfl, rfl⟩ := q17
    refine Go.icmp_ge 33 14 d7_11 (by decide) rfl rfl (fun (b18 : ¬ (0 : Int32) < (1 : Int32)) => ?_) (fun (b18 : (0 : Int32) < (1 : Int32)) => ?_)
    · exact absurd (show (0 : Int32) < (1 : Int32) from by decide) b18
    · refine Go.lloadN 15 rfl d7_14 rfl ?_
      refine Go.aloadN 16 rfl d7_15 rfl rfl ?_
      refine Go.iloadN 17 rfl d7_16 rfl ?_
      refine Go.callV 20 rfl (C := B11) a [.int (0 : Int32)] (rest := [.long (-3750763034362895579 : Int64)]) 56 57 59 58 2 60 (c11k1 Z hw h0 a (0 : Int32) x0 cs hS hcs hAs hHi hLo hfm t [lo x0, hi x0] 0 rfl (by decide) hE hV hA hx0 hC (2 : Int32) (1 : Int32) rfl (by decide) (by decide) (Nat.le_of_ble_eq_true rfl) (own_gc hx0)) hE d7_17 rfl rfl rfl rfl rfl rfl (by decide) pd11 rfl rfl rfl (W := 2) (Nat.le_of_ble_eq_true rfl) (by decide) (by decide) (by decide) (by decide) fun v19 h20 q21 => ?_
      obtain ⟨rfl, rfl⟩ := q21
      refine Go.i2l 21 rfl d7_20 ?_
      refine Go.lxor 22 rfl d7_21 ?_
      refine Go.ldc2J 25 rfl (v := (1099511628211 : Int64)) 78 d7_22 rfl ?_
      refine Go.lmul 26 rfl d7_25 ?_
      refine Go.nameJ fun v22 hv22 => ?_
      refine Go.lstoreN 27 rfl d7_26 (Ls' := #[.val (.ref a), .val (.long v22), .second, .val (.int (0 : Int32))]) rfl ?_
      refine Go.iinc 30 rfl (1 : Int32) d7_27 rfl rfl (Ls' := #[.val (.ref a), .val (.long v22), .second, .val (.int ((0 : Int32) + (1 : Int32)))]) rfl ?_
      refine Go.goto 6 d7_30 (by decide) (by decide) ?_
      refine Go.iloadN 7 rfl d7_6 rfl ?_
      refine Go.aloadN 8 rfl d7_7 rfl rfl ?_
      refine Go.callV 11 rfl (C := B8) a [] (rest := [.int ((0 : Int32) + (1 : Int32))]) 38 39 41 40 2 42 (c8k1 Z hw h0 a (1 : Int32) cs hS hcs t (IL [lo x0, hi x0]) (2 : Int32) rfl (by decide) hE hV hC hA) hE d7_8 rfl rfl rfl rfl rfl rfl (by decide) pd8 rfl rfl rfl (W := 1) (Nat.le_of_ble_eq_true rfl) (by decide) (by decide) (by decide) (by decide) fun v23 h24 q25 => ?_
      obtain ⟨rfl, rfl⟩ := q25
      refine Go.icmp_ge 33 14 d7_11 (by decide) rfl rfl (fun (b26 : ¬ ((0 : Int32) + (1 : Int32)) < (1 : Int32)) => ?_) (fun (b26 : ((0 : Int32) + (1 : Int32)) < (1 : Int32)) => ?_)
      · refine Go.lloadN 34 rfl d7_33 rfl ?_
        refine Go.lloadN 35 rfl d7_34 rfl ?_
        refine Go.bipush 37 rfl (33 : Int32) d7_35 rfl ?_
        refine Go.lushr 38 rfl d7_37 ?_
        refine Go.lxor 39 rfl d7_38 ?_
        refine Go.ldc2J 42 rfl (v := (-49064778989728563 : Int64)) 48 d7_39 rfl ?_
        refine Go.lmul 43 rfl d7_42 ?_
        refine Go.nameJ fun v27 hv27 => ?_
        refine Go.lstoreN 44 rfl d7_43 (Ls' := #[.val (.ref a), .val (.long v27), .second, .val (.int ((0 : Int32) + (1 : Int32)))]) rfl ?_
        refine Go.lloadN 45 rfl d7_44 rfl ?_
        refine Go.lloadN 46 rfl d7_45 rfl ?_
        refine Go.bipush 48 rfl (33 : Int32) d7_46 rfl ?_
        refine Go.lushr 49 rfl d7_48 ?_
        refine Go.lxor 50 rfl d7_49 ?_
        refine Go.ldc2J 53 rfl (v := (-4265267296055464877 : Int64)) 49 d7_50 rfl ?_
        refine Go.lmul 54 rfl d7_53 ?_
        refine Go.nameJ fun v28 hv28 => ?_
        refine Go.lstoreN 55 rfl d7_54 (Ls' := #[.val (.ref a), .val (.long v28), .second, .val (.int ((0 : Int32) + (1 : Int32)))]) rfl ?_
        refine Go.lloadN 56 rfl d7_55 rfl ?_
        refine Go.lloadN 57 rfl d7_56 rfl ?_
        refine Go.bipush 59 rfl (33 : Int32) d7_57 rfl ?_
        refine Go.lushr 60 rfl d7_59 ?_
        refine Go.lxor 61 rfl d7_60 ?_
        subst_vars
        exact Go.retJ d7_61 rfl (by decide) (by decide) ⟨rfl, rfl⟩
      · exact absurd b26 (show ¬ ((0 : Int32) + (1 : Int32)) < (1 : Int32) from by decide)
theorem ef7n0 (mid : MethodId) (a : Addr) : entryFrame mid (List.toArray [.ref a]) 4 = mkF mid 0 #[.val (.ref a), .unset, .unset, .unset] [] := by first | (simp [entryFrame, mkF, argsToLocals, Value.category]; done) | rfl
def Q7n0 (h0 : Heap) (v : Option Value) (h : Heap) : Prop := v = some (.long (mixf ((-3750763034362895579 : Int64)))) ∧ h0 = h
set_option maxRecDepth 65536 in
set_option maxHeartbeats 40000000 in
theorem c7n0 (Z : State) (hw : Wd Z tables_1) (h0 : Heap) (a : Addr)  (cs : Int32) (hS : Sta Z Z.heap "java/lang/String" "COMPACT_STRINGS" "Z" (.int cs)) (hcs : ¬ cs = 0) (hAs : Sta Z Z.heap "java/lang/StringUTF16" "$assertionsDisabled" "Z" (.int 1)) (hHi : Sta Z Z.heap "java/lang/StringUTF16" "HI_BYTE_SHIFT" "I" (.int 0)) (hLo : Sta Z Z.heap "java/lang/StringUTF16" "LO_BYTE_SHIFT" "I" (.int 8)) (hfm : (Sta Z Z.heap "jdk/internal/util/Preconditions" "SIOOBE_FORMATTER" "Ljava/util/function/BiFunction;" .null) ∨ ∃ m, Sta Z Z.heap "jdk/internal/util/Preconditions" "SIOOBE_FORMATTER" "Ljava/util/function/BiFunction;" (.ref m)) (t : Addr) (hE : Exa Z h0 a "java/lang/String") (hV : Fld Z h0 a "java/lang/String" "value" "[B" (.ref t)) (hC : Fld Z h0 a "java/lang/String" "coder" "B" (.int 0)) (hA : Ary Z h0 t .byte (IL [])) : Con Z B7 (List.toArray [.ref a]) h0 (Q7n0 h0) := by
  refine Con.mk hw pn7 (fun mid => ef7n0 mid a) (Go.old fun hle' => ?_)
  have hle := hle'.1
  refine Go.ldc2J 3 rfl (v := (-3750763034362895579 : Int64)) 37 d7_0 rfl ?_
  refine Go.lstoreN 4 rfl d7_3 (Ls' := #[.val (.ref a), .val (.long (-3750763034362895579 : Int64)), .second, .unset]) rfl ?_
  refine Go.iconst 5 rfl (0 : Int32) d7_4 rfl ?_
  refine Go.istoreN 6 rfl d7_5 (Ls' := #[.val (.ref a), .val (.long (-3750763034362895579 : Int64)), .second, .val (.int (0 : Int32))]) rfl ?_
  refine Go.iloadN 7 rfl d7_6 rfl ?_
  refine Go.aloadN 8 rfl d7_7 rfl rfl ?_
  refine Go.callV 11 rfl (C := B8) a [] (rest := [.int (0 : Int32)]) 38 39 41 40 2 42 (c8k0 Z hw h0 a (0 : Int32) cs hS hcs t (IL []) (0 : Int32) rfl (by decide) hE hV hC hA) hE d7_8 rfl rfl rfl rfl rfl rfl (by decide) pd8 rfl rfl rfl (W := 1) (Nat.le_of_ble_eq_true rfl) (by decide) (by decide) (by decide) (by decide) fun v1 h2 q3 => ?_
  obtain ⟨rfl, rfl⟩ := q3
  refine Go.icmp_ge 33 14 d7_11 (by decide) rfl rfl (fun (b4 : ¬ (0 : Int32) < (0 : Int32)) => ?_) (fun (b4 : (0 : Int32) < (0 : Int32)) => ?_)
  · refine Go.lloadN 34 rfl d7_33 rfl ?_
    refine Go.lloadN 35 rfl d7_34 rfl ?_
    refine Go.bipush 37 rfl (33 : Int32) d7_35 rfl ?_
    refine Go.lushr 38 rfl d7_37 ?_
    refine Go.lxor 39 rfl d7_38 ?_
    refine Go.ldc2J 42 rfl (v := (-49064778989728563 : Int64)) 48 d7_39 rfl ?_
    refine Go.lmul 43 rfl d7_42 ?_
    refine Go.nameJ fun v5 hv5 => ?_
    refine Go.lstoreN 44 rfl d7_43 (Ls' := #[.val (.ref a), .val (.long v5), .second, .val (.int (0 : Int32))]) rfl ?_
    refine Go.lloadN 45 rfl d7_44 rfl ?_
    refine Go.lloadN 46 rfl d7_45 rfl ?_
    refine Go.bipush 48 rfl (33 : Int32) d7_46 rfl ?_
    refine Go.lushr 49 rfl d7_48 ?_
    refine Go.lxor 50 rfl d7_49 ?_
    refine Go.ldc2J 53 rfl (v := (-4265267296055464877 : Int64)) 49 d7_50 rfl ?_
    refine Go.lmul 54 rfl d7_53 ?_
    refine Go.nameJ fun v6 hv6 => ?_
    refine Go.lstoreN 55 rfl d7_54 (Ls' := #[.val (.ref a), .val (.long v6), .second, .val (.int (0 : Int32))]) rfl ?_
    refine Go.lloadN 56 rfl d7_55 rfl ?_
    refine Go.lloadN 57 rfl d7_56 rfl ?_
    refine Go.bipush 59 rfl (33 : Int32) d7_57 rfl ?_
    refine Go.lushr 60 rfl d7_59 ?_
    refine Go.lxor 61 rfl d7_60 ?_
    subst_vars
    exact Go.retJ d7_61 rfl (by decide) (by decide) ⟨rfl, rfl⟩
  · exact absurd b4 (show ¬ (0 : Int32) < (0 : Int32) from by decide)
theorem d10_0 : decode method_2_code 0 = .ok (.lload_n 0, 1) := by decide +kernel
theorem d10_1 : decode method_2_code 1 = .ok (.lload_n 0, 1) := by decide +kernel
theorem d10_2 : decode method_2_code 2 = .ok (.bipush 33, 2) := by decide +kernel
theorem d10_4 : decode method_2_code 4 = .ok (.lushr, 1) := by decide +kernel
theorem d10_5 : decode method_2_code 5 = .ok (.lxor, 1) := by decide +kernel
theorem d10_6 : decode method_2_code 6 = .ok (.lstore_n 0, 1) := by decide +kernel
theorem d10_7 : decode method_2_code 7 = .ok (.lload_n 0, 1) := by decide +kernel
theorem d10_8 : decode method_2_code 8 = .ok (.ldc2_w 7, 3) := by decide +kernel
theorem d10_11 : decode method_2_code 11 = .ok (.lmul, 1) := by decide +kernel
theorem d10_12 : decode method_2_code 12 = .ok (.lstore_n 0, 1) := by decide +kernel
theorem d10_13 : decode method_2_code 13 = .ok (.lload_n 0, 1) := by decide +kernel
theorem d10_14 : decode method_2_code 14 = .ok (.lload_n 0, 1) := by decide +kernel
theorem d10_15 : decode method_2_code 15 = .ok (.bipush 33, 2) := by decide +kernel
theorem d10_17 : decode method_2_code 17 = .ok (.lushr, 1) := by decide +kernel
theorem d10_18 : decode method_2_code 18 = .ok (.lxor, 1) := by decide +kernel
theorem d10_19 : decode method_2_code 19 = .ok (.lstore_n 0, 1) := by decide +kernel
theorem d10_20 : decode method_2_code 20 = .ok (.lload_n 0, 1) := by decide +kernel
theorem d10_21 : decode method_2_code 21 = .ok (.ldc2_w 9, 3) := by decide +kernel
theorem d10_24 : decode method_2_code 24 = .ok (.lmul, 1) := by decide +kernel
theorem d10_25 : decode method_2_code 25 = .ok (.lstore_n 0, 1) := by decide +kernel
theorem d10_26 : decode method_2_code 26 = .ok (.lload_n 0, 1) := by decide +kernel
theorem d10_27 : decode method_2_code 27 = .ok (.lload_n 0, 1) := by decide +kernel
theorem d10_28 : decode method_2_code 28 = .ok (.bipush 33, 2) := by decide +kernel
theorem d10_30 : decode method_2_code 30 = .ok (.lushr, 1) := by decide +kernel
theorem d10_31 : decode method_2_code 31 = .ok (.lxor, 1) := by decide +kernel
theorem d10_32 : decode method_2_code 32 = .ok (.lstore_n 0, 1) := by decide +kernel
theorem d10_33 : decode method_2_code 33 = .ok (.lload_n 0, 1) := by decide +kernel
theorem d10_34 : decode method_2_code 34 = .ok (.lreturn, 1) := by decide +kernel
theorem pd10 : parseMethodDescriptor "(J)J" = some ⟨[.long], some .long⟩ := by decide +kernel
theorem pn10 : plainFor (⟨"com/example/concordat/concordat/identity/TextHashPinLaw", "unmix", "(J)J"⟩ : MethodName) = true := by first | (refine plainFor_of_name ?_; simp [plainName, overriddenIn]; done) | (refine plainFor_of_name ?_; decide +kernel) | decide +kernel
abbrev B10 : Bd := ((⟨"com/example/concordat/concordat/identity/TextHashPinLaw", "unmix", "(J)J"⟩ : MethodName), method_2_code, 2, (some .long), ({ frames := 0, cells := 0, slots := 0, locals := 0 } : Room), tables_1)
theorem ef10 (mid : MethodId) (k : Int64) : entryFrame mid (List.toArray [.long k]) 2 = mkF mid 0 #[.val (.long k), .second] [] := by first | (simp [entryFrame, mkF, argsToLocals, Value.category]; done) | rfl
def Q10 (k : Int64) (h0 : Heap) (v : Option Value) (h : Heap) : Prop := v = some (.long (unm k)) ∧ h0 = h
set_option maxRecDepth 65536 in
set_option maxHeartbeats 40000000 in
theorem c10 (Z : State) (hw : Wd Z tables_1) (h0 : Heap) (k : Int64)   : Con Z B10 (List.toArray [.long k]) h0 (Q10 k h0) := by
  refine Con.mk hw pn10 (fun mid => ef10 mid k) (Go.old fun hle' => ?_)
  have hle := hle'.1
  refine Go.lloadN 1 rfl d10_0 rfl ?_
  refine Go.lloadN 2 rfl d10_1 rfl ?_
  refine Go.bipush 4 rfl (33 : Int32) d10_2 rfl ?_
  refine Go.lushr 5 rfl d10_4 ?_
  refine Go.lxor 6 rfl d10_5 ?_
  refine Go.nameJ fun v1 hv1 => ?_
  refine Go.lstoreN 7 rfl d10_6 (Ls' := #[.val (.long v1), .second]) rfl ?_
  refine Go.lloadN 8 rfl d10_7 rfl ?_
  refine Go.ldc2J 11 rfl (v := (-7154897129451604005 : Int64)) 54 d10_8 rfl ?_
  refine Go.lmul 12 rfl d10_11 ?_
  refine Go.nameJ fun v2 hv2 => ?_
  refine Go.lstoreN 13 rfl d10_12 (Ls' := #[.val (.long v2), .second]) rfl ?_
  refine Go.lloadN 14 rfl d10_13 rfl ?_
  refine Go.lloadN 15 rfl d10_14 rfl ?_
  refine Go.bipush 17 rfl (33 : Int32) d10_15 rfl ?_
  refine Go.lushr 18 rfl d10_17 ?_
  refine Go.lxor 19 rfl d10_18 ?_
  refine Go.nameJ fun v3 hv3 => ?_
  refine Go.lstoreN 20 rfl d10_19 (Ls' := #[.val (.long v3), .second]) rfl ?_
  refine Go.lloadN 21 rfl d10_20 rfl ?_
  refine Go.ldc2J 24 rfl (v := (5725274745694666757 : Int64)) 55 d10_21 rfl ?_
  refine Go.lmul 25 rfl d10_24 ?_
  refine Go.nameJ fun v4 hv4 => ?_
  refine Go.lstoreN 26 rfl d10_25 (Ls' := #[.val (.long v4), .second]) rfl ?_
  refine Go.lloadN 27 rfl d10_26 rfl ?_
  refine Go.lloadN 28 rfl d10_27 rfl ?_
  refine Go.bipush 30 rfl (33 : Int32) d10_28 rfl ?_
  refine Go.lushr 31 rfl d10_30 ?_
  refine Go.lxor 32 rfl d10_31 ?_
  refine Go.nameJ fun v5 hv5 => ?_
  refine Go.lstoreN 33 rfl d10_32 (Ls' := #[.val (.long v5), .second]) rfl ?_
  refine Go.lloadN 34 rfl d10_33 rfl ?_
  subst_vars
  exact Go.retJ d10_34 rfl (by decide) (by decide) ⟨rfl, rfl⟩
theorem pn0 : plainFor (⟨"com/example/concordat/concordat/identity/TextHashPinLaw", "law", "(IIII)Z"⟩ : MethodName) = true := by first | (refine plainFor_of_name ?_; simp [plainName, overriddenIn]; done) | (refine plainFor_of_name ?_; decide +kernel) | decide +kernel
abbrev B0 : Bd := (x, code, maxLocals, ret, room_1, tables_1)
theorem ef0 (mid : MethodId) (p0 : Int32) (p1 : Int32) (p2 : Int32) (p3 : Int32) : entryFrame mid (List.toArray [.int p0, .int p1, .int p2, .int p3]) maxLocals = mkF mid 0 #[.val (.int p0), .val (.int p1), .val (.int p2), .val (.int p3), .unset, .unset, .unset, .unset, .unset, .unset, .unset, .unset, .unset, .unset, .unset, .unset, .unset, .unset, .unset, .unset, .unset, .unset, .unset, .unset, .unset, .unset, .unset, .unset] [] := by first | (simp [entryFrame, mkF, argsToLocals, Value.category, maxLocals]; done) | rfl
def Q0  (v : Option Value) (h : Heap) : Prop := v = some (.int 1)
set_option maxRecDepth 65536 in
set_option maxHeartbeats 40000000 in
theorem c0 (Z : State) (hw : Wd Z tables_1) (h0 : Heap) (p0 : Int32) (p1 : Int32) (p2 : Int32) (p3 : Int32)  (cs : Int32) (hS : Sta Z Z.heap "java/lang/String" "COMPACT_STRINGS" "Z" (.int cs)) (hcs : ¬ cs = 0) (hAs : Sta Z Z.heap "java/lang/StringUTF16" "$assertionsDisabled" "Z" (.int 1)) (hHi : Sta Z Z.heap "java/lang/StringUTF16" "HI_BYTE_SHIFT" "I" (.int 0)) (hLo : Sta Z Z.heap "java/lang/StringUTF16" "LO_BYTE_SHIFT" "I" (.int 8)) (hfm : (Sta Z Z.heap "jdk/internal/util/Preconditions" "SIOOBE_FORMATTER" "Ljava/util/function/BiFunction;" .null) ∨ ∃ m, Sta Z Z.heap "jdk/internal/util/Preconditions" "SIOOBE_FORMATTER" "Ljava/util/function/BiFunction;" (.ref m)) (hh : Jvm.Lit.constHeld Z "java/lang/String" 7) (hcw : ∀ a0, Jvm.Lit.compactW.before a0 Z = true) : ConV Z B0 (List.toArray [.int p0, .int p1, .int p2, .int p3]) h0 (Q0 ) := by
  refine ConV.mk hw pn0 (fun mid => ef0 mid p0 p1 p2 p3) (fun hE0 => Go.old fun hle' => ?_)
  have hle := hle'.1
  refine Go.iloadN 1 rfl at_0 rfl ?_
  refine Go.i2c 2 rfl at_1 ?_
  refine Go.nameI fun v1 hv1 => ?_
  refine Go.istore 4 rfl at_2 (Ls' := #[.val (.int p0), .val (.int p1), .val (.int p2), .val (.int p3), .val (.int v1), .unset, .unset, .unset, .unset, .unset, .unset, .unset, .unset, .unset, .unset, .unset, .unset, .unset, .unset, .unset, .unset, .unset, .unset, .unset, .unset, .unset, .unset, .unset]) rfl ?_
  refine Go.iloadN 5 rfl at_4 rfl ?_
  refine Go.i2c 6 rfl at_5 ?_
  refine Go.nameI fun v2 hv2 => ?_
  refine Go.istore 8 rfl at_6 (Ls' := #[.val (.int p0), .val (.int p1), .val (.int p2), .val (.int p3), .val (.int v1), .val (.int v2), .unset, .unset, .unset, .unset, .unset, .unset, .unset, .unset, .unset, .unset, .unset, .unset, .unset, .unset, .unset, .unset, .unset, .unset, .unset, .unset, .unset, .unset]) rfl ?_
  refine Go.iloadN 9 rfl at_8 rfl ?_
  refine Go.i2c 10 rfl at_9 ?_
  refine Go.nameI fun v3 hv3 => ?_
  refine Go.istore 12 rfl at_10 (Ls' := #[.val (.int p0), .val (.int p1), .val (.int p2), .val (.int p3), .val (.int v1), .val (.int v2), .val (.int v3), .unset, .unset, .unset, .unset, .unset, .unset, .unset, .unset, .unset, .unset, .unset, .unset, .unset, .unset, .unset, .unset, .unset, .unset, .unset, .unset, .unset]) rfl ?_
  refine Go.iloadN 13 rfl at_12 rfl ?_
  refine Go.i2c 14 rfl at_13 ?_
  refine Go.nameI fun v4 hv4 => ?_
  refine Go.istore 16 rfl at_14 (Ls' := #[.val (.int p0), .val (.int p1), .val (.int p2), .val (.int p3), .val (.int v1), .val (.int v2), .val (.int v3), .val (.int v4), .unset, .unset, .unset, .unset, .unset, .unset, .unset, .unset, .unset, .unset, .unset, .unset, .unset, .unset, .unset, .unset, .unset, .unset, .unset, .unset]) rfl ?_
  have hx0 := own_ch hv1
  have hx1 := own_ch hv2
  have hx2 := own_ch hv3
  have hx3 := own_ch hv4
  refine Go.newO 19 rfl 0 1 2 at_16 rfl rfl rfl (by decide) (by decide) fun h6 a5 g7 z8 K9 E10 D11 => ?_
  refine Go.dup 20 rfl at_19 rfl ?_
  refine Go.iconst 21 rfl (0 : Int32) at_20 rfl ?_
  refine Go.newA 23 rfl 3 0 0 at_21 rfl rfl (by decide) (by decide) (by decide) (by decide) fun h13 a12 g14 z15 K16 A17 E18 => ?_
  have A19 : Ary Z h13 a12 .char [] := A17
  have F20 : Exa Z h13 a5 "java/lang/String" := (E10.keep K16)
  have F21 : Fld Z h13 a5 "java/lang/String" "value" "[B" (.null) := ((D11 16 (Or.inr rfl) (ty := (.array .byte)) (by decide) : Fld Z h6 a5 "java/lang/String" "value" "[B" (.null)).keep K16 nin0)
  have F22 : Fld Z h13 a5 "java/lang/String" "coder" "B" (.int (0 : Int32)) := ((D11 17 (Or.inr rfl) (ty := .byte) (by decide) : Fld Z h6 a5 "java/lang/String" "coder" "B" (.int (0 : Int32))).keep K16 nin0)
  refine Go.callIV 26 rfl (C := B1) a5 [.ref a12] (rest := [.ref a5]) 4 5 2 6 (c1z Z hw h13 a5 a12 hh hcw z8 F20 F21 F22 A19) at_23 rfl rfl rfl rfl rfl rfl (by decide) pd1 rfl rfl rfl (W := 1) (Nat.le_of_ble_eq_true rfl) (by decide) (by decide) (by decide) (by decide) fun v23 h24 q25 => ?_
  obtain ⟨rfl, t26, K27, F28, G29, A30⟩ := q25
  refine Go.astore 28 rfl at_26 rfl (Ls' := #[.val (.int p0), .val (.int p1), .val (.int p2), .val (.int p3), .val (.int v1), .val (.int v2), .val (.int v3), .val (.int v4), .val (.ref a5), .unset, .unset, .unset, .unset, .unset, .unset, .unset, .unset, .unset, .unset, .unset, .unset, .unset, .unset, .unset, .unset, .unset, .unset, .unset]) rfl ?_
  refine Go.newO 31 rfl 0 1 2 at_28 rfl rfl rfl (by decide) (by decide) fun h32 a31 g33 z34 K35 E36 D37 => ?_
  refine Go.dup 32 rfl at_31 rfl ?_
  refine Go.iconst 33 rfl (1 : Int32) at_32 rfl ?_
  refine Go.newA 35 rfl 3 1 1 at_33 rfl rfl (by decide) (by decide) (by decide) (by decide) fun h39 a38 g40 z41 K42 A43 E44 => ?_
  have A45 : Ary Z h39 a38 .char [.int 0] := A43
  refine Go.dup 36 rfl at_35 rfl ?_
  refine Go.iconst 37 rfl (0 : Int32) at_36 rfl ?_
  refine Go.iload 39 rfl at_37 rfl ?_
  refine Go.stC 40 rfl at_39 A45 0 rfl (Nat.le_of_ble_eq_true rfl) z41 fun h46 K47 A48 => ?_
  have A49 : Ary Z h46 a38 .char [.int (nar .char v1)] := A48
  have A50 : Ary Z h46 a38 .char [.int v1] := by have q := A49; simpa only [own_nc hx0] using q
  have F51 : Exa Z h46 a31 "java/lang/String" := ((E36.keep K42).keep K47)
  have ne52 : a31 ≠ a38 := (show @Ne Nat a31 a38 from by have := ltN E36.lt; have := g40; omega)
  have F53 : Fld Z h46 a31 "java/lang/String" "value" "[B" (.null) := (((D37 16 (Or.inr rfl) (ty := (.array .byte)) (by decide) : Fld Z h32 a31 "java/lang/String" "value" "[B" (.null)).keep K42 nin0).keep K47 (ninS ne52 nin0))
  have F54 : Fld Z h46 a31 "java/lang/String" "coder" "B" (.int (0 : Int32)) := (((D37 17 (Or.inr rfl) (ty := .byte) (by decide) : Fld Z h32 a31 "java/lang/String" "coder" "B" (.int (0 : Int32))).keep K42 nin0).keep K47 (ninS ne52 nin0))
  refine Go.callI 43 rfl (C := B1) a31 [.ref a38] (rest := [.ref a31]) 4 5 2 6 (c1n1 Z hw h46 a31 a38 v1 cs hS hcs hAs hHi hLo z34 F51 F53 F54 A50 hx0) at_40 rfl rfl rfl rfl rfl rfl (by decide) pd1 rfl rfl rfl (W := 1) (Nat.le_of_ble_eq_true rfl) (by decide) (by decide) (by decide) (by decide) fun v55 h56 q57 => ?_
  obtain ⟨rfl, t58, g59, K60, F61, D62⟩ := q57
  have z63 : Z.heap.size ≤ t58 := Nat.le_trans (Nat.le_trans (Nat.le_trans (Nat.le_trans (Nat.le_trans (Nat.le_trans (Nat.le_trans hle K9.1) K16.1) K27.1) K35.1) K42.1) K47.1) g59
  refine Go.astore 45 rfl at_43 rfl (Ls' := #[.val (.int p0), .val (.int p1), .val (.int p2), .val (.int p3), .val (.int v1), .val (.int v2), .val (.int v3), .val (.int v4), .val (.ref a5), .val (.ref a31), .unset, .unset, .unset, .unset, .unset, .unset, .unset, .unset, .unset, .unset, .unset, .unset, .unset, .unset, .unset, .unset, .unset, .unset]) rfl ?_
  refine Go.newO 48 rfl 0 1 2 at_45 rfl rfl rfl (by decide) (by decide) fun h65 a64 g66 z67 K68 E69 D70 => ?_
  refine Go.dup 49 rfl at_48 rfl ?_
  refine Go.iconst 50 rfl (2 : Int32) at_49 rfl ?_
  refine Go.newA 52 rfl 3 2 2 at_50 rfl rfl (by decide) (by decide) (by decide) (by decide) fun h72 a71 g73 z74 K75 A76 E77 => ?_
  have A78 : Ary Z h72 a71 .char [.int 0, .int 0] := A76
  refine Go.dup 53 rfl at_52 rfl ?_
  refine Go.iconst 54 rfl (0 : Int32) at_53 rfl ?_
  refine Go.iload 56 rfl at_54 rfl ?_
  refine Go.stC 57 rfl at_56 A78 0 rfl (Nat.le_of_ble_eq_true rfl) z74 fun h79 K80 A81 => ?_
  have A82 : Ary Z h79 a71 .char [.int (nar .char v1), .int 0] := A81
  refine Go.dup 58 rfl at_57 rfl ?_
  refine Go.iconst 59 rfl (1 : Int32) at_58 rfl ?_
  refine Go.iload 61 rfl at_59 rfl ?_
  refine Go.stC 62 rfl at_61 A82 1 rfl (Nat.le_of_ble_eq_true rfl) z74 fun h83 K84 A85 => ?_
  have A86 : Ary Z h83 a71 .char [.int (nar .char v1), .int (nar .char v2)] := A85
  have A87 : Ary Z h83 a71 .char [.int v1, .int v2] := by have q := A86; simpa only [own_nc hx0, own_nc hx1] using q
  have F88 : Exa Z h83 a64 "java/lang/String" := (((E69.keep K75).keep K80).keep K84)
  have ne89 : a64 ≠ a71 := (show @Ne Nat a64 a71 from by have := ltN E69.lt; have := g73; omega)
  have F90 : Fld Z h83 a64 "java/lang/String" "value" "[B" (.null) := ((((D70 16 (Or.inr rfl) (ty := (.array .byte)) (by decide) : Fld Z h65 a64 "java/lang/String" "value" "[B" (.null)).keep K75 nin0).keep K80 (ninS ne89 nin0)).keep K84 (ninS ne89 nin0))
  have F91 : Fld Z h83 a64 "java/lang/String" "coder" "B" (.int (0 : Int32)) := ((((D70 17 (Or.inr rfl) (ty := .byte) (by decide) : Fld Z h65 a64 "java/lang/String" "coder" "B" (.int (0 : Int32))).keep K75 nin0).keep K80 (ninS ne89 nin0)).keep K84 (ninS ne89 nin0))
  refine Go.callI 65 rfl (C := B1) a64 [.ref a71] (rest := [.ref a64]) 4 5 2 6 (c1n2 Z hw h83 a64 a71 v1 v2 cs hS hcs hAs hHi hLo z67 F88 F90 F91 A87 hx0 hx1) at_62 rfl rfl rfl rfl rfl rfl (by decide) pd1 rfl rfl rfl (W := 1) (Nat.le_of_ble_eq_true rfl) (by decide) (by decide) (by decide) (by decide) fun v92 h93 q94 => ?_
  obtain ⟨rfl, t95, g96, K97, F98, D99⟩ := q94
  have z100 : Z.heap.size ≤ t95 := Nat.le_trans (Nat.le_trans (Nat.le_trans (Nat.le_trans (Nat.le_trans (Nat.le_trans (Nat.le_trans (Nat.le_trans (Nat.le_trans (Nat.le_trans (Nat.le_trans (Nat.le_trans hle K9.1) K16.1) K27.1) K35.1) K42.1) K47.1) K60.1) K68.1) K75.1) K80.1) K84.1) g96
  refine Go.astore 67 rfl at_65 rfl (Ls' := #[.val (.int p0), .val (.int p1), .val (.int p2), .val (.int p3), .val (.int v1), .val (.int v2), .val (.int v3), .val (.int v4), .val (.ref a5), .val (.ref a31), .val (.ref a64), .unset, .unset, .unset, .unset, .unset, .unset, .unset, .unset, .unset, .unset, .unset, .unset, .unset, .unset, .unset, .unset, .unset]) rfl ?_
  refine Go.newO 70 rfl 0 1 2 at_67 rfl rfl rfl (by decide) (by decide) fun h102 a101 g103 z104 K105 E106 D107 => ?_
  refine Go.dup 71 rfl at_70 rfl ?_
  refine Go.iconst 72 rfl (3 : Int32) at_71 rfl ?_
  refine Go.newA 74 rfl 3 3 3 at_72 rfl rfl (by decide) (by decide) (by decide) (by decide) fun h109 a108 g110 z111 K112 A113 E114 => ?_
  have A115 : Ary Z h109 a108 .char [.int 0, .int 0, .int 0] := A113
  refine Go.dup 75 rfl at_74 rfl ?_
  refine Go.iconst 76 rfl (0 : Int32) at_75 rfl ?_
  refine Go.iload 78 rfl at_76 rfl ?_
  refine Go.stC 79 rfl at_78 A115 0 rfl (Nat.le_of_ble_eq_true rfl) z111 fun h116 K117 A118 => ?_
  have A119 : Ary Z h116 a108 .char [.int (nar .char v1), .int 0, .int 0] := A118
  refine Go.dup 80 rfl at_79 rfl ?_
  refine Go.iconst 81 rfl (1 : Int32) at_80 rfl ?_
  refine Go.iload 83 rfl at_81 rfl ?_
  refine Go.stC 84 rfl at_83 A119 1 rfl (Nat.le_of_ble_eq_true rfl) z111 fun h120 K121 A122 => ?_
  have A123 : Ary Z h120 a108 .char [.int (nar .char v1), .int (nar .char v2), .int 0] := A122
  refine Go.dup 85 rfl at_84 rfl ?_
  refine Go.iconst 86 rfl (2 : Int32) at_85 rfl ?_
  refine Go.iload 88 rfl at_86 rfl ?_
  refine Go.stC 89 rfl at_88 A123 2 rfl (Nat.le_of_ble_eq_true rfl) z111 fun h124 K125 A126 => ?_
  have A127 : Ary Z h124 a108 .char [.int (nar .char v1), .int (nar .char v2), .int (nar .char v3)] := A126
  have A128 : Ary Z h124 a108 .char [.int v1, .int v2, .int v3] := by have q := A127; simpa only [own_nc hx0, own_nc hx1, own_nc hx2] using q
  have F129 : Exa Z h124 a101 "java/lang/String" := ((((E106.keep K112).keep K117).keep K121).keep K125)
  have ne130 : a101 ≠ a108 := (show @Ne Nat a101 a108 from by have := ltN E106.lt; have := g110; omega)
  have F131 : Fld Z h124 a101 "java/lang/String" "value" "[B" (.null) := (((((D107 16 (Or.inr rfl) (ty := (.array .byte)) (by decide) : Fld Z h102 a101 "java/lang/String" "value" "[B" (.null)).keep K112 nin0).keep K117 (ninS ne130 nin0)).keep K121 (ninS ne130 nin0)).keep K125 (ninS ne130 nin0))
  have F132 : Fld Z h124 a101 "java/lang/String" "coder" "B" (.int (0 : Int32)) := (((((D107 17 (Or.inr rfl) (ty := .byte) (by decide) : Fld Z h102 a101 "java/lang/String" "coder" "B" (.int (0 : Int32))).keep K112 nin0).keep K117 (ninS ne130 nin0)).keep K121 (ninS ne130 nin0)).keep K125 (ninS ne130 nin0))
  refine Go.callI 92 rfl (C := B1) a101 [.ref a108] (rest := [.ref a101]) 4 5 2 6 (c1n3 Z hw h124 a101 a108 v1 v2 v3 cs hS hcs hAs hHi hLo z104 F129 F131 F132 A128 hx0 hx1 hx2) at_89 rfl rfl rfl rfl rfl rfl (by decide) pd1 rfl rfl rfl (W := 1) (Nat.le_of_ble_eq_true rfl) (by decide) (by decide) (by decide) (by decide) fun v133 h134 q135 => ?_
  obtain ⟨rfl, t136, g137, K138, F139, D140⟩ := q135
  have z141 : Z.heap.size ≤ t136 := Nat.le_trans (Nat.le_trans (Nat.le_trans (Nat.le_trans (Nat.le_trans (Nat.le_trans (Nat.le_trans (Nat.le_trans (Nat.le_trans (Nat.le_trans (Nat.le_trans (Nat.le_trans (Nat.le_trans (Nat.le_trans (Nat.le_trans (Nat.le_trans (Nat.le_trans (Nat.le_trans hle K9.1) K16.1) K27.1) K35.1) K42.1) K47.1) K60.1) K68.1) K75.1) K80.1) K84.1) K97.1) K105.1) K112.1) K117.1) K121.1) K125.1) g137
  refine Go.astore 94 rfl at_92 rfl (Ls' := #[.val (.int p0), .val (.int p1), .val (.int p2), .val (.int p3), .val (.int v1), .val (.int v2), .val (.int v3), .val (.int v4), .val (.ref a5), .val (.ref a31), .val (.ref a64), .val (.ref a101), .unset, .unset, .unset, .unset, .unset, .unset, .unset, .unset, .unset, .unset, .unset, .unset, .unset, .unset, .unset, .unset]) rfl ?_
  refine Go.newO 97 rfl 0 1 2 at_94 rfl rfl rfl (by decide) (by decide) fun h143 a142 g144 z145 K146 E147 D148 => ?_
  refine Go.dup 98 rfl at_97 rfl ?_
  refine Go.iconst 99 rfl (4 : Int32) at_98 rfl ?_
  refine Go.newA 101 rfl 3 4 4 at_99 rfl rfl (by decide) (by decide) (by decide) (by decide) fun h150 a149 g151 z152 K153 A154 E155 => ?_
  have A156 : Ary Z h150 a149 .char [.int 0, .int 0, .int 0, .int 0] := A154
  refine Go.dup 102 rfl at_101 rfl ?_
  refine Go.iconst 103 rfl (0 : Int32) at_102 rfl ?_
  refine Go.iload 105 rfl at_103 rfl ?_
  refine Go.stC 106 rfl at_105 A156 0 rfl (Nat.le_of_ble_eq_true rfl) z152 fun h157 K158 A159 => ?_
  have A160 : Ary Z h157 a149 .char [.int (nar .char v1), .int 0, .int 0, .int 0] := A159
  refine Go.dup 107 rfl at_106 rfl ?_
  refine Go.iconst 108 rfl (1 : Int32) at_107 rfl ?_
  refine Go.iload 110 rfl at_108 rfl ?_
  refine Go.stC 111 rfl at_110 A160 1 rfl (Nat.le_of_ble_eq_true rfl) z152 fun h161 K162 A163 => ?_
  have A164 : Ary Z h161 a149 .char [.int (nar .char v1), .int (nar .char v2), .int 0, .int 0] := A163
  refine Go.dup 112 rfl at_111 rfl ?_
  refine Go.iconst 113 rfl (2 : Int32) at_112 rfl ?_
  refine Go.iload 115 rfl at_113 rfl ?_
  refine Go.stC 116 rfl at_115 A164 2 rfl (Nat.le_of_ble_eq_true rfl) z152 fun h165 K166 A167 => ?_
  have A168 : Ary Z h165 a149 .char [.int (nar .char v1), .int (nar .char v2), .int (nar .char v3), .int 0] := A167
  refine Go.dup 117 rfl at_116 rfl ?_
  refine Go.iconst 118 rfl (3 : Int32) at_117 rfl ?_
  refine Go.iload 120 rfl at_118 rfl ?_
  refine Go.stC 121 rfl at_120 A168 3 rfl (Nat.le_of_ble_eq_true rfl) z152 fun h169 K170 A171 => ?_
  have A172 : Ary Z h169 a149 .char [.int (nar .char v1), .int (nar .char v2), .int (nar .char v3), .int (nar .char v4)] := A171
  have A173 : Ary Z h169 a149 .char [.int v1, .int v2, .int v3, .int v4] := by have q := A172; simpa only [own_nc hx0, own_nc hx1, own_nc hx2, own_nc hx3] using q
  have F174 : Exa Z h169 a142 "java/lang/String" := (((((E147.keep K153).keep K158).keep K162).keep K166).keep K170)
  have ne175 : a142 ≠ a149 := (show @Ne Nat a142 a149 from by have := ltN E147.lt; have := g151; omega)
  have F176 : Fld Z h169 a142 "java/lang/String" "value" "[B" (.null) := ((((((D148 16 (Or.inr rfl) (ty := (.array .byte)) (by decide) : Fld Z h143 a142 "java/lang/String" "value" "[B" (.null)).keep K153 nin0).keep K158 (ninS ne175 nin0)).keep K162 (ninS ne175 nin0)).keep K166 (ninS ne175 nin0)).keep K170 (ninS ne175 nin0))
  have F177 : Fld Z h169 a142 "java/lang/String" "coder" "B" (.int (0 : Int32)) := ((((((D148 17 (Or.inr rfl) (ty := .byte) (by decide) : Fld Z h143 a142 "java/lang/String" "coder" "B" (.int (0 : Int32))).keep K153 nin0).keep K158 (ninS ne175 nin0)).keep K162 (ninS ne175 nin0)).keep K166 (ninS ne175 nin0)).keep K170 (ninS ne175 nin0))
  refine Go.callI 124 rfl (C := B1) a142 [.ref a149] (rest := [.ref a142]) 4 5 2 6 (c1n4 Z hw h169 a142 a149 v1 v2 v3 v4 cs hS hcs hAs hHi hLo z145 F174 F176 F177 A173 hx0 hx1 hx2 hx3) at_121 rfl rfl rfl rfl rfl rfl (by decide) pd1 rfl rfl rfl (W := 1) (Nat.le_of_ble_eq_true rfl) (by decide) (by decide) (by decide) (by decide) fun v178 h179 q180 => ?_
  obtain ⟨rfl, t181, g182, K183, F184, D185⟩ := q180
  have z186 : Z.heap.size ≤ t181 := Nat.le_trans (Nat.le_trans (Nat.le_trans (Nat.le_trans (Nat.le_trans (Nat.le_trans (Nat.le_trans (Nat.le_trans (Nat.le_trans (Nat.le_trans (Nat.le_trans (Nat.le_trans (Nat.le_trans (Nat.le_trans (Nat.le_trans (Nat.le_trans (Nat.le_trans (Nat.le_trans (Nat.le_trans (Nat.le_trans (Nat.le_trans (Nat.le_trans (Nat.le_trans (Nat.le_trans (Nat.le_trans hle K9.1) K16.1) K27.1) K35.1) K42.1) K47.1) K60.1) K68.1) K75.1) K80.1) K84.1) K97.1) K105.1) K112.1) K117.1) K121.1) K125.1) K138.1) K146.1) K153.1) K158.1) K162.1) K166.1) K170.1) g182
  refine Go.astore 126 rfl at_124 rfl (Ls' := #[.val (.int p0), .val (.int p1), .val (.int p2), .val (.int p3), .val (.int v1), .val (.int v2), .val (.int v3), .val (.int v4), .val (.ref a5), .val (.ref a31), .val (.ref a64), .val (.ref a101), .val (.ref a142), .unset, .unset, .unset, .unset, .unset, .unset, .unset, .unset, .unset, .unset, .unset, .unset, .unset, .unset, .unset]) rfl ?_
  refine Go.aload 128 rfl at_126 rfl rfl ?_
  have ne187 : a5 ≠ a38 := (show @Ne Nat a5 a38 from by have := ltN F28.lt; have := K35.1; have := g40; omega)
  have ne188 : a5 ≠ a31 := (show @Ne Nat a5 a31 from by have := ltN F28.lt; have := g33; omega)
  have ne189 : a5 ≠ a71 := (show @Ne Nat a5 a71 from by have := ltN F28.lt; have := K35.1; have := K42.1; have := K47.1; have := K60.1; have := K68.1; have := g73; omega)
  have ne190 : a5 ≠ a64 := (show @Ne Nat a5 a64 from by have := ltN F28.lt; have := K35.1; have := K42.1; have := K47.1; have := K60.1; have := g66; omega)
  have ne191 : a5 ≠ a108 := (show @Ne Nat a5 a108 from by have := ltN F28.lt; have := K35.1; have := K42.1; have := K47.1; have := K60.1; have := K68.1; have := K75.1; have := K80.1; have := K84.1; have := K97.1; have := K105.1; have := g110; omega)
  have ne192 : a5 ≠ a101 := (show @Ne Nat a5 a101 from by have := ltN F28.lt; have := K35.1; have := K42.1; have := K47.1; have := K60.1; have := K68.1; have := K75.1; have := K80.1; have := K84.1; have := K97.1; have := g103; omega)
  have ne193 : a5 ≠ a149 := (show @Ne Nat a5 a149 from by have := ltN F28.lt; have := K35.1; have := K42.1; have := K47.1; have := K60.1; have := K68.1; have := K75.1; have := K80.1; have := K84.1; have := K97.1; have := K105.1; have := K112.1; have := K117.1; have := K121.1; have := K125.1; have := K138.1; have := K146.1; have := g151; omega)
  have ne194 : a5 ≠ a142 := (show @Ne Nat a5 a142 from by have := ltN F28.lt; have := K35.1; have := K42.1; have := K47.1; have := K60.1; have := K68.1; have := K75.1; have := K80.1; have := K84.1; have := K97.1; have := K105.1; have := K112.1; have := K117.1; have := K121.1; have := K125.1; have := K138.1; have := g144; omega)
  have F195 : Fld Z h179 a5 "java/lang/String" "coder" "B" (.int (0 : Int32)) := ((((((((((((((((((((((G29.keep K35 nin0).keep K42 nin0).keep K47 (ninS ne187 nin0)).keep K60 (ninS ne188 nin0)).keep K68 nin0).keep K75 nin0).keep K80 (ninS ne189 nin0)).keep K84 (ninS ne189 nin0)).keep K97 (ninS ne190 nin0)).keep K105 nin0).keep K112 nin0).keep K117 (ninS ne191 nin0)).keep K121 (ninS ne191 nin0)).keep K125 (ninS ne191 nin0)).keep K138 (ninS ne192 nin0)).keep K146 nin0).keep K153 nin0).keep K158 (ninS ne193 nin0)).keep K162 (ninS ne193 nin0)).keep K166 (ninS ne193 nin0)).keep K170 (ninS ne193 nin0)).keep K183 (ninS ne194 nin0))
  have ne196 : t26 ≠ a38 := (show @Ne Nat t26 a38 from by have := ltN A30.lt; have := K35.1; have := g40; omega)
  have ne197 : t26 ≠ a31 := (show @Ne Nat t26 a31 from by have := ltN A30.lt; have := g33; omega)
  have ne198 : t26 ≠ a71 := (show @Ne Nat t26 a71 from by have := ltN A30.lt; have := K35.1; have := K42.1; have := K47.1; have := K60.1; have := K68.1; have := g73; omega)
  have ne199 : t26 ≠ a64 := (show @Ne Nat t26 a64 from by have := ltN A30.lt; have := K35.1; have := K42.1; have := K47.1; have := K60.1; have := g66; omega)
  have ne200 : t26 ≠ a108 := (show @Ne Nat t26 a108 from by have := ltN A30.lt; have := K35.1; have := K42.1; have := K47.1; have := K60.1; have := K68.1; have := K75.1; have := K80.1; have := K84.1; have := K97.1; have := K105.1; have := g110; omega)
  have ne201 : t26 ≠ a101 := (show @Ne Nat t26 a101 from by have := ltN A30.lt; have := K35.1; have := K42.1; have := K47.1; have := K60.1; have := K68.1; have := K75.1; have := K80.1; have := K84.1; have := K97.1; have := g103; omega)
  have ne202 : t26 ≠ a149 := (show @Ne Nat t26 a149 from by have := ltN A30.lt; have := K35.1; have := K42.1; have := K47.1; have := K60.1; have := K68.1; have := K75.1; have := K80.1; have := K84.1; have := K97.1; have := K105.1; have := K112.1; have := K117.1; have := K121.1; have := K125.1; have := K138.1; have := K146.1; have := g151; omega)
  have ne203 : t26 ≠ a142 := (show @Ne Nat t26 a142 from by have := ltN A30.lt; have := K35.1; have := K42.1; have := K47.1; have := K60.1; have := K68.1; have := K75.1; have := K80.1; have := K84.1; have := K97.1; have := K105.1; have := K112.1; have := K117.1; have := K121.1; have := K125.1; have := K138.1; have := g144; omega)
  have F204 : Ary Z h179 t26 .byte (IL []) := ((((((((((((((((((((((A30.keep K35 nin0).keep K42 nin0).keep K47 (ninS ne196 nin0)).keep K60 (ninS ne197 nin0)).keep K68 nin0).keep K75 nin0).keep K80 (ninS ne198 nin0)).keep K84 (ninS ne198 nin0)).keep K97 (ninS ne199 nin0)).keep K105 nin0).keep K112 nin0).keep K117 (ninS ne200 nin0)).keep K121 (ninS ne200 nin0)).keep K125 (ninS ne200 nin0)).keep K138 (ninS ne201 nin0)).keep K146 nin0).keep K153 nin0).keep K158 (ninS ne202 nin0)).keep K162 (ninS ne202 nin0)).keep K166 (ninS ne202 nin0)).keep K170 (ninS ne202 nin0)).keep K183 (ninS ne203 nin0))
  have F205 : Exa Z h179 a5 "java/lang/String" := (((((((((((((((((((((((F20.keep K27).keep K35).keep K42).keep K47).keep K60).keep K68).keep K75).keep K80).keep K84).keep K97).keep K105).keep K112).keep K117).keep K121).keep K125).keep K138).keep K146).keep K153).keep K158).keep K162).keep K166).keep K170).keep K183)
  have F206 : Fld Z h179 a5 "java/lang/String" "value" "[B" (.ref t26) := ((((((((((((((((((((((F28.keep K35 nin0).keep K42 nin0).keep K47 (ninS ne187 nin0)).keep K60 (ninS ne188 nin0)).keep K68 nin0).keep K75 nin0).keep K80 (ninS ne189 nin0)).keep K84 (ninS ne189 nin0)).keep K97 (ninS ne190 nin0)).keep K105 nin0).keep K112 nin0).keep K117 (ninS ne191 nin0)).keep K121 (ninS ne191 nin0)).keep K125 (ninS ne191 nin0)).keep K138 (ninS ne192 nin0)).keep K146 nin0).keep K153 nin0).keep K158 (ninS ne193 nin0)).keep K162 (ninS ne193 nin0)).keep K166 (ninS ne193 nin0)).keep K170 (ninS ne193 nin0)).keep K183 (ninS ne194 nin0))
  refine Go.callS 131 rfl (C := B7) [.ref a5] (rest := []) 33 34 35 36 (c7n0 Z hw h179 a5  cs hS hcs hAs hHi hLo hfm t26 F205 F206 F195 F204) at_128 rfl rfl rfl rfl (by decide) pd7 rfl rfl rfl (W := 0) (Nat.le_of_ble_eq_true rfl) (by decide) (by decide) (by decide) (by decide) fun v207 h208 q209 => ?_
  obtain ⟨rfl, rfl⟩ := q209
  refine Go.callS 134 rfl (C := B10) [.long (mixf ((-3750763034362895579 : Int64)))] (rest := []) 50 51 52 53 (c10 Z hw h179 (mixf ((-3750763034362895579 : Int64)))) at_131 rfl rfl rfl rfl (by decide) pd10 rfl rfl rfl (W := 0) (Nat.le_of_ble_eq_true rfl) (by decide) (by decide) (by decide) (by decide) fun v210 h211 q212 => ?_
  obtain ⟨rfl, rfl⟩ := q212
  refine Go.eqJ (w := (-3750763034362895579 : Int64)) (own_unm _) ?_
  refine Go.lstore 136 rfl at_134 (Ls' := #[.val (.int p0), .val (.int p1), .val (.int p2), .val (.int p3), .val (.int v1), .val (.int v2), .val (.int v3), .val (.int v4), .val (.ref a5), .val (.ref a31), .val (.ref a64), .val (.ref a101), .val (.ref a142), .val (.long (-3750763034362895579 : Int64)), .second, .unset, .unset, .unset, .unset, .unset, .unset, .unset, .unset, .unset, .unset, .unset, .unset, .unset]) rfl ?_
  refine Go.aload 138 rfl at_136 rfl rfl ?_
  have K214 := (((((((((((((((((((Keep.refl h56 []).trans K68 all0).trans K75 all0).trans K80 (allS (Or.inr (by have := K68.1; have := K75.1; have := g73; omega)) all0)).trans K84 (allS (Or.inr (by have := K68.1; have := K75.1; have := K80.1; have := g73; omega)) all0)).trans K97 (allS (Or.inr (by have := K68.1; have := K75.1; have := K80.1; have := K84.1; have := g66; omega)) all0)).trans K105 all0).trans K112 all0).trans K117 (allS (Or.inr (by have := K68.1; have := K75.1; have := K80.1; have := K84.1; have := K97.1; have := K105.1; have := K112.1; have := g110; omega)) all0)).trans K121 (allS (Or.inr (by have := K68.1; have := K75.1; have := K80.1; have := K84.1; have := K97.1; have := K105.1; have := K112.1; have := K117.1; have := g110; omega)) all0)).trans K125 (allS (Or.inr (by have := K68.1; have := K75.1; have := K80.1; have := K84.1; have := K97.1; have := K105.1; have := K112.1; have := K117.1; have := K121.1; have := g110; omega)) all0)).trans K138 (allS (Or.inr (by have := K68.1; have := K75.1; have := K80.1; have := K84.1; have := K97.1; have := K105.1; have := K112.1; have := K117.1; have := K121.1; have := K125.1; have := g103; omega)) all0)).trans K146 all0).trans K153 all0).trans K158 (allS (Or.inr (by have := K68.1; have := K75.1; have := K80.1; have := K84.1; have := K97.1; have := K105.1; have := K112.1; have := K117.1; have := K121.1; have := K125.1; have := K138.1; have := K146.1; have := K153.1; have := g151; omega)) all0)).trans K162 (allS (Or.inr (by have := K68.1; have := K75.1; have := K80.1; have := K84.1; have := K97.1; have := K105.1; have := K112.1; have := K117.1; have := K121.1; have := K125.1; have := K138.1; have := K146.1; have := K153.1; have := K158.1; have := g151; omega)) all0)).trans K166 (allS (Or.inr (by have := K68.1; have := K75.1; have := K80.1; have := K84.1; have := K97.1; have := K105.1; have := K112.1; have := K117.1; have := K121.1; have := K125.1; have := K138.1; have := K146.1; have := K153.1; have := K158.1; have := K162.1; have := g151; omega)) all0)).trans K170 (allS (Or.inr (by have := K68.1; have := K75.1; have := K80.1; have := K84.1; have := K97.1; have := K105.1; have := K112.1; have := K117.1; have := K121.1; have := K125.1; have := K138.1; have := K146.1; have := K153.1; have := K158.1; have := K162.1; have := K166.1; have := g151; omega)) all0)).trans K183 (allS (Or.inr (by have := K68.1; have := K75.1; have := K80.1; have := K84.1; have := K97.1; have := K105.1; have := K112.1; have := K117.1; have := K121.1; have := K125.1; have := K138.1; have := K146.1; have := K153.1; have := K158.1; have := K162.1; have := K166.1; have := K170.1; have := g144; omega)) all0))
  have D213 : ((Fld Z h179 a31 "java/lang/String" "coder" "B" (.int 0) ∧ ¬ (255 : Int32) < v1 ∧ Ary Z h179 t58 .byte (IL [l1 v1])) ∨ (Fld Z h179 a31 "java/lang/String" "coder" "B" (.int 1) ∧ Ary Z h179 t58 .byte (IL [lo v1, hi v1]))) := by rcases D62 with ⟨q, u0, r⟩ | ⟨q, r⟩; (exact Or.inl ⟨q.keep K214 nin0, u0, r.keep K214 nin0⟩); exact Or.inr ⟨q.keep K214 nin0, r.keep K214 nin0⟩
  have F215 : Exa Z h179 a31 "java/lang/String" := (((((((((((((((((((F51.keep K60).keep K68).keep K75).keep K80).keep K84).keep K97).keep K105).keep K112).keep K117).keep K121).keep K125).keep K138).keep K146).keep K153).keep K158).keep K162).keep K166).keep K170).keep K183)
  have ne216 : a31 ≠ a71 := (show @Ne Nat a31 a71 from by have := ltN F61.lt; have := K68.1; have := g73; omega)
  have ne217 : a31 ≠ a64 := (show @Ne Nat a31 a64 from by have := ltN F61.lt; have := g66; omega)
  have ne218 : a31 ≠ a108 := (show @Ne Nat a31 a108 from by have := ltN F61.lt; have := K68.1; have := K75.1; have := K80.1; have := K84.1; have := K97.1; have := K105.1; have := g110; omega)
  have ne219 : a31 ≠ a101 := (show @Ne Nat a31 a101 from by have := ltN F61.lt; have := K68.1; have := K75.1; have := K80.1; have := K84.1; have := K97.1; have := g103; omega)
  have ne220 : a31 ≠ a149 := (show @Ne Nat a31 a149 from by have := ltN F61.lt; have := K68.1; have := K75.1; have := K80.1; have := K84.1; have := K97.1; have := K105.1; have := K112.1; have := K117.1; have := K121.1; have := K125.1; have := K138.1; have := K146.1; have := g151; omega)
  have ne221 : a31 ≠ a142 := (show @Ne Nat a31 a142 from by have := ltN F61.lt; have := K68.1; have := K75.1; have := K80.1; have := K84.1; have := K97.1; have := K105.1; have := K112.1; have := K117.1; have := K121.1; have := K125.1; have := K138.1; have := g144; omega)
  have F222 : Fld Z h179 a31 "java/lang/String" "value" "[B" (.ref t58) := ((((((((((((((((((F61.keep K68 nin0).keep K75 nin0).keep K80 (ninS ne216 nin0)).keep K84 (ninS ne216 nin0)).keep K97 (ninS ne217 nin0)).keep K105 nin0).keep K112 nin0).keep K117 (ninS ne218 nin0)).keep K121 (ninS ne218 nin0)).keep K125 (ninS ne218 nin0)).keep K138 (ninS ne219 nin0)).keep K146 nin0).keep K153 nin0).keep K158 (ninS ne220 nin0)).keep K162 (ninS ne220 nin0)).keep K166 (ninS ne220 nin0)).keep K170 (ninS ne220 nin0)).keep K183 (ninS ne221 nin0))
  refine Go.callS 141 rfl (C := B7) [.ref a31] (rest := []) 33 34 35 36 (c7n1 Z hw h179 a31 v1 cs hS hcs hAs hHi hLo hfm t58 F215 F222 D213 hx0) at_138 rfl rfl rfl rfl (by decide) pd7 rfl rfl rfl (W := 0) (Nat.le_of_ble_eq_true rfl) (by decide) (by decide) (by decide) (by decide) fun v223 h224 q225 => ?_
  obtain ⟨rfl, rfl⟩ := q225
  refine Go.callS 144 rfl (C := B10) [.long (mixf (((-3750763034362895579 : Int64) ^^^ v1.toInt64) * (1099511628211 : Int64)))] (rest := []) 50 51 52 53 (c10 Z hw h179 (mixf (((-3750763034362895579 : Int64) ^^^ v1.toInt64) * (1099511628211 : Int64)))) at_141 rfl rfl rfl rfl (by decide) pd10 rfl rfl rfl (W := 0) (Nat.le_of_ble_eq_true rfl) (by decide) (by decide) (by decide) (by decide) fun v226 h227 q228 => ?_
  obtain ⟨rfl, rfl⟩ := q228
  refine Go.eqJ (w := ((-3750763034362895579 : Int64) ^^^ v1.toInt64) * (1099511628211 : Int64)) (own_unm _) ?_
  refine Go.nameJ fun v229 hv229 => ?_
  refine Go.lstore 146 rfl at_144 (Ls' := #[.val (.int p0), .val (.int p1), .val (.int p2), .val (.int p3), .val (.int v1), .val (.int v2), .val (.int v3), .val (.int v4), .val (.ref a5), .val (.ref a31), .val (.ref a64), .val (.ref a101), .val (.ref a142), .val (.long (-3750763034362895579 : Int64)), .second, .val (.long v229), .second, .unset, .unset, .unset, .unset, .unset, .unset, .unset, .unset, .unset, .unset, .unset]) rfl ?_
  refine Go.aload 148 rfl at_146 rfl rfl ?_
  have K231 := ((((((((((((((Keep.refl h93 []).trans K105 all0).trans K112 all0).trans K117 (allS (Or.inr (by have := K105.1; have := K112.1; have := g110; omega)) all0)).trans K121 (allS (Or.inr (by have := K105.1; have := K112.1; have := K117.1; have := g110; omega)) all0)).trans K125 (allS (Or.inr (by have := K105.1; have := K112.1; have := K117.1; have := K121.1; have := g110; omega)) all0)).trans K138 (allS (Or.inr (by have := K105.1; have := K112.1; have := K117.1; have := K121.1; have := K125.1; have := g103; omega)) all0)).trans K146 all0).trans K153 all0).trans K158 (allS (Or.inr (by have := K105.1; have := K112.1; have := K117.1; have := K121.1; have := K125.1; have := K138.1; have := K146.1; have := K153.1; have := g151; omega)) all0)).trans K162 (allS (Or.inr (by have := K105.1; have := K112.1; have := K117.1; have := K121.1; have := K125.1; have := K138.1; have := K146.1; have := K153.1; have := K158.1; have := g151; omega)) all0)).trans K166 (allS (Or.inr (by have := K105.1; have := K112.1; have := K117.1; have := K121.1; have := K125.1; have := K138.1; have := K146.1; have := K153.1; have := K158.1; have := K162.1; have := g151; omega)) all0)).trans K170 (allS (Or.inr (by have := K105.1; have := K112.1; have := K117.1; have := K121.1; have := K125.1; have := K138.1; have := K146.1; have := K153.1; have := K158.1; have := K162.1; have := K166.1; have := g151; omega)) all0)).trans K183 (allS (Or.inr (by have := K105.1; have := K112.1; have := K117.1; have := K121.1; have := K125.1; have := K138.1; have := K146.1; have := K153.1; have := K158.1; have := K162.1; have := K166.1; have := K170.1; have := g144; omega)) all0))
  have D230 : ((Fld Z h179 a64 "java/lang/String" "coder" "B" (.int 0) ∧ ¬ (255 : Int32) < v1 ∧ ¬ (255 : Int32) < v2 ∧ Ary Z h179 t95 .byte (IL [l1 v1, l1 v2])) ∨ (Fld Z h179 a64 "java/lang/String" "coder" "B" (.int 1) ∧ Ary Z h179 t95 .byte (IL [lo v1, hi v1, lo v2, hi v2]))) := by rcases D99 with ⟨q, u0, u1, r⟩ | ⟨q, r⟩; (exact Or.inl ⟨q.keep K231 nin0, u0, u1, r.keep K231 nin0⟩); exact Or.inr ⟨q.keep K231 nin0, r.keep K231 nin0⟩
  have F232 : Exa Z h179 a64 "java/lang/String" := ((((((((((((((F88.keep K97).keep K105).keep K112).keep K117).keep K121).keep K125).keep K138).keep K146).keep K153).keep K158).keep K162).keep K166).keep K170).keep K183)
  have ne233 : a64 ≠ a108 := (show @Ne Nat a64 a108 from by have := ltN F98.lt; have := K105.1; have := g110; omega)
  have ne234 : a64 ≠ a101 := (show @Ne Nat a64 a101 from by have := ltN F98.lt; have := g103; omega)
  have ne235 : a64 ≠ a149 := (show @Ne Nat a64 a149 from by have := ltN F98.lt; have := K105.1; have := K112.1; have := K117.1; have := K121.1; have := K125.1; have := K138.1; have := K146.1; have := g151; omega)
  have ne236 : a64 ≠ a142 := (show @Ne Nat a64 a142 from by have := ltN F98.lt; have := K105.1; have := K112.1; have := K117.1; have := K121.1; have := K125.1; have := K138.1; have := g144; omega)
  have F237 : Fld Z h179 a64 "java/lang/String" "value" "[B" (.ref t95) := (((((((((((((F98.keep K105 nin0).keep K112 nin0).keep K117 (ninS ne233 nin0)).keep K121 (ninS ne233 nin0)).keep K125 (ninS ne233 nin0)).keep K138 (ninS ne234 nin0)).keep K146 nin0).keep K153 nin0).keep K158 (ninS ne235 nin0)).keep K162 (ninS ne235 nin0)).keep K166 (ninS ne235 nin0)).keep K170 (ninS ne235 nin0)).keep K183 (ninS ne236 nin0))
  refine Go.callS 151 rfl (C := B7) [.ref a64] (rest := []) 33 34 35 36 (c7n2 Z hw h179 a64 v1 v2 cs hS hcs hAs hHi hLo hfm t95 F232 F237 D230 hx0 hx1) at_148 rfl rfl rfl rfl (by decide) pd7 rfl rfl rfl (W := 0) (Nat.le_of_ble_eq_true rfl) (by decide) (by decide) (by decide) (by decide) fun v238 h239 q240 => ?_
  obtain ⟨rfl, rfl⟩ := q240
  refine Go.callS 154 rfl (C := B10) [.long (mixf (((((-3750763034362895579 : Int64) ^^^ v1.toInt64) * (1099511628211 : Int64)) ^^^ v2.toInt64) * (1099511628211 : Int64)))] (rest := []) 50 51 52 53 (c10 Z hw h179 (mixf (((((-3750763034362895579 : Int64) ^^^ v1.toInt64) * (1099511628211 : Int64)) ^^^ v2.toInt64) * (1099511628211 : Int64)))) at_151 rfl rfl rfl rfl (by decide) pd10 rfl rfl rfl (W := 0) (Nat.le_of_ble_eq_true rfl) (by decide) (by decide) (by decide) (by decide) fun v241 h242 q243 => ?_
  obtain ⟨rfl, rfl⟩ := q243
  refine Go.eqJ (w := ((((-3750763034362895579 : Int64) ^^^ v1.toInt64) * (1099511628211 : Int64)) ^^^ v2.toInt64) * (1099511628211 : Int64)) (own_unm _) ?_
  refine Go.nameJ fun v244 hv244 => ?_
  refine Go.lstore 156 rfl at_154 (Ls' := #[.val (.int p0), .val (.int p1), .val (.int p2), .val (.int p3), .val (.int v1), .val (.int v2), .val (.int v3), .val (.int v4), .val (.ref a5), .val (.ref a31), .val (.ref a64), .val (.ref a101), .val (.ref a142), .val (.long (-3750763034362895579 : Int64)), .second, .val (.long v229), .second, .val (.long v244), .second, .unset, .unset, .unset, .unset, .unset, .unset, .unset, .unset, .unset]) rfl ?_
  refine Go.aload 158 rfl at_156 rfl rfl ?_
  have K246 := ((((((((Keep.refl h134 []).trans K146 all0).trans K153 all0).trans K158 (allS (Or.inr (by have := K146.1; have := K153.1; have := g151; omega)) all0)).trans K162 (allS (Or.inr (by have := K146.1; have := K153.1; have := K158.1; have := g151; omega)) all0)).trans K166 (allS (Or.inr (by have := K146.1; have := K153.1; have := K158.1; have := K162.1; have := g151; omega)) all0)).trans K170 (allS (Or.inr (by have := K146.1; have := K153.1; have := K158.1; have := K162.1; have := K166.1; have := g151; omega)) all0)).trans K183 (allS (Or.inr (by have := K146.1; have := K153.1; have := K158.1; have := K162.1; have := K166.1; have := K170.1; have := g144; omega)) all0))
  have D245 : ((Fld Z h179 a101 "java/lang/String" "coder" "B" (.int 0) ∧ ¬ (255 : Int32) < v1 ∧ ¬ (255 : Int32) < v2 ∧ ¬ (255 : Int32) < v3 ∧ Ary Z h179 t136 .byte (IL [l1 v1, l1 v2, l1 v3])) ∨ (Fld Z h179 a101 "java/lang/String" "coder" "B" (.int 1) ∧ Ary Z h179 t136 .byte (IL [lo v1, hi v1, lo v2, hi v2, lo v3, hi v3]))) := by rcases D140 with ⟨q, u0, u1, u2, r⟩ | ⟨q, r⟩; (exact Or.inl ⟨q.keep K246 nin0, u0, u1, u2, r.keep K246 nin0⟩); exact Or.inr ⟨q.keep K246 nin0, r.keep K246 nin0⟩
  have F247 : Exa Z h179 a101 "java/lang/String" := ((((((((F129.keep K138).keep K146).keep K153).keep K158).keep K162).keep K166).keep K170).keep K183)
  have ne248 : a101 ≠ a149 := (show @Ne Nat a101 a149 from by have := ltN F139.lt; have := K146.1; have := g151; omega)
  have ne249 : a101 ≠ a142 := (show @Ne Nat a101 a142 from by have := ltN F139.lt; have := g144; omega)
  have F250 : Fld Z h179 a101 "java/lang/String" "value" "[B" (.ref t136) := (((((((F139.keep K146 nin0).keep K153 nin0).keep K158 (ninS ne248 nin0)).keep K162 (ninS ne248 nin0)).keep K166 (ninS ne248 nin0)).keep K170 (ninS ne248 nin0)).keep K183 (ninS ne249 nin0))
  refine Go.callS 161 rfl (C := B7) [.ref a101] (rest := []) 33 34 35 36 (c7n3 Z hw h179 a101 v1 v2 v3 cs hS hcs hAs hHi hLo hfm t136 F247 F250 D245 hx0 hx1 hx2) at_158 rfl rfl rfl rfl (by decide) pd7 rfl rfl rfl (W := 0) (Nat.le_of_ble_eq_true rfl) (by decide) (by decide) (by decide) (by decide) fun v251 h252 q253 => ?_
  obtain ⟨rfl, rfl⟩ := q253
  refine Go.callS 164 rfl (C := B10) [.long (mixf (((((((-3750763034362895579 : Int64) ^^^ v1.toInt64) * (1099511628211 : Int64)) ^^^ v2.toInt64) * (1099511628211 : Int64)) ^^^ v3.toInt64) * (1099511628211 : Int64)))] (rest := []) 50 51 52 53 (c10 Z hw h179 (mixf (((((((-3750763034362895579 : Int64) ^^^ v1.toInt64) * (1099511628211 : Int64)) ^^^ v2.toInt64) * (1099511628211 : Int64)) ^^^ v3.toInt64) * (1099511628211 : Int64)))) at_161 rfl rfl rfl rfl (by decide) pd10 rfl rfl rfl (W := 0) (Nat.le_of_ble_eq_true rfl) (by decide) (by decide) (by decide) (by decide) fun v254 h255 q256 => ?_
  obtain ⟨rfl, rfl⟩ := q256
  refine Go.eqJ (w := ((((((-3750763034362895579 : Int64) ^^^ v1.toInt64) * (1099511628211 : Int64)) ^^^ v2.toInt64) * (1099511628211 : Int64)) ^^^ v3.toInt64) * (1099511628211 : Int64)) (own_unm _) ?_
  refine Go.nameJ fun v257 hv257 => ?_
  refine Go.lstore 166 rfl at_164 (Ls' := #[.val (.int p0), .val (.int p1), .val (.int p2), .val (.int p3), .val (.int v1), .val (.int v2), .val (.int v3), .val (.int v4), .val (.ref a5), .val (.ref a31), .val (.ref a64), .val (.ref a101), .val (.ref a142), .val (.long (-3750763034362895579 : Int64)), .second, .val (.long v229), .second, .val (.long v244), .second, .val (.long v257), .second, .unset, .unset, .unset, .unset, .unset, .unset, .unset]) rfl ?_
  refine Go.aload 168 rfl at_166 rfl rfl ?_
  have K259 := (Keep.refl h179 [])
  have D258 : ((Fld Z h179 a142 "java/lang/String" "coder" "B" (.int 0) ∧ ¬ (255 : Int32) < v1 ∧ ¬ (255 : Int32) < v2 ∧ ¬ (255 : Int32) < v3 ∧ ¬ (255 : Int32) < v4 ∧ Ary Z h179 t181 .byte (IL [l1 v1, l1 v2, l1 v3, l1 v4])) ∨ (Fld Z h179 a142 "java/lang/String" "coder" "B" (.int 1) ∧ Ary Z h179 t181 .byte (IL [lo v1, hi v1, lo v2, hi v2, lo v3, hi v3, lo v4, hi v4]))) := by rcases D185 with ⟨q, u0, u1, u2, u3, r⟩ | ⟨q, r⟩; (exact Or.inl ⟨q.keep K259 nin0, u0, u1, u2, u3, r.keep K259 nin0⟩); exact Or.inr ⟨q.keep K259 nin0, r.keep K259 nin0⟩
  have F260 : Exa Z h179 a142 "java/lang/String" := (F174.keep K183)
  refine Go.callS 171 rfl (C := B7) [.ref a142] (rest := []) 33 34 35 36 (c7n4 Z hw h179 a142 v1 v2 v3 v4 cs hS hcs hAs hHi hLo hfm t181 F260 F184 D258 hx0 hx1 hx2 hx3) at_168 rfl rfl rfl rfl (by decide) pd7 rfl rfl rfl (W := 0) (Nat.le_of_ble_eq_true rfl) (by decide) (by decide) (by decide) (by decide) fun v261 h262 q263 => ?_
  obtain ⟨rfl, rfl⟩ := q263
  refine Go.callS 174 rfl (C := B10) [.long (mixf (((((((((-3750763034362895579 : Int64) ^^^ v1.toInt64) * (1099511628211 : Int64)) ^^^ v2.toInt64) * (1099511628211 : Int64)) ^^^ v3.toInt64) * (1099511628211 : Int64)) ^^^ v4.toInt64) * (1099511628211 : Int64)))] (rest := []) 50 51 52 53 (c10 Z hw h179 (mixf (((((((((-3750763034362895579 : Int64) ^^^ v1.toInt64) * (1099511628211 : Int64)) ^^^ v2.toInt64) * (1099511628211 : Int64)) ^^^ v3.toInt64) * (1099511628211 : Int64)) ^^^ v4.toInt64) * (1099511628211 : Int64)))) at_171 rfl rfl rfl rfl (by decide) pd10 rfl rfl rfl (W := 0) (Nat.le_of_ble_eq_true rfl) (by decide) (by decide) (by decide) (by decide) fun v264 h265 q266 => ?_
  obtain ⟨rfl, rfl⟩ := q266
  refine Go.eqJ (w := ((((((((-3750763034362895579 : Int64) ^^^ v1.toInt64) * (1099511628211 : Int64)) ^^^ v2.toInt64) * (1099511628211 : Int64)) ^^^ v3.toInt64) * (1099511628211 : Int64)) ^^^ v4.toInt64) * (1099511628211 : Int64)) (own_unm _) ?_
  refine Go.nameJ fun v267 hv267 => ?_
  refine Go.lstore 176 rfl at_174 (Ls' := #[.val (.int p0), .val (.int p1), .val (.int p2), .val (.int p3), .val (.int v1), .val (.int v2), .val (.int v3), .val (.int v4), .val (.ref a5), .val (.ref a31), .val (.ref a64), .val (.ref a101), .val (.ref a142), .val (.long (-3750763034362895579 : Int64)), .second, .val (.long v229), .second, .val (.long v244), .second, .val (.long v257), .second, .val (.long v267), .second, .unset, .unset, .unset, .unset, .unset]) rfl ?_
  refine Go.lload 178 rfl at_176 rfl ?_
  refine Go.ldc2J 181 rfl (v := (-3750763034362895579 : Int64)) 79 at_178 rfl ?_
  refine Go.lcmp 182 rfl at_181 ?_
  refine Go.eqI (w := 0) (by subst_vars; exact own_ceq _) ?_
  refine Go.if_ne 189 185 at_182 (by decide) rfl rfl (fun (b268 : ¬ (0 : Int32) = 0) => ?_) (fun (b268 : (0 : Int32) = 0) => ?_)
  · exact absurd (show (0 : Int32) = 0 from by decide) b268
  · refine Go.iconst 186 rfl (1 : Int32) at_185 rfl ?_
    refine Go.goto 190 at_186 (by decide) (by decide) ?_
    refine Go.istore 192 rfl at_190 (Ls' := #[.val (.int p0), .val (.int p1), .val (.int p2), .val (.int p3), .val (.int v1), .val (.int v2), .val (.int v3), .val (.int v4), .val (.ref a5), .val (.ref a31), .val (.ref a64), .val (.ref a101), .val (.ref a142), .val (.long (-3750763034362895579 : Int64)), .second, .val (.long v229), .second, .val (.long v244), .second, .val (.long v257), .second, .val (.long v267), .second, .val (.int (1 : Int32)), .unset, .unset, .unset, .unset]) rfl ?_
    refine Go.lload 194 rfl at_192 rfl ?_
    refine Go.lload 196 rfl at_194 rfl ?_
    refine Go.iload 198 rfl at_196 rfl ?_
    refine Go.i2l 199 rfl at_198 ?_
    refine Go.lxor 200 rfl at_199 ?_
    refine Go.ldc2J 203 rfl (v := (1099511628211 : Int64)) 80 at_200 rfl ?_
    refine Go.lmul 204 rfl at_203 ?_
    refine Go.lcmp 205 rfl at_204 ?_
    refine Go.eqI (w := 0) (by subst_vars; exact own_ceq _) ?_
    refine Go.if_ne 212 208 at_205 (by decide) rfl rfl (fun (b269 : ¬ (0 : Int32) = 0) => ?_) (fun (b269 : (0 : Int32) = 0) => ?_)
    · exact absurd (show (0 : Int32) = 0 from by decide) b269
    · refine Go.iconst 209 rfl (1 : Int32) at_208 rfl ?_
      refine Go.goto 213 at_209 (by decide) (by decide) ?_
      refine Go.istore 215 rfl at_213 (Ls' := #[.val (.int p0), .val (.int p1), .val (.int p2), .val (.int p3), .val (.int v1), .val (.int v2), .val (.int v3), .val (.int v4), .val (.ref a5), .val (.ref a31), .val (.ref a64), .val (.ref a101), .val (.ref a142), .val (.long (-3750763034362895579 : Int64)), .second, .val (.long v229), .second, .val (.long v244), .second, .val (.long v257), .second, .val (.long v267), .second, .val (.int (1 : Int32)), .val (.int (1 : Int32)), .unset, .unset, .unset]) rfl ?_
      refine Go.lload 217 rfl at_215 rfl ?_
      refine Go.lload 219 rfl at_217 rfl ?_
      refine Go.iload 221 rfl at_219 rfl ?_
      refine Go.i2l 222 rfl at_221 ?_
      refine Go.lxor 223 rfl at_222 ?_
      refine Go.ldc2J 226 rfl (v := (1099511628211 : Int64)) 80 at_223 rfl ?_
      refine Go.lmul 227 rfl at_226 ?_
      refine Go.lcmp 228 rfl at_227 ?_
      refine Go.eqI (w := 0) (by subst_vars; exact own_ceq _) ?_
      refine Go.if_ne 235 231 at_228 (by decide) rfl rfl (fun (b270 : ¬ (0 : Int32) = 0) => ?_) (fun (b270 : (0 : Int32) = 0) => ?_)
      · exact absurd (show (0 : Int32) = 0 from by decide) b270
      · refine Go.iconst 232 rfl (1 : Int32) at_231 rfl ?_
        refine Go.goto 236 at_232 (by decide) (by decide) ?_
        refine Go.istore 238 rfl at_236 (Ls' := #[.val (.int p0), .val (.int p1), .val (.int p2), .val (.int p3), .val (.int v1), .val (.int v2), .val (.int v3), .val (.int v4), .val (.ref a5), .val (.ref a31), .val (.ref a64), .val (.ref a101), .val (.ref a142), .val (.long (-3750763034362895579 : Int64)), .second, .val (.long v229), .second, .val (.long v244), .second, .val (.long v257), .second, .val (.long v267), .second, .val (.int (1 : Int32)), .val (.int (1 : Int32)), .val (.int (1 : Int32)), .unset, .unset]) rfl ?_
        refine Go.lload 240 rfl at_238 rfl ?_
        refine Go.lload 242 rfl at_240 rfl ?_
        refine Go.iload 244 rfl at_242 rfl ?_
        refine Go.i2l 245 rfl at_244 ?_
        refine Go.lxor 246 rfl at_245 ?_
        refine Go.ldc2J 249 rfl (v := (1099511628211 : Int64)) 80 at_246 rfl ?_
        refine Go.lmul 250 rfl at_249 ?_
        refine Go.lcmp 251 rfl at_250 ?_
        refine Go.eqI (w := 0) (by subst_vars; exact own_ceq _) ?_
        refine Go.if_ne 258 254 at_251 (by decide) rfl rfl (fun (b271 : ¬ (0 : Int32) = 0) => ?_) (fun (b271 : (0 : Int32) = 0) => ?_)
        · exact absurd (show (0 : Int32) = 0 from by decide) b271
        · refine Go.iconst 255 rfl (1 : Int32) at_254 rfl ?_
          refine Go.goto 259 at_255 (by decide) (by decide) ?_
          refine Go.istore 261 rfl at_259 (Ls' := #[.val (.int p0), .val (.int p1), .val (.int p2), .val (.int p3), .val (.int v1), .val (.int v2), .val (.int v3), .val (.int v4), .val (.ref a5), .val (.ref a31), .val (.ref a64), .val (.ref a101), .val (.ref a142), .val (.long (-3750763034362895579 : Int64)), .second, .val (.long v229), .second, .val (.long v244), .second, .val (.long v257), .second, .val (.long v267), .second, .val (.int (1 : Int32)), .val (.int (1 : Int32)), .val (.int (1 : Int32)), .val (.int (1 : Int32)), .unset]) rfl ?_
          refine Go.lload 263 rfl at_261 rfl ?_
          refine Go.lload 265 rfl at_263 rfl ?_
          refine Go.iload 267 rfl at_265 rfl ?_
          refine Go.i2l 268 rfl at_267 ?_
          refine Go.lxor 269 rfl at_268 ?_
          refine Go.ldc2J 272 rfl (v := (1099511628211 : Int64)) 80 at_269 rfl ?_
          refine Go.lmul 273 rfl at_272 ?_
          refine Go.lcmp 274 rfl at_273 ?_
          refine Go.eqI (w := 0) (by subst_vars; exact own_ceq _) ?_
          refine Go.if_ne 281 277 at_274 (by decide) rfl rfl (fun (b272 : ¬ (0 : Int32) = 0) => ?_) (fun (b272 : (0 : Int32) = 0) => ?_)
          · exact absurd (show (0 : Int32) = 0 from by decide) b272
          · refine Go.iconst 278 rfl (1 : Int32) at_277 rfl ?_
            refine Go.goto 282 at_278 (by decide) (by decide) ?_
            refine Go.istore 284 rfl at_282 (Ls' := #[.val (.int p0), .val (.int p1), .val (.int p2), .val (.int p3), .val (.int v1), .val (.int v2), .val (.int v3), .val (.int v4), .val (.ref a5), .val (.ref a31), .val (.ref a64), .val (.ref a101), .val (.ref a142), .val (.long (-3750763034362895579 : Int64)), .second, .val (.long v229), .second, .val (.long v244), .second, .val (.long v257), .second, .val (.long v267), .second, .val (.int (1 : Int32)), .val (.int (1 : Int32)), .val (.int (1 : Int32)), .val (.int (1 : Int32)), .val (.int (1 : Int32))]) rfl ?_
            refine Go.iload 286 rfl at_284 rfl ?_
            refine Go.if_eq 313 289 at_286 (by decide) rfl rfl (fun (b273 : (1 : Int32) = 0) => ?_) (fun (b273 : ¬ (1 : Int32) = 0) => ?_)
            · exact absurd b273 (show ¬ (1 : Int32) = 0 from by decide)
            · refine Go.iload 291 rfl at_289 rfl ?_
              refine Go.if_eq 313 294 at_291 (by decide) rfl rfl (fun (b274 : (1 : Int32) = 0) => ?_) (fun (b274 : ¬ (1 : Int32) = 0) => ?_)
              · exact absurd b274 (show ¬ (1 : Int32) = 0 from by decide)
              · refine Go.iload 296 rfl at_294 rfl ?_
                refine Go.if_eq 313 299 at_296 (by decide) rfl rfl (fun (b275 : (1 : Int32) = 0) => ?_) (fun (b275 : ¬ (1 : Int32) = 0) => ?_)
                · exact absurd b275 (show ¬ (1 : Int32) = 0 from by decide)
                · refine Go.iload 301 rfl at_299 rfl ?_
                  refine Go.if_eq 313 304 at_301 (by decide) rfl rfl (fun (b276 : (1 : Int32) = 0) => ?_) (fun (b276 : ¬ (1 : Int32) = 0) => ?_)
                  · exact absurd b276 (show ¬ (1 : Int32) = 0 from by decide)
                  · refine Go.iload 306 rfl at_304 rfl ?_
                    refine Go.if_eq 313 309 at_306 (by decide) rfl rfl (fun (b277 : (1 : Int32) = 0) => ?_) (fun (b277 : ¬ (1 : Int32) = 0) => ?_)
                    · exact absurd b277 (show ¬ (1 : Int32) = 0 from by decide)
                    · refine Go.iconst 310 rfl (1 : Int32) at_309 rfl ?_
                      refine Go.goto 314 at_310 (by decide) (by decide) ?_
                      exact Go.retN (t := .boolean) (z' := 1) at_314 rfl (by decide) (by decide) (by decide) (by decide) rfl
set_option maxRecDepth 65536 in
set_option maxHeartbeats 40000000 in
theorem comes_1 {Post : Tables → Env → Array Value → State → Outcome → State → Prop} (hpost : ∀ tb e args s v u, (limb_1_1.after args s (.returned v) u = true ∧ limb_1_2.after args s (.returned v) u = true ∧ True) → ReturnedEndW s (.returned v) u (Jvm.fieldLocs frame_1_writes args s ++ Jvm.arrayLocs frame_1_arrays args s ++ Jvm.staticLocs frame_1_statics s) 48 1216 → Post tb e args s (.returned v) u) :
    ArmFor flags0 classFile x code maxLocals ret World_1 tables_1 room_1 Calls_1 rest_1 Pre_1 Post := by
  intro l hfl _ _ p e ha hc hk s m args below hf hA hF happ hP
  obtain ⟨hcalls, hrest, hpre⟩ := hP
  obtain ⟨-, -, -, hnamed, -, -, -, hat⟩ := (Spec.applies_iff hf).mp happ
  obtain ⟨hg, hn⟩ := and_e (Cond.before_iff.mp (show (Jvm.Cond.and given_1 narrow_1).before args s = true from hpre))
  obtain ⟨hg1, hg2⟩ := and_e hg
  obtain ⟨w0, w1, w2, w3, rfl⟩ : ∃ w0 w1 w2 w3 : Value, args = #[w0, w1, w2, w3] := by
    have hs : args.size = 4 := by simpa [Cond.value, given_1] using hg1
    obtain ⟨L⟩ := args
    match L, hs with
    | [w0, w1, w2, w3], _ => exact ⟨w0, w1, w2, w3, rfl⟩
  obtain ⟨ga0, gb0⟩ := and_e hg2
  obtain ⟨i0, e0⟩ := is_v ga0
  obtain rfl : w0 = (.int i0) := Option.some.inj e0
  obtain ⟨ga1, gb1⟩ := and_e gb0
  obtain ⟨i1, e1⟩ := is_v ga1
  obtain rfl : w1 = (.int i1) := Option.some.inj e1
  obtain ⟨ga2, gb2⟩ := and_e gb1
  obtain ⟨i2, e2⟩ := is_v ga2
  obtain rfl : w2 = (.int i2) := Option.some.inj e2
  obtain ⟨i3, e3⟩ := is_v gb2
  obtain rfl : w3 = (.int i3) := Option.some.inj e3
  have hw : Wd s tables_1 := ⟨_, fun d (hd : d ∈ tables_1) => atoms_spec (ws := Jvm.Cond.code x code maxLocals ret :: tables_1) hat d (List.mem_cons_of_mem _ hd)⟩
  have hfit : Fit s := fun {y c} hc i hi => by
    obtain ⟨ha, rfl⟩ := Array.getElem?_eq_some_iff.mp hc
    have q := List.all_eq_true.mp ((Array.all_eq_true_iff_forall_mem.mp hF) _ (Array.getElem_mem ha)) i (List.mem_range.mpr hi)
    simpa [Array.getElem?_eq_getElem hi] using q
  obtain ⟨hsets, hown0⟩ := atoms_of _ (rest_1_c_eq ▸ (show rest_1_c.before _ s = true from hrest))
  obtain ⟨cs, ecs⟩ := is_v (Cond.before_iff.mp (hsets _ (List.mem_of_getElem? (i := 1) rfl)))
  have hS : Sta s s.heap "java/lang/String" "COMPACT_STRINGS" "Z" (.int cs) := Sta.start ecs (Or.inl (hsets _ (List.mem_of_getElem? (i := 0) rfl)))
  have hcs : ¬ (cs = (0 : Int32)) := gotF (Cond.eq_ints ecs (Term.int_eval (0))) (not_v (Cond.before_iff.mp (hsets _ (List.mem_of_getElem? (i := 2) rfl))))
  have hAs : Sta s s.heap "java/lang/StringUTF16" "$assertionsDisabled" "Z" (.int 1) := own_si (Cond.before_iff.mp (hsets _ (List.mem_of_getElem? (i := 12) rfl))) (hsets _ (List.mem_of_getElem? (i := 11) rfl))
  have hHi : Sta s s.heap "java/lang/StringUTF16" "HI_BYTE_SHIFT" "I" (.int 0) := own_si (Cond.before_iff.mp (hsets _ (List.mem_of_getElem? (i := 15) rfl))) (hsets _ (List.mem_of_getElem? (i := 14) rfl))
  have hLo : Sta s s.heap "java/lang/StringUTF16" "LO_BYTE_SHIFT" "I" (.int 8) := own_si (Cond.before_iff.mp (hsets _ (List.mem_of_getElem? (i := 18) rfl))) (hsets _ (List.mem_of_getElem? (i := 17) rfl))
  have hfm : (Sta s s.heap "jdk/internal/util/Preconditions" "SIOOBE_FORMATTER" "Ljava/util/function/BiFunction;" .null) ∨ ∃ m, Sta s s.heap "jdk/internal/util/Preconditions" "SIOOBE_FORMATTER" "Ljava/util/function/BiFunction;" (.ref m) := by
    obtain ⟨v, ev, hr⟩ := isR_v (Cond.before_iff.mp (hsets _ (List.mem_of_getElem? (i := 8) rfl)))
    have S := Sta.start ev (Or.inl (hsets _ (List.mem_of_getElem? (i := 7) rfl)))
    rcases ref_cases hr with rfl | ⟨m, rfl⟩
    · exact Or.inl S
    · exact Or.inr ⟨m, S⟩
  have hh : Jvm.Lit.constHeld s "java/lang/String" 7 := hcalls.1 ("java/lang/String", 7) (by simp [consts_1])
  have hcw : ∀ a0, Jvm.Lit.compactW.before a0 s = true := fun a0 => Cond.before_iff.mpr (Cond.before_iff.mp (hsets _ (List.mem_of_getElem? (i := 2) rfl)))
  obtain ⟨n, o, h1, h2, h3, _, L, rfl, ⟨hv, -, N⟩, hq⟩ := c0 s hw s.heap i0 i1 i2 i3 cs hS hcs hAs hHi hLo hfm hh hcw ⟨Nat.le_refl _, fun _ _ q => q⟩ l tables_1 p e ha hc hk s m _ below hf ((Spec.applies_iff_loose hf).mp happ).1 ⟨rfl, State.Warmed39.refl s, rfl, rfl⟩ trivial
  cases (show _ = some (Value.int 1) from hv)
  refine ⟨n, _, h1, h2, h3, hpost _ _ _ _ _ _ ⟨Cond.after_iff.mpr rfl, Cond.after_iff.mpr (eq_i res_at (Term.int_eval (1)) rfl), trivial⟩ ⟨hq.1, hq.2.1, hq.2.2.1, (hq.2.2.2.sift fun y hy => Or.inr (N y hy)).mono (by decide) (by decide)⟩⟩
theorem main_1_1 : Claimed_1_1 := comes_1 fun _ _ _ _ _ _ h hF => ⟨h.1, hF⟩
theorem main_1_2 : Claimed_1_2 := comes_1 fun _ _ _ _ _ _ h hF => ⟨h.2.1, hF⟩
end Jvm.Pilot.@@N@@
namespace Jvm.Pilot.@@N@@
open Jvm Jvm.ClassFile Sem Op Lib Jvm.Free Jvm.Stand Jvm.Pilot.@@N@@.Jvm.D
/-! MADE BY PROGRAM (witnessworld.py) out of the Statement's table words and the real class files: 20 classes; the members and pool entries that the words name. The judged class is class 1, her method 2. -/
namespace start1
open Jvm.ClassFile
def u (s : String) : CpInfo := .utf8 (stringToUtf16 s)
/-- a pool by its gaps: so many unusable entries, then the entry; so many at the end -/
def gap : Nat → List CpInfo → List CpInfo
  | 0, r => r
  | n + 1, r => .unusable :: gap n r
def poolList (es : List (Nat × CpInfo)) (last : Nat) : List CpInfo := es.foldr (fun e r => gap e.1 (e.2 :: r)) (gap last [])
def pool (es : List (Nat × CpInfo)) (last : Nat) : Array CpInfo := ⟨poolList es last⟩
def fileOf (pool : Array CpInfo) (this : Nat) (attrs : Array Attribute := #[]) (ms : Array MethodInfo := #[]) (fl : Nat := 33) (sup : Nat := 0) (ifs : Array Nat := #[]) (fds : Array FieldInfo := #[]) : ClassFile where
  minorVersion := 0
  majorVersion := 65
  constantPool := pool
  accessFlags := fl
  thisClass := this
  superClass := sup
  interfaces := ifs
  fields := fds
  methods := ms
  attributes := attrs
def plain (name : String) (sup : Option ClassId) : Class where
  name := name
  kind := .ordinary
  loader := none
  accessFlags := 33
  super := sup
  interfaces := #[]
  cf := none
  fields := #[]
  methods := #[]
  instanceTypes := #[]
  staticTypes := #[]
  resolved := #[]
  callSites := []
  init := .initialized
  statics := none
  mirror := none

def pool0 : Array CpInfo := pool [(5, u "<init>"), (0, u "()V"), (1, .class_ 10), (1, u "java/lang/Object")] 113

def k0c0 : Code := { maxStack := 0, maxLocals := 1, code := object_method_1_code, exceptionTable := #[], attributes := #[] }
def k0m0 : Method := { name := "<init>", desc := "()V", sig := { parameters := [], returnType := none }, accessFlags := 1, code := some k0c0 }
/-- java/lang/Object -/
def k0 : Class := { plain "java/lang/Object" none with
  accessFlags := 33
  interfaces := #[]
  cf := some (fileOf pool0 8 #[] #[{ accessFlags := 1, nameIndex := 5, descriptorIndex := 6, attributes := #[] }] 33 0 #[] #[])
  fields := #[]
  methods := #[k0m0]
  instanceTypes := #[]
  staticTypes := #[]
  resolved := Array.replicate 124 none
  statics := none }

def pool1 : Array CpInfo := pool [(2, .class_ 4), (1, u "java/lang/Object"), (0, u "<init>"), (0, u "()V"), (0, .long 11291846944257947611), (1, .long 5725274745694666757), (1, .class_ 12), (0, u "java/lang/String"), (0, .methodref 11 14), (0, .nameAndType 5 15), (0, u "([C)V"), (0, .methodref 17 18), (0, .class_ 19), (0, .nameAndType 20 21), (0, u "com/example/concordat/concordat/identity/Text"), (0, u "hash"), (0, u "(Ljava/lang/String;)J"), (0, .methodref 23 24), (0, .class_ 25), (0, .nameAndType 26 27), (0, u "com/example/concordat/concordat/identity/TextHashPinLaw"), (0, u "unmix"), (0, u "(J)J"), (0, .long 14695981039346656037), (1, .long 1099511628211), (1, u "OFFSET"), (0, u "J"), (1, u "PRIME"), (2, u "law"), (0, u "(IIII)Z")] 3

def k1m0 : Method := { name := "<init>", desc := "()V", sig := { parameters := [], returnType := none }, accessFlags := 2, code := none }
def k1c1 : Code := { maxStack := 5, maxLocals := 2, code := method_2_code, exceptionTable := #[], attributes := #[] }
def k1m1 : Method := { name := "unmix", desc := "(J)J", sig := { parameters := [.long], returnType := some .long }, accessFlags := 10, code := some k1c1 }
def k1c2 : Code := { maxStack := 6, maxLocals := 28, code := code, exceptionTable := #[], attributes := #[] }
def k1m2 : Method := { name := "law", desc := "(IIII)Z", sig := { parameters := [.int, .int, .int, .int], returnType := some .boolean }, accessFlags := 9, code := some k1c2 }
/-- com/example/concordat/concordat/identity/TextHashPinLaw -/
def k1 : Class := { plain "com/example/concordat/concordat/identity/TextHashPinLaw" (some 0) with
  accessFlags := 49
  interfaces := #[]
  cf := some (fileOf pool1 23 #[] #[{ accessFlags := 2, nameIndex := 5, descriptorIndex := 6, attributes := #[] }, { accessFlags := 10, nameIndex := 26, descriptorIndex := 27, attributes := #[] }, { accessFlags := 9, nameIndex := 38, descriptorIndex := 39, attributes := #[] }] 49 2 #[] #[{ accessFlags := 26, nameIndex := 32, descriptorIndex := 33, attributes := #[] }, { accessFlags := 26, nameIndex := 35, descriptorIndex := 33, attributes := #[] }])
  fields := #[{ name := "OFFSET", type := .long, accessFlags := 26, slot := 0, constantValue := 0 }, { name := "PRIME", type := .long, accessFlags := 26, slot := 1, constantValue := 0 }]
  methods := #[k1m0, k1m1, k1m2]
  instanceTypes := #[]
  staticTypes := #[.long, .long]
  resolved := Array.replicate 43 none
  statics := none }

def pool2 : Array CpInfo := pool [(1, .class_ 2), (0, u "java/io/Serializable"), (0, .class_ 4), (0, u "java/lang/Object")] 2

/-- java/io/Serializable -/
def k2 : Class := { plain "java/io/Serializable" (some 0) with
  accessFlags := 1537
  interfaces := #[]
  cf := some (fileOf pool2 1 #[] #[] 1537 3 #[] #[])
  fields := #[]
  methods := #[]
  instanceTypes := #[]
  staticTypes := #[]
  resolved := Array.replicate 7 none
  statics := none }

def pool3 : Array CpInfo := pool [(1, .class_ 2), (0, u "java/lang/Comparable"), (0, .class_ 4), (0, u "java/lang/Object")] 7

/-- java/lang/Comparable -/
def k3 : Class := { plain "java/lang/Comparable" (some 0) with
  accessFlags := 1537
  interfaces := #[]
  cf := some (fileOf pool3 1 #[] #[] 1537 3 #[] #[])
  fields := #[]
  methods := #[]
  instanceTypes := #[]
  staticTypes := #[]
  resolved := Array.replicate 12 none
  statics := none }

def pool4 : Array CpInfo := pool [(2, .class_ 4), (1, u "java/lang/CharSequence"), (42, .class_ 48), (0, u "java/lang/CharSequence$1CodePointIterator"), (10, .class_ 60), (0, u "java/lang/CharSequence$1CharIterator"), (5, .class_ 67), (0, u "java/lang/Object")] 63

/-- java/lang/CharSequence -/
def k4 : Class := { plain "java/lang/CharSequence" (some 0) with
  accessFlags := 1537
  interfaces := #[]
  cf := some (fileOf pool4 2 #[.nestMembers #[47, 59]] #[] 1537 66 #[] #[])
  fields := #[]
  methods := #[]
  instanceTypes := #[]
  staticTypes := #[]
  resolved := Array.replicate 131 none
  statics := none }

def pool5 : Array CpInfo := pool [(1, .class_ 2), (0, u "java/lang/constant/Constable"), (0, .class_ 4), (0, u "java/lang/Object")] 6

/-- java/lang/constant/Constable -/
def k5 : Class := { plain "java/lang/constant/Constable" (some 0) with
  accessFlags := 1537
  interfaces := #[]
  cf := some (fileOf pool5 1 #[] #[] 1537 3 #[] #[])
  fields := #[]
  methods := #[]
  instanceTypes := #[]
  staticTypes := #[]
  resolved := Array.replicate 11 none
  statics := none }

def pool6 : Array CpInfo := pool [(1, .class_ 2), (0, u "java/lang/constant/ConstantDesc"), (0, .class_ 4), (0, u "java/lang/Object")] 32

/-- java/lang/constant/ConstantDesc -/
def k6 : Class := { plain "java/lang/constant/ConstantDesc" (some 0) with
  accessFlags := 1537
  interfaces := #[]
  cf := some (fileOf pool6 1 #[] #[] 1537 3 #[] #[])
  fields := #[]
  methods := #[]
  instanceTypes := #[]
  staticTypes := #[]
  resolved := Array.replicate 37 none
  statics := none }

def pool7 : Array CpInfo := pool [(1, .methodref 2 3), (0, .class_ 4), (0, .nameAndType 5 6), (0, u "java/lang/Object"), (0, u "<init>"), (0, u "()V"), (0, .string 8), (0, u ""), (0, .fieldref 10 11), (0, .class_ 12), (0, .nameAndType 13 14), (0, u "java/lang/String"), (0, u "value"), (0, u "[B"), (0, .fieldref 10 16), (0, .nameAndType 17 18), (0, u "coder"), (0, u "B"), (2, u "hash"), (0, u "I"), (2, u "hashIsZero"), (0, u "Z"), (0, .methodref 10 28), (0, .nameAndType 5 29), (0, u "([CIILjava/lang/Void;)V"), (8, .fieldref 10 39), (0, .nameAndType 40 26), (0, u "COMPACT_STRINGS"), (1, .class_ 44), (1, u "java/lang/StringUTF16"), (0, u "compress"), (1, .methodref 42 48), (0, .nameAndType 49 50), (0, u "coderFromArrayLen"), (0, u "([BI)B"), (56, .class_ 109), (1, u "java/lang/StringLatin1"), (32, u "()Z"), (34, .methodref 42 178), (0, .nameAndType 45 179), (0, u "([CII)[B"), (154, u "()I"), (0, .methodref 10 336), (0, .nameAndType 17 337), (0, u "()B"), (25, u "([BI)C"), (27, u "(II)V"), (35, u "(I)C"), (64, .methodref 10 493), (0, .nameAndType 494 142), (0, u "isLatin1"), (0, .methodref 107 496), (0, .nameAndType 497 363), (0, u "charAt"), (0, .methodref 42 496), (2, u "checkIndex"), (5, u "length"), (67, .class_ 576), (0, u "java/lang/CharSequence"), (22, u "CASE_INSENSITIVE_ORDER"), (0, u "Ljava/util/Comparator;"), (409, u "([C)V"), (42, .fieldref 1054 1055), (0, .class_ 1056), (0, .nameAndType 1057 1058), (0, u "jdk/internal/util/Preconditions"), (0, u "SIOOBE_FORMATTER"), (0, u "Ljava/util/function/BiFunction;"), (0, .methodref 1054 1060), (0, .nameAndType 501 1061), (0, u "(IILjava/util/function/BiFunction;)I"), (39, u "serialPersistentFields"), (0, u "[Ljava/io/ObjectStreamField;"), (0, .class_ 1104), (0, u "java/lang/String$CaseInsensitiveComparator"), (1, .class_ 1107), (0, u "java/io/Serializable"), (0, .class_ 1109), (0, u "java/lang/Comparable"), (0, .class_ 1111), (0, u "java/lang/constant/Constable"), (0, .class_ 1113), (0, u "java/lang/constant/ConstantDesc"), (2, u "serialVersionUID"), (0, u "J"), (3, u "REPL"), (0, u "C"), (2, u "LATIN1"), (1, u "UTF16")] 323

def k7m0 : Method := { name := "<init>", desc := "()V", sig := { parameters := [], returnType := none }, accessFlags := 1, code := none }
def k7c1 : Code := { maxStack := 5, maxLocals := 2, code := jdk_42_method_3_code, exceptionTable := #[], attributes := #[] }
def k7m1 : Method := { name := "<init>", desc := "([C)V", sig := { parameters := [(.array .char)], returnType := none }, accessFlags := 1, code := some k7c1 }
def k7c2 : Code := { maxStack := 2, maxLocals := 1, code := jdk_42_method_54_code, exceptionTable := #[], attributes := #[] }
def k7m2 : Method := { name := "length", desc := "()I", sig := { parameters := [], returnType := some .int }, accessFlags := 1, code := some k7c2 }
def k7c3 : Code := { maxStack := 2, maxLocals := 2, code := jdk_42_method_56_code, exceptionTable := #[], attributes := #[] }
def k7m3 : Method := { name := "charAt", desc := "(I)C", sig := { parameters := [.int], returnType := some .char }, accessFlags := 1, code := some k7c3 }
def k7c4 : Code := { maxStack := 4, maxLocals := 6, code := jdk_42_method_149_code, exceptionTable := #[], attributes := #[] }
def k7m4 : Method := { name := "<init>", desc := "([CIILjava/lang/Void;)V", sig := { parameters := [(.array .char), .int, .int, (.object "java/lang/Void")], returnType := none }, accessFlags := 2, code := some k7c4 }
def k7c5 : Code := { maxStack := 1, maxLocals := 1, code := jdk_42_method_152_code, exceptionTable := #[], attributes := #[] }
def k7m5 : Method := { name := "coder", desc := "()B", sig := { parameters := [], returnType := some .byte }, accessFlags := 0, code := some k7c5 }
def k7c6 : Code := { maxStack := 1, maxLocals := 1, code := jdk_42_method_154_code, exceptionTable := #[], attributes := #[] }
def k7m6 : Method := { name := "isLatin1", desc := "()Z", sig := { parameters := [], returnType := some .boolean }, accessFlags := 0, code := some k7c6 }
def k7c7 : Code := { maxStack := 3, maxLocals := 2, code := jdk_42_method_155_code, exceptionTable := #[], attributes := #[] }
def k7m7 : Method := { name := "checkIndex", desc := "(II)V", sig := { parameters := [.int, .int], returnType := none }, accessFlags := 8, code := some k7c7 }
/-- java/lang/String -/
def k7 : Class := { plain "java/lang/String" (some 0) with
  accessFlags := 49
  interfaces := #[2, 3, 4, 5, 6]
  cf := some (fileOf pool7 10 #[.nestMembers #[1103]] #[{ accessFlags := 1, nameIndex := 5, descriptorIndex := 6, attributes := #[] }, { accessFlags := 1, nameIndex := 5, descriptorIndex := 1010, attributes := #[] }, { accessFlags := 1, nameIndex := 507, descriptorIndex := 334, attributes := #[] }, { accessFlags := 1, nameIndex := 497, descriptorIndex := 427, attributes := #[] }, { accessFlags := 2, nameIndex := 5, descriptorIndex := 29, attributes := #[] }, { accessFlags := 0, nameIndex := 17, descriptorIndex := 337, attributes := #[] }, { accessFlags := 0, nameIndex := 494, descriptorIndex := 142, attributes := #[] }, { accessFlags := 8, nameIndex := 501, descriptorIndex := 391, attributes := #[] }] 49 2 #[1106, 1108, 575, 1110, 1112] #[{ accessFlags := 18, nameIndex := 13, descriptorIndex := 14, attributes := #[] }, { accessFlags := 18, nameIndex := 17, descriptorIndex := 18, attributes := #[] }, { accessFlags := 2, nameIndex := 21, descriptorIndex := 22, attributes := #[] }, { accessFlags := 2, nameIndex := 25, descriptorIndex := 26, attributes := #[] }, { accessFlags := 26, nameIndex := 1116, descriptorIndex := 1117, attributes := #[] }, { accessFlags := 24, nameIndex := 40, descriptorIndex := 26, attributes := #[] }, { accessFlags := 26, nameIndex := 1101, descriptorIndex := 1102, attributes := #[] }, { accessFlags := 26, nameIndex := 1121, descriptorIndex := 1122, attributes := #[] }, { accessFlags := 25, nameIndex := 599, descriptorIndex := 600, attributes := #[] }, { accessFlags := 24, nameIndex := 1125, descriptorIndex := 18, attributes := #[] }, { accessFlags := 24, nameIndex := 1127, descriptorIndex := 18, attributes := #[] }])
  fields := #[{ name := "value", type := (.array .byte), accessFlags := 18, slot := 0, constantValue := 0 }, { name := "coder", type := .byte, accessFlags := 18, slot := 1, constantValue := 0 }, { name := "hash", type := .int, accessFlags := 2, slot := 2, constantValue := 0 }, { name := "hashIsZero", type := .boolean, accessFlags := 2, slot := 3, constantValue := 0 }, { name := "serialVersionUID", type := .long, accessFlags := 26, slot := 0, constantValue := 0 }, { name := "COMPACT_STRINGS", type := .boolean, accessFlags := 24, slot := 1, constantValue := 0 }, { name := "serialPersistentFields", type := (.array (.object "java/io/ObjectStreamField")), accessFlags := 26, slot := 2, constantValue := 0 }, { name := "REPL", type := .char, accessFlags := 26, slot := 3, constantValue := 0 }, { name := "CASE_INSENSITIVE_ORDER", type := (.object "java/util/Comparator"), accessFlags := 25, slot := 4, constantValue := 0 }, { name := "LATIN1", type := .byte, accessFlags := 24, slot := 5, constantValue := 0 }, { name := "UTF16", type := .byte, accessFlags := 24, slot := 6, constantValue := 0 }]
  methods := #[k7m0, k7m1, k7m2, k7m3, k7m4, k7m5, k7m6, k7m7]
  instanceTypes := #[(.array .byte), .byte, .int, .boolean]
  staticTypes := #[.long, .boolean, (.array (.object "java/io/ObjectStreamField")), .char, (.object "java/util/Comparator"), .byte, .byte]
  resolved := Array.replicate 1451 none
  statics := some 0 }

def pool8 : Array CpInfo := pool [(3, .class_ 4), (0, u "java/lang/String"), (1, .class_ 8), (1, u "java/lang/Object"), (0, u "<init>"), (0, u "()V"), (0, .methodref 12 13), (0, .class_ 14), (0, .nameAndType 15 16), (0, u "java/lang/StringUTF16"), (0, u "newBytesLength"), (0, u "(I)I"), (3, .integer 1073741823), (23, .fieldref 12 45), (0, .nameAndType 46 47), (0, u "$assertionsDisabled"), (0, u "Z"), (0, .methodref 12 49), (0, .nameAndType 50 51), (0, u "length"), (0, u "([B)I"), (7, .fieldref 12 60), (0, .nameAndType 61 62), (0, u "HI_BYTE_SHIFT"), (0, u "I"), (0, .fieldref 12 64), (0, .nameAndType 65 62), (0, u "LO_BYTE_SHIFT"), (1, .methodref 12 68), (0, .nameAndType 69 70), (0, u "checkIndex"), (0, u "(I[B)V"), (0, .methodref 12 72), (0, .nameAndType 73 74), (0, u "getChar"), (0, u "([BI)C"), (32, .methodref 12 108), (0, .nameAndType 109 110), (0, u "newBytesFor"), (0, u "(I)[B"), (0, .methodref 12 112), (0, .nameAndType 113 114), (0, u "putChar"), (0, u "([BII)V"), (0, .methodref 12 116), (0, .nameAndType 117 118), (0, u "compress"), (0, u "([CI[BII)I"), (0, .methodref 12 120), (0, .nameAndType 121 122), (0, u "toBytes"), (0, u "([CII)[B"), (138, u "coderFromArrayLen"), (0, u "([BI)B"), (106, .class_ 371), (1, u "java/lang/StringUTF16$LinesSpliterator"), (20, u "charAt"), (21, .methodref 3 415), (0, .nameAndType 69 416), (0, u "(II)V"), (13, u "MAX_LENGTH"), (196, .class_ 628), (0, u "java/lang/StringUTF16$CodePointsSpliterator"), (0, .class_ 630), (0, u "java/lang/StringUTF16$CharsSpliterator")] 4

def k8m0 : Method := { name := "<init>", desc := "()V", sig := { parameters := [], returnType := none }, accessFlags := 0, code := none }
def k8c1 : Code := { maxStack := 1, maxLocals := 1, code := jdk_52_method_2_code, exceptionTable := #[], attributes := #[] }
def k8m1 : Method := { name := "newBytesFor", desc := "(I)[B", sig := { parameters := [.int], returnType := some (.array .byte) }, accessFlags := 9, code := some k8c1 }
def k8c2 : Code := { maxStack := 4, maxLocals := 1, code := jdk_52_method_3_code, exceptionTable := #[], attributes := #[] }
def k8m2 : Method := { name := "newBytesLength", desc := "(I)I", sig := { parameters := [.int], returnType := some .int }, accessFlags := 9, code := some k8c2 }
def k8c3 : Code := { maxStack := 4, maxLocals := 3, code := jdk_52_method_4_code, exceptionTable := #[], attributes := #[] }
def k8m3 : Method := { name := "putChar", desc := "([BII)V", sig := { parameters := [(.array .byte), .int, .int], returnType := none }, accessFlags := 8, code := some k8c3 }
def k8c4 : Code := { maxStack := 3, maxLocals := 2, code := jdk_52_method_5_code, exceptionTable := #[], attributes := #[] }
def k8m4 : Method := { name := "getChar", desc := "([BI)C", sig := { parameters := [(.array .byte), .int], returnType := some .char }, accessFlags := 8, code := some k8c4 }
def k8c5 : Code := { maxStack := 2, maxLocals := 1, code := jdk_52_method_6_code, exceptionTable := #[], attributes := #[] }
def k8m5 : Method := { name := "length", desc := "([B)I", sig := { parameters := [(.array .byte)], returnType := some .int }, accessFlags := 9, code := some k8c5 }
def k8c6 : Code := { maxStack := 4, maxLocals := 5, code := jdk_52_method_14_code, exceptionTable := #[], attributes := #[] }
def k8m6 : Method := { name := "toBytes", desc := "([CII)[B", sig := { parameters := [(.array .char), .int, .int], returnType := some (.array .byte) }, accessFlags := 9, code := some k8c6 }
def k8c7 : Code := { maxStack := 2, maxLocals := 2, code := jdk_52_method_15_code, exceptionTable := #[], attributes := #[] }
def k8m7 : Method := { name := "coderFromArrayLen", desc := "([BI)B", sig := { parameters := [(.array .byte), .int], returnType := some .byte }, accessFlags := 8, code := some k8c7 }
def k8c8 : Code := { maxStack := 5, maxLocals := 6, code := jdk_52_method_16_code, exceptionTable := #[], attributes := #[] }
def k8m8 : Method := { name := "compress", desc := "([CII)[B", sig := { parameters := [(.array .char), .int, .int], returnType := some (.array .byte) }, accessFlags := 9, code := some k8c8 }
def k8c9 : Code := { maxStack := 3, maxLocals := 7, code := jdk_52_method_21_code, exceptionTable := #[], attributes := #[] }
def k8m9 : Method := { name := "compress", desc := "([CI[BII)I", sig := { parameters := [(.array .char), .int, (.array .byte), .int, .int], returnType := some .int }, accessFlags := 9, code := some k8c9 }
def k8c10 : Code := { maxStack := 2, maxLocals := 2, code := jdk_52_method_83_code, exceptionTable := #[], attributes := #[] }
def k8m10 : Method := { name := "charAt", desc := "([BI)C", sig := { parameters := [(.array .byte), .int], returnType := some .char }, accessFlags := 9, code := some k8c10 }
def k8c11 : Code := { maxStack := 2, maxLocals := 2, code := jdk_52_method_91_code, exceptionTable := #[], attributes := #[] }
def k8m11 : Method := { name := "checkIndex", desc := "(I[B)V", sig := { parameters := [.int, (.array .byte)], returnType := none }, accessFlags := 9, code := some k8c11 }
/-- java/lang/StringUTF16 -/
def k8 : Class := { plain "java/lang/StringUTF16" (some 0) with
  accessFlags := 48
  interfaces := #[]
  cf := some (fileOf pool8 12 #[.nestMembers #[627, 629, 369]] #[{ accessFlags := 0, nameIndex := 9, descriptorIndex := 10, attributes := #[] }, { accessFlags := 9, nameIndex := 109, descriptorIndex := 110, attributes := #[] }, { accessFlags := 9, nameIndex := 15, descriptorIndex := 16, attributes := #[] }, { accessFlags := 8, nameIndex := 113, descriptorIndex := 114, attributes := #[] }, { accessFlags := 8, nameIndex := 73, descriptorIndex := 74, attributes := #[] }, { accessFlags := 9, nameIndex := 50, descriptorIndex := 51, attributes := #[] }, { accessFlags := 9, nameIndex := 121, descriptorIndex := 122, attributes := #[] }, { accessFlags := 8, nameIndex := 261, descriptorIndex := 262, attributes := #[] }, { accessFlags := 9, nameIndex := 117, descriptorIndex := 122, attributes := #[] }, { accessFlags := 9, nameIndex := 117, descriptorIndex := 118, attributes := #[] }, { accessFlags := 9, nameIndex := 392, descriptorIndex := 74, attributes := #[] }, { accessFlags := 9, nameIndex := 69, descriptorIndex := 70, attributes := #[] }] 48 6 #[] #[{ accessFlags := 26, nameIndex := 61, descriptorIndex := 62, attributes := #[] }, { accessFlags := 26, nameIndex := 65, descriptorIndex := 62, attributes := #[] }, { accessFlags := 24, nameIndex := 430, descriptorIndex := 62, attributes := #[] }, { accessFlags := 4120, nameIndex := 46, descriptorIndex := 47, attributes := #[] }])
  fields := #[{ name := "HI_BYTE_SHIFT", type := .int, accessFlags := 26, slot := 0, constantValue := 0 }, { name := "LO_BYTE_SHIFT", type := .int, accessFlags := 26, slot := 1, constantValue := 0 }, { name := "MAX_LENGTH", type := .int, accessFlags := 24, slot := 2, constantValue := 0 }, { name := "$assertionsDisabled", type := .boolean, accessFlags := 4120, slot := 3, constantValue := 0 }]
  methods := #[k8m0, k8m1, k8m2, k8m3, k8m4, k8m5, k8m6, k8m7, k8m8, k8m9, k8m10, k8m11]
  instanceTypes := #[]
  staticTypes := #[.int, .int, .int, .boolean]
  resolved := Array.replicate 635 none
  statics := some 1 }

def pool9 : Array CpInfo := pool [(2, .class_ 4), (1, u "java/lang/Object"), (0, u "<init>"), (0, u "()V"), (19, .class_ 28), (1, u "java/lang/String"), (4, .class_ 34), (0, u "com/example/concordat/concordat/identity/Text"), (3, .methodref 26 39), (0, .nameAndType 40 41), (0, u "length"), (0, u "()I"), (1, .methodref 26 44), (0, .nameAndType 45 46), (0, u "charAt"), (0, u "(I)C"), (68, .long 14695981039346656037), (1, .long 1099511628211), (1, .long 18397679294719823053), (1, .long 14181476777654086739), (6, u "SIMILAR"), (0, u "D"), (1, u "LONGEST"), (0, u "I"), (1, u "SOUNDEX_CODES"), (0, u "Ljava/lang/String;"), (6, u "hash"), (0, u "(Ljava/lang/String;)J")] 6

def k9m0 : Method := { name := "<init>", desc := "()V", sig := { parameters := [], returnType := none }, accessFlags := 2, code := none }
def k9c1 : Code := { maxStack := 5, maxLocals := 4, code := prog_46_method_9_code, exceptionTable := #[], attributes := #[] }
def k9m1 : Method := { name := "hash", desc := "(Ljava/lang/String;)J", sig := { parameters := [(.object "java/lang/String")], returnType := some .long }, accessFlags := 8, code := some k9c1 }
/-- com/example/concordat/concordat/identity/Text -/
def k9 : Class := { plain "com/example/concordat/concordat/identity/Text" (some 0) with
  accessFlags := 48
  interfaces := #[]
  cf := some (fileOf pool9 33 #[] #[{ accessFlags := 2, nameIndex := 5, descriptorIndex := 6, attributes := #[] }, { accessFlags := 8, nameIndex := 142, descriptorIndex := 143, attributes := #[] }] 48 2 #[] #[{ accessFlags := 26, nameIndex := 128, descriptorIndex := 129, attributes := #[] }, { accessFlags := 26, nameIndex := 131, descriptorIndex := 132, attributes := #[] }, { accessFlags := 26, nameIndex := 134, descriptorIndex := 135, attributes := #[] }])
  fields := #[{ name := "SIMILAR", type := .double, accessFlags := 26, slot := 0, constantValue := 0 }, { name := "LONGEST", type := .int, accessFlags := 26, slot := 1, constantValue := 0 }, { name := "SOUNDEX_CODES", type := (.object "java/lang/String"), accessFlags := 26, slot := 2, constantValue := 0 }]
  methods := #[k9m0, k9m1]
  instanceTypes := #[]
  staticTypes := #[.double, .int, (.object "java/lang/String")]
  resolved := Array.replicate 150 none
  statics := none }

def pool10 : Array CpInfo := pool [(1, .class_ 2), (0, u "java/lang/String"), (1, .class_ 6), (1, u "java/lang/Object"), (0, u "<init>"), (0, u "()V"), (0, .methodref 1 10), (0, .nameAndType 11 12), (0, u "checkIndex"), (0, u "(II)V"), (1, .class_ 16), (1, u "java/lang/StringLatin1"), (36, u "([BI)C"), (67, u "$assertionsDisabled"), (0, u "Z"), (98, .class_ 223), (1, u "java/lang/StringLatin1$LinesSpliterator"), (28, u "charAt"), (137, .class_ 391), (0, u "java/lang/StringLatin1$CharsSpliterator")] 3

def k10m0 : Method := { name := "<init>", desc := "()V", sig := { parameters := [], returnType := none }, accessFlags := 0, code := none }
def k10c1 : Code := { maxStack := 2, maxLocals := 2, code := jdk_43_method_2_code, exceptionTable := #[], attributes := #[] }
def k10m1 : Method := { name := "charAt", desc := "([BI)C", sig := { parameters := [(.array .byte), .int], returnType := some .char }, accessFlags := 9, code := some k10c1 }
/-- java/lang/StringLatin1 -/
def k10 : Class := { plain "java/lang/StringLatin1" (some 0) with
  accessFlags := 48
  interfaces := #[]
  cf := some (fileOf pool10 14 #[.nestMembers #[390, 221]] #[{ accessFlags := 0, nameIndex := 7, descriptorIndex := 8, attributes := #[] }, { accessFlags := 9, nameIndex := 252, descriptorIndex := 53, attributes := #[] }] 48 4 #[] #[{ accessFlags := 4120, nameIndex := 121, descriptorIndex := 122, attributes := #[] }])
  fields := #[{ name := "$assertionsDisabled", type := .boolean, accessFlags := 4120, slot := 0, constantValue := 0 }]
  methods := #[k10m0, k10m1]
  instanceTypes := #[]
  staticTypes := #[.boolean]
  resolved := Array.replicate 395 none
  statics := none }

def pool11 : Array CpInfo := pool [(2, .class_ 4), (1, u "java/lang/Object"), (0, u "<init>"), (0, u "()V"), (17, .class_ 26), (1, u "jdk/internal/util/Preconditions"), (6, u "checkIndex"), (21, .class_ 56), (0, u "jdk/internal/util/Preconditions$4"), (57, .class_ 115), (0, u "jdk/internal/util/Preconditions$1"), (7, u "SIOOBE_FORMATTER"), (0, u "Ljava/util/function/BiFunction;"), (0, .class_ 126), (0, u "jdk/internal/util/Preconditions$2"), (3, u "AIOOBE_FORMATTER"), (0, .class_ 132), (0, u "jdk/internal/util/Preconditions$3"), (3, u "IOOBE_FORMATTER"), (41, u "(IILjava/util/function/BiFunction;)I")] 15

def k11m0 : Method := { name := "<init>", desc := "()V", sig := { parameters := [], returnType := none }, accessFlags := 1, code := none }
def k11c1 : Code := { maxStack := 3, maxLocals := 3, code := jdk_41_method_11_code, exceptionTable := #[], attributes := #[] }
def k11m1 : Method := { name := "checkIndex", desc := "(IILjava/util/function/BiFunction;)I", sig := { parameters := [.int, .int, (.object "java/util/function/BiFunction")], returnType := some .int }, accessFlags := 9, code := some k11c1 }
/-- jdk/internal/util/Preconditions -/
def k11 : Class := { plain "jdk/internal/util/Preconditions" (some 0) with
  accessFlags := 33
  interfaces := #[]
  cf := some (fileOf pool11 24 #[.nestMembers #[55, 131, 125, 114]] #[{ accessFlags := 1, nameIndex := 5, descriptorIndex := 6, attributes := #[] }, { accessFlags := 9, nameIndex := 33, descriptorIndex := 178, attributes := #[] }] 33 2 #[] #[{ accessFlags := 25, nameIndex := 123, descriptorIndex := 124, attributes := #[] }, { accessFlags := 25, nameIndex := 130, descriptorIndex := 124, attributes := #[] }, { accessFlags := 25, nameIndex := 136, descriptorIndex := 124, attributes := #[] }])
  fields := #[{ name := "SIOOBE_FORMATTER", type := (.object "java/util/function/BiFunction"), accessFlags := 25, slot := 0, constantValue := 0 }, { name := "AIOOBE_FORMATTER", type := (.object "java/util/function/BiFunction"), accessFlags := 25, slot := 1, constantValue := 0 }, { name := "IOOBE_FORMATTER", type := (.object "java/util/function/BiFunction"), accessFlags := 25, slot := 2, constantValue := 0 }]
  methods := #[k11m0, k11m1]
  instanceTypes := #[]
  staticTypes := #[(.object "java/util/function/BiFunction"), (.object "java/util/function/BiFunction"), (.object "java/util/function/BiFunction")]
  resolved := Array.replicate 194 none
  statics := some 2 }

def pool12 : Array CpInfo := pool [(9, u "<init>"), (6, .class_ 18), (1, u "java/lang/Object"), (0, u "()V"), (1, .class_ 23), (1, u "jdk/internal/util/ArraysSupport"), (0, u "LOG2_ARRAY_LONG_INDEX_SCALE"), (0, u "I"), (2, u "U"), (0, u "Ljdk/internal/misc/Unsafe;"), (8, u "BIG_ENDIAN"), (0, u "Z"), (8, u "LOG2_BYTE_BIT_SIZE"), (4, u "LOG2_ARRAY_INT_INDEX_SCALE"), (54, u "JLA"), (0, u "Ljdk/internal/access/JavaLangAccess;"), (11, u "LOG2_ARRAY_BOOLEAN_INDEX_SCALE"), (9, u "LOG2_ARRAY_BYTE_INDEX_SCALE"), (5, u "LOG2_ARRAY_CHAR_INDEX_SCALE"), (5, u "LOG2_ARRAY_SHORT_INDEX_SCALE"), (18, u "LOG2_ARRAY_FLOAT_INDEX_SCALE"), (24, u "LOG2_ARRAY_DOUBLE_INDEX_SCALE"), (89, u "T_BOOLEAN"), (2, u "T_CHAR"), (1, u "T_FLOAT"), (1, u "T_DOUBLE"), (1, u "T_BYTE"), (1, u "T_SHORT"), (1, u "T_INT"), (1, u "T_LONG"), (1, u "SOFT_MAX_ARRAY_LENGTH")] 83

def k12m0 : Method := { name := "<init>", desc := "()V", sig := { parameters := [], returnType := none }, accessFlags := 2, code := none }
/-- jdk/internal/util/ArraysSupport -/
def k12 : Class := { plain "jdk/internal/util/ArraysSupport" (some 0) with
  accessFlags := 33
  interfaces := #[]
  cf := some (fileOf pool12 21 #[] #[{ accessFlags := 2, nameIndex := 9, descriptorIndex := 19, attributes := #[] }] 33 16 #[] #[{ accessFlags := 24, nameIndex := 28, descriptorIndex := 29, attributes := #[] }, { accessFlags := 26, nameIndex := 38, descriptorIndex := 39, attributes := #[] }, { accessFlags := 25, nameIndex := 121, descriptorIndex := 25, attributes := #[] }, { accessFlags := 25, nameIndex := 131, descriptorIndex := 25, attributes := #[] }, { accessFlags := 25, nameIndex := 137, descriptorIndex := 25, attributes := #[] }, { accessFlags := 25, nameIndex := 143, descriptorIndex := 25, attributes := #[] }, { accessFlags := 25, nameIndex := 53, descriptorIndex := 25, attributes := #[] }, { accessFlags := 25, nameIndex := 24, descriptorIndex := 25, attributes := #[] }, { accessFlags := 25, nameIndex := 162, descriptorIndex := 25, attributes := #[] }, { accessFlags := 25, nameIndex := 187, descriptorIndex := 25, attributes := #[] }, { accessFlags := 26, nameIndex := 48, descriptorIndex := 25, attributes := #[] }, { accessFlags := 25, nameIndex := 277, descriptorIndex := 25, attributes := #[] }, { accessFlags := 25, nameIndex := 280, descriptorIndex := 25, attributes := #[] }, { accessFlags := 25, nameIndex := 282, descriptorIndex := 25, attributes := #[] }, { accessFlags := 25, nameIndex := 284, descriptorIndex := 25, attributes := #[] }, { accessFlags := 25, nameIndex := 286, descriptorIndex := 25, attributes := #[] }, { accessFlags := 25, nameIndex := 288, descriptorIndex := 25, attributes := #[] }, { accessFlags := 25, nameIndex := 290, descriptorIndex := 25, attributes := #[] }, { accessFlags := 25, nameIndex := 292, descriptorIndex := 25, attributes := #[] }, { accessFlags := 26, nameIndex := 108, descriptorIndex := 109, attributes := #[] }, { accessFlags := 25, nameIndex := 294, descriptorIndex := 25, attributes := #[] }])
  fields := #[{ name := "U", type := (.object "jdk/internal/misc/Unsafe"), accessFlags := 24, slot := 0, constantValue := 0 }, { name := "BIG_ENDIAN", type := .boolean, accessFlags := 26, slot := 1, constantValue := 0 }, { name := "LOG2_ARRAY_BOOLEAN_INDEX_SCALE", type := .int, accessFlags := 25, slot := 2, constantValue := 0 }, { name := "LOG2_ARRAY_BYTE_INDEX_SCALE", type := .int, accessFlags := 25, slot := 3, constantValue := 0 }, { name := "LOG2_ARRAY_CHAR_INDEX_SCALE", type := .int, accessFlags := 25, slot := 4, constantValue := 0 }, { name := "LOG2_ARRAY_SHORT_INDEX_SCALE", type := .int, accessFlags := 25, slot := 5, constantValue := 0 }, { name := "LOG2_ARRAY_INT_INDEX_SCALE", type := .int, accessFlags := 25, slot := 6, constantValue := 0 }, { name := "LOG2_ARRAY_LONG_INDEX_SCALE", type := .int, accessFlags := 25, slot := 7, constantValue := 0 }, { name := "LOG2_ARRAY_FLOAT_INDEX_SCALE", type := .int, accessFlags := 25, slot := 8, constantValue := 0 }, { name := "LOG2_ARRAY_DOUBLE_INDEX_SCALE", type := .int, accessFlags := 25, slot := 9, constantValue := 0 }, { name := "LOG2_BYTE_BIT_SIZE", type := .int, accessFlags := 26, slot := 10, constantValue := 0 }, { name := "T_BOOLEAN", type := .int, accessFlags := 25, slot := 11, constantValue := 0 }, { name := "T_CHAR", type := .int, accessFlags := 25, slot := 12, constantValue := 0 }, { name := "T_FLOAT", type := .int, accessFlags := 25, slot := 13, constantValue := 0 }, { name := "T_DOUBLE", type := .int, accessFlags := 25, slot := 14, constantValue := 0 }, { name := "T_BYTE", type := .int, accessFlags := 25, slot := 15, constantValue := 0 }, { name := "T_SHORT", type := .int, accessFlags := 25, slot := 16, constantValue := 0 }, { name := "T_INT", type := .int, accessFlags := 25, slot := 17, constantValue := 0 }, { name := "T_LONG", type := .int, accessFlags := 25, slot := 18, constantValue := 0 }, { name := "JLA", type := (.object "jdk/internal/access/JavaLangAccess"), accessFlags := 26, slot := 19, constantValue := 0 }, { name := "SOFT_MAX_ARRAY_LENGTH", type := .int, accessFlags := 25, slot := 20, constantValue := 0 }]
  methods := #[k12m0]
  instanceTypes := #[]
  staticTypes := #[(.object "jdk/internal/misc/Unsafe"), .boolean, .int, .int, .int, .int, .int, .int, .int, .int, .int, .int, .int, .int, .int, .int, .int, .int, .int, (.object "jdk/internal/access/JavaLangAccess"), .int]
  resolved := Array.replicate 378 none
  statics := none }

def pool13 : Array CpInfo := pool [(1, u "java/lang/Cloneable"), (0, .class_ 1), (0, u "java/lang/Object"), (0, .class_ 3)] 3

/-- java/lang/Cloneable -/
def k13 : Class := { plain "java/lang/Cloneable" (some 0) with
  accessFlags := 1537
  interfaces := #[]
  cf := some (fileOf pool13 2 #[] #[] 1537 4 #[] #[])
  fields := #[]
  methods := #[]
  instanceTypes := #[]
  staticTypes := #[]
  resolved := Array.replicate 8 none
  statics := none }

/-- the primitive byte -/
def k14 : Class := { plain "byte" none with kind := .primitive 'B', accessFlags := 0x411 }
/-- [B -/
def k15 : Class := { plain "[B" (some 0) with kind := .array 14 .byte, interfaces := #[13, 2], accessFlags := 1041 }

/-- the primitive char -/
def k16 : Class := { plain "char" none with kind := .primitive 'C', accessFlags := 0x411 }
/-- [C -/
def k17 : Class := { plain "[C" (some 0) with kind := .array 16 .char, interfaces := #[13, 2], accessFlags := 1041 }

/-- the primitive int -/
def k18 : Class := { plain "int" none with kind := .primitive 'I', accessFlags := 0x411 }
/-- [I -/
def k19 : Class := { plain "[I" (some 0) with kind := .array 18 .int, interfaces := #[13, 2], accessFlags := 1041 }

def heap : Heap := #[{ cls := 7, slots := #[.long 0, .int 1, .null, .int 0, .null, .int 0, .int 0], vm := .statics 7 },
  { cls := 8, slots := #[.int 0, .int 8, .int 0, .int 1], vm := .statics 8 },
  { cls := 11, slots := #[.null, .null, .null], vm := .statics 11 }]
def classes : Array Class := #[k0, k1, k2, k3, k4, k5, k6, k7, k8, k9, k10, k11, k12, k13, k14, k15, k16, k17, k18, k19]
def interned : List (Array UInt16 × Addr) := []
def slotsUsed : Nat := 14
def theMethod : MethodId := ⟨1, 2⟩
def args0 : Array Value := #[.int 65, .int 300, .int 66, .int 67]
def aboutOver (below : List Frame) : State where
  vm := { classes := classes, interned := interned.toArray }
  heap := heap
  slotsUsed := slotsUsed
  threads := #[{ frames := .invoking theMethod args0 :: below }]
def below0 : List Frame := [.native { method := ⟨0, 0⟩, args := #[] }]
def about1 : State := aboutOver below0
def p0 : Program := .bare "" "" ""
def e0 : Env := launch0.env 0 0 0
theorem w_frames : about1.frames = Frame.invoking theMethod args0 :: below0 := rfl
set_option maxRecDepth 65536 in
theorem w_args : argsFit about1.vm theMethod args0 = true := by decide +kernel
set_option maxRecDepth 65536 in
theorem w_heap : heapFits about1 = true := by decide +kernel
set_option maxRecDepth 65536 in
theorem w_runnable : about1.curStatus? = some .runnable := by decide +kernel
set_option maxRecDepth 65536 in
theorem w_alone : about1.alone = true := by decide +kernel
set_option maxRecDepth 65536 in
theorem w_named : about1.methodNamed? x = some theMethod := by decide +kernel
set_option maxRecDepth 65536 in
theorem w_hears : about1.hears theMethod below0 = true := by decide +kernel
set_option maxRecDepth 65536 in
theorem w_ripe : about1.ripe theMethod args0 below0 = true := by decide +kernel
theorem w_running : about1.status = .running := rfl
set_option maxRecDepth 65536 in
theorem w_room : about1.hasRoom e0.platform room_1 = true :=
  launch0.hasRoom_least _ room_1 (by decide +kernel) (by decide +kernel) (by decide +kernel) (by decide +kernel) (by decide +kernel) (by decide +kernel)
theorem allAtoms_all (ts : List Jvm.Cond) (a : Array Jvm.Value) (st : Jvm.State) : (allAtoms ts).before a st = ts.all (fun c => c.before a st) := by
  induction ts with
  | nil => rfl
  | cons c t ih =>
    show (Jvm.Cond.and c (allAtoms t)).before a st = _
    rw [Jvm.Cond.before_and, ih, List.all_cons]
def words1 : List Jvm.Cond := Jvm.Cond.code x code maxLocals ret :: tables_1
/-- a 'code' word, met by the world's own term for the bytes: nothing is compared byte by byte -/
theorem code_word {y : MethodName} {bytes : ByteArray} {mx : Nat} {rt : Option FieldType} {a : Array Value} {s : State} {m : MethodId} {meth : Method} {c : Code} (h1 : s.methodNamed? y = some m) (h2 : s.vm.method? m = some meth) (h3 : meth.code = some c) (h4 : c.code = bytes)
    (h5 : (c.maxLocals == mx && c.exceptionTable.isEmpty && decide (c.maxStack ≤ mostOperands) && decide (meth.sig.returnType = rt) && !meth.locks && decide (parseMethodDescriptor y.desc = some meth.sig)) = true) : (Jvm.Cond.code y bytes mx rt).before a s = true := by
  simp only [Bool.and_eq_true, beq_iff_eq, Bool.not_eq_true', decide_eq_true_eq] at h5
  obtain ⟨⟨⟨⟨⟨g1, g2⟩, g3⟩, g4⟩, g5⟩, g6⟩ := h5
  simp [Cond.before, Cond.holds, Cond.value, h1, h2, h3, h4, g1, g2, g3, g4, g5, g6]
def isCode : Jvm.Cond → Bool
  | .code _ _ _ _ => true
  | _ => false
theorem all_split {L : List Jvm.Cond} {P : Jvm.Cond → Bool} (h1 : L.all (fun c => isCode c || P c) = true) (h2 : ∀ c ∈ L.filter isCode, P c = true) : L.all P = true := by
  refine List.all_eq_true.mpr fun c hc => ?_
  have h := List.all_eq_true.mp h1 c hc
  rcases Bool.eq_false_or_eq_true (isCode c) with hi | hi
  · exact h2 c (List.mem_filter.mpr ⟨hc, hi⟩)
  · simpa [hi] using h
set_option maxRecDepth 65536 in
theorem w_c0 : (Jvm.Cond.code x code maxLocals ret).before args0 about1 = true := code_word (m := ⟨1, 2⟩) (meth := k1m2) (c := k1c2) (by decide +kernel) rfl rfl rfl (by decide +kernel)
set_option maxRecDepth 65536 in
theorem w_c1 : (Jvm.Cond.code ({ cls := "java/lang/String", name := "<init>", desc := "([C)V" } : Jvm.MethodName) jdk_42_method_3_code (2 : Nat) (Option.none : Option Jvm.ClassFile.FieldType)).before args0 about1 = true := code_word (m := ⟨7, 1⟩) (meth := k7m1) (c := k7c1) (by decide +kernel) rfl rfl rfl (by decide +kernel)
set_option maxRecDepth 65536 in
theorem w_c2 : (Jvm.Cond.code ({ cls := "java/lang/String", name := "<init>", desc := "([CIILjava/lang/Void;)V" } : Jvm.MethodName) jdk_42_method_149_code (6 : Nat) (Option.none : Option Jvm.ClassFile.FieldType)).before args0 about1 = true := code_word (m := ⟨7, 4⟩) (meth := k7m4) (c := k7c4) (by decide +kernel) rfl rfl rfl (by decide +kernel)
set_option maxRecDepth 65536 in
theorem w_c3 : (Jvm.Cond.code ({ cls := "java/lang/Object", name := "<init>", desc := "()V" } : Jvm.MethodName) object_method_1_code (1 : Nat) (Option.none : Option Jvm.ClassFile.FieldType)).before args0 about1 = true := code_word (m := ⟨0, 0⟩) (meth := k0m0) (c := k0c0) (by decide +kernel) rfl rfl rfl (by decide +kernel)
set_option maxRecDepth 65536 in
theorem w_c4 : (Jvm.Cond.code ({ cls := "java/lang/StringUTF16", name := "compress", desc := "([CII)[B" } : Jvm.MethodName) jdk_52_method_16_code (6 : Nat) (Option.some (Jvm.ClassFile.FieldType.array Jvm.ClassFile.FieldType.byte))).before args0 about1 = true := code_word (m := ⟨8, 8⟩) (meth := k8m8) (c := k8c8) (by decide +kernel) rfl rfl rfl (by decide +kernel)
set_option maxRecDepth 65536 in
theorem w_c5 : (Jvm.Cond.code ({ cls := "java/lang/StringUTF16", name := "compress", desc := "([CI[BII)I" } : Jvm.MethodName) jdk_52_method_21_code (7 : Nat) (Option.some Jvm.ClassFile.FieldType.int)).before args0 about1 = true := code_word (m := ⟨8, 9⟩) (meth := k8m9) (c := k8c9) (by decide +kernel) rfl rfl rfl (by decide +kernel)
set_option maxRecDepth 65536 in
theorem w_c6 : (Jvm.Cond.code ({ cls := "java/lang/StringUTF16", name := "coderFromArrayLen", desc := "([BI)B" } : Jvm.MethodName) jdk_52_method_15_code (2 : Nat) (Option.some Jvm.ClassFile.FieldType.byte)).before args0 about1 = true := code_word (m := ⟨8, 7⟩) (meth := k8m7) (c := k8c7) (by decide +kernel) rfl rfl rfl (by decide +kernel)
set_option maxRecDepth 65536 in
theorem w_c7 : (Jvm.Cond.code ({ cls := "com/example/concordat/concordat/identity/Text", name := "hash", desc := "(Ljava/lang/String;)J" } : Jvm.MethodName) prog_46_method_9_code (4 : Nat) (Option.some Jvm.ClassFile.FieldType.long)).before args0 about1 = true := code_word (m := ⟨9, 1⟩) (meth := k9m1) (c := k9c1) (by decide +kernel) rfl rfl rfl (by decide +kernel)
set_option maxRecDepth 65536 in
theorem w_c8 : (Jvm.Cond.code ({ cls := "java/lang/String", name := "length", desc := "()I" } : Jvm.MethodName) jdk_42_method_54_code (1 : Nat) (Option.some Jvm.ClassFile.FieldType.int)).before args0 about1 = true := code_word (m := ⟨7, 2⟩) (meth := k7m2) (c := k7c2) (by decide +kernel) rfl rfl rfl (by decide +kernel)
set_option maxRecDepth 65536 in
theorem w_c9 : (Jvm.Cond.code ({ cls := "java/lang/String", name := "coder", desc := "()B" } : Jvm.MethodName) jdk_42_method_152_code (1 : Nat) (Option.some Jvm.ClassFile.FieldType.byte)).before args0 about1 = true := code_word (m := ⟨7, 5⟩) (meth := k7m5) (c := k7c5) (by decide +kernel) rfl rfl rfl (by decide +kernel)
set_option maxRecDepth 65536 in
theorem w_c10 : (Jvm.Cond.code ({ cls := "com/example/concordat/concordat/identity/TextHashPinLaw", name := "unmix", desc := "(J)J" } : Jvm.MethodName) method_2_code (2 : Nat) (Option.some Jvm.ClassFile.FieldType.long)).before args0 about1 = true := code_word (m := ⟨1, 1⟩) (meth := k1m1) (c := k1c1) (by decide +kernel) rfl rfl rfl (by decide +kernel)
set_option maxRecDepth 65536 in
theorem w_c11 : (Jvm.Cond.code ({ cls := "java/lang/String", name := "charAt", desc := "(I)C" } : Jvm.MethodName) jdk_42_method_56_code (2 : Nat) (Option.some Jvm.ClassFile.FieldType.char)).before args0 about1 = true := code_word (m := ⟨7, 3⟩) (meth := k7m3) (c := k7c3) (by decide +kernel) rfl rfl rfl (by decide +kernel)
set_option maxRecDepth 65536 in
theorem w_c12 : (Jvm.Cond.code ({ cls := "java/lang/String", name := "isLatin1", desc := "()Z" } : Jvm.MethodName) jdk_42_method_154_code (1 : Nat) (Option.some Jvm.ClassFile.FieldType.boolean)).before args0 about1 = true := code_word (m := ⟨7, 6⟩) (meth := k7m6) (c := k7c6) (by decide +kernel) rfl rfl rfl (by decide +kernel)
set_option maxRecDepth 65536 in
theorem w_c13 : (Jvm.Cond.code ({ cls := "java/lang/StringLatin1", name := "charAt", desc := "([BI)C" } : Jvm.MethodName) jdk_43_method_2_code (2 : Nat) (Option.some Jvm.ClassFile.FieldType.char)).before args0 about1 = true := code_word (m := ⟨10, 1⟩) (meth := k10m1) (c := k10c1) (by decide +kernel) rfl rfl rfl (by decide +kernel)
set_option maxRecDepth 65536 in
theorem w_c14 : (Jvm.Cond.code ({ cls := "java/lang/String", name := "checkIndex", desc := "(II)V" } : Jvm.MethodName) jdk_42_method_155_code (2 : Nat) (Option.none : Option Jvm.ClassFile.FieldType)).before args0 about1 = true := code_word (m := ⟨7, 7⟩) (meth := k7m7) (c := k7c7) (by decide +kernel) rfl rfl rfl (by decide +kernel)
set_option maxRecDepth 65536 in
theorem w_c15 : (Jvm.Cond.code ({ cls := "jdk/internal/util/Preconditions", name := "checkIndex", desc := "(IILjava/util/function/BiFunction;)I" } : Jvm.MethodName) jdk_41_method_11_code (3 : Nat) (Option.some Jvm.ClassFile.FieldType.int)).before args0 about1 = true := code_word (m := ⟨11, 1⟩) (meth := k11m1) (c := k11c1) (by decide +kernel) rfl rfl rfl (by decide +kernel)
set_option maxRecDepth 65536 in
theorem w_c16 : (Jvm.Cond.code ({ cls := "java/lang/StringUTF16", name := "toBytes", desc := "([CII)[B" } : Jvm.MethodName) jdk_52_method_14_code (5 : Nat) (Option.some (Jvm.ClassFile.FieldType.array Jvm.ClassFile.FieldType.byte))).before args0 about1 = true := code_word (m := ⟨8, 6⟩) (meth := k8m6) (c := k8c6) (by decide +kernel) rfl rfl rfl (by decide +kernel)
set_option maxRecDepth 65536 in
theorem w_c17 : (Jvm.Cond.code ({ cls := "java/lang/StringUTF16", name := "newBytesFor", desc := "(I)[B" } : Jvm.MethodName) jdk_52_method_2_code (1 : Nat) (Option.some (Jvm.ClassFile.FieldType.array Jvm.ClassFile.FieldType.byte))).before args0 about1 = true := code_word (m := ⟨8, 1⟩) (meth := k8m1) (c := k8c1) (by decide +kernel) rfl rfl rfl (by decide +kernel)
set_option maxRecDepth 65536 in
theorem w_c18 : (Jvm.Cond.code ({ cls := "java/lang/StringUTF16", name := "newBytesLength", desc := "(I)I" } : Jvm.MethodName) jdk_52_method_3_code (1 : Nat) (Option.some Jvm.ClassFile.FieldType.int)).before args0 about1 = true := code_word (m := ⟨8, 2⟩) (meth := k8m2) (c := k8c2) (by decide +kernel) rfl rfl rfl (by decide +kernel)
set_option maxRecDepth 65536 in
theorem w_c19 : (Jvm.Cond.code ({ cls := "java/lang/StringUTF16", name := "putChar", desc := "([BII)V" } : Jvm.MethodName) jdk_52_method_4_code (3 : Nat) (Option.none : Option Jvm.ClassFile.FieldType)).before args0 about1 = true := code_word (m := ⟨8, 3⟩) (meth := k8m3) (c := k8c3) (by decide +kernel) rfl rfl rfl (by decide +kernel)
set_option maxRecDepth 65536 in
theorem w_c20 : (Jvm.Cond.code ({ cls := "java/lang/StringUTF16", name := "getChar", desc := "([BI)C" } : Jvm.MethodName) jdk_52_method_5_code (2 : Nat) (Option.some Jvm.ClassFile.FieldType.char)).before args0 about1 = true := code_word (m := ⟨8, 4⟩) (meth := k8m4) (c := k8c4) (by decide +kernel) rfl rfl rfl (by decide +kernel)
set_option maxRecDepth 65536 in
theorem w_c21 : (Jvm.Cond.code ({ cls := "java/lang/StringUTF16", name := "charAt", desc := "([BI)C" } : Jvm.MethodName) jdk_52_method_83_code (2 : Nat) (Option.some Jvm.ClassFile.FieldType.char)).before args0 about1 = true := code_word (m := ⟨8, 10⟩) (meth := k8m10) (c := k8c10) (by decide +kernel) rfl rfl rfl (by decide +kernel)
set_option maxRecDepth 65536 in
theorem w_c22 : (Jvm.Cond.code ({ cls := "java/lang/StringUTF16", name := "checkIndex", desc := "(I[B)V" } : Jvm.MethodName) jdk_52_method_91_code (2 : Nat) (Option.none : Option Jvm.ClassFile.FieldType)).before args0 about1 = true := code_word (m := ⟨8, 11⟩) (meth := k8m11) (c := k8c11) (by decide +kernel) rfl rfl rfl (by decide +kernel)
set_option maxRecDepth 65536 in
theorem w_c23 : (Jvm.Cond.code ({ cls := "java/lang/StringUTF16", name := "length", desc := "([B)I" } : Jvm.MethodName) jdk_52_method_6_code (1 : Nat) (Option.some Jvm.ClassFile.FieldType.int)).before args0 about1 = true := code_word (m := ⟨8, 5⟩) (meth := k8m5) (c := k8c5) (by decide +kernel) rfl rfl rfl (by decide +kernel)
def codes1 : List Jvm.Cond := [Jvm.Cond.code x code maxLocals ret, Jvm.Cond.code ({ cls := "java/lang/String", name := "<init>", desc := "([C)V" } : Jvm.MethodName) jdk_42_method_3_code (2 : Nat) (Option.none : Option Jvm.ClassFile.FieldType), Jvm.Cond.code ({ cls := "java/lang/String", name := "<init>", desc := "([CIILjava/lang/Void;)V" } : Jvm.MethodName) jdk_42_method_149_code (6 : Nat) (Option.none : Option Jvm.ClassFile.FieldType), Jvm.Cond.code ({ cls := "java/lang/Object", name := "<init>", desc := "()V" } : Jvm.MethodName) object_method_1_code (1 : Nat) (Option.none : Option Jvm.ClassFile.FieldType), Jvm.Cond.code ({ cls := "java/lang/StringUTF16", name := "compress", desc := "([CII)[B" } : Jvm.MethodName) jdk_52_method_16_code (6 : Nat) (Option.some (Jvm.ClassFile.FieldType.array Jvm.ClassFile.FieldType.byte)), Jvm.Cond.code ({ cls := "java/lang/StringUTF16", name := "compress", desc := "([CI[BII)I" } : Jvm.MethodName) jdk_52_method_21_code (7 : Nat) (Option.some Jvm.ClassFile.FieldType.int), Jvm.Cond.code ({ cls := "java/lang/StringUTF16", name := "coderFromArrayLen", desc := "([BI)B" } : Jvm.MethodName) jdk_52_method_15_code (2 : Nat) (Option.some Jvm.ClassFile.FieldType.byte), Jvm.Cond.code ({ cls := "com/example/concordat/concordat/identity/Text", name := "hash", desc := "(Ljava/lang/String;)J" } : Jvm.MethodName) prog_46_method_9_code (4 : Nat) (Option.some Jvm.ClassFile.FieldType.long), Jvm.Cond.code ({ cls := "java/lang/String", name := "length", desc := "()I" } : Jvm.MethodName) jdk_42_method_54_code (1 : Nat) (Option.some Jvm.ClassFile.FieldType.int), Jvm.Cond.code ({ cls := "java/lang/String", name := "coder", desc := "()B" } : Jvm.MethodName) jdk_42_method_152_code (1 : Nat) (Option.some Jvm.ClassFile.FieldType.byte), Jvm.Cond.code ({ cls := "com/example/concordat/concordat/identity/TextHashPinLaw", name := "unmix", desc := "(J)J" } : Jvm.MethodName) method_2_code (2 : Nat) (Option.some Jvm.ClassFile.FieldType.long), Jvm.Cond.code ({ cls := "java/lang/String", name := "charAt", desc := "(I)C" } : Jvm.MethodName) jdk_42_method_56_code (2 : Nat) (Option.some Jvm.ClassFile.FieldType.char), Jvm.Cond.code ({ cls := "java/lang/String", name := "isLatin1", desc := "()Z" } : Jvm.MethodName) jdk_42_method_154_code (1 : Nat) (Option.some Jvm.ClassFile.FieldType.boolean), Jvm.Cond.code ({ cls := "java/lang/StringLatin1", name := "charAt", desc := "([BI)C" } : Jvm.MethodName) jdk_43_method_2_code (2 : Nat) (Option.some Jvm.ClassFile.FieldType.char), Jvm.Cond.code ({ cls := "java/lang/String", name := "checkIndex", desc := "(II)V" } : Jvm.MethodName) jdk_42_method_155_code (2 : Nat) (Option.none : Option Jvm.ClassFile.FieldType), Jvm.Cond.code ({ cls := "jdk/internal/util/Preconditions", name := "checkIndex", desc := "(IILjava/util/function/BiFunction;)I" } : Jvm.MethodName) jdk_41_method_11_code (3 : Nat) (Option.some Jvm.ClassFile.FieldType.int), Jvm.Cond.code ({ cls := "java/lang/StringUTF16", name := "toBytes", desc := "([CII)[B" } : Jvm.MethodName) jdk_52_method_14_code (5 : Nat) (Option.some (Jvm.ClassFile.FieldType.array Jvm.ClassFile.FieldType.byte)), Jvm.Cond.code ({ cls := "java/lang/StringUTF16", name := "newBytesFor", desc := "(I)[B" } : Jvm.MethodName) jdk_52_method_2_code (1 : Nat) (Option.some (Jvm.ClassFile.FieldType.array Jvm.ClassFile.FieldType.byte)), Jvm.Cond.code ({ cls := "java/lang/StringUTF16", name := "newBytesLength", desc := "(I)I" } : Jvm.MethodName) jdk_52_method_3_code (1 : Nat) (Option.some Jvm.ClassFile.FieldType.int), Jvm.Cond.code ({ cls := "java/lang/StringUTF16", name := "putChar", desc := "([BII)V" } : Jvm.MethodName) jdk_52_method_4_code (3 : Nat) (Option.none : Option Jvm.ClassFile.FieldType), Jvm.Cond.code ({ cls := "java/lang/StringUTF16", name := "getChar", desc := "([BI)C" } : Jvm.MethodName) jdk_52_method_5_code (2 : Nat) (Option.some Jvm.ClassFile.FieldType.char), Jvm.Cond.code ({ cls := "java/lang/StringUTF16", name := "charAt", desc := "([BI)C" } : Jvm.MethodName) jdk_52_method_83_code (2 : Nat) (Option.some Jvm.ClassFile.FieldType.char), Jvm.Cond.code ({ cls := "java/lang/StringUTF16", name := "checkIndex", desc := "(I[B)V" } : Jvm.MethodName) jdk_52_method_91_code (2 : Nat) (Option.none : Option Jvm.ClassFile.FieldType), Jvm.Cond.code ({ cls := "java/lang/StringUTF16", name := "length", desc := "([B)I" } : Jvm.MethodName) jdk_52_method_6_code (1 : Nat) (Option.some Jvm.ClassFile.FieldType.int)]
set_option maxRecDepth 65536 in
theorem codes_eq : words1.filter isCode = codes1 := rfl
theorem w_codes : ∀ c ∈ words1.filter isCode, c.before args0 about1 = true := by
  rw [codes_eq]
  intro c hc
  simp only [codes1, List.mem_cons, List.not_mem_nil, or_false] at hc
  rcases hc with rfl | rfl | rfl | rfl | rfl | rfl | rfl | rfl | rfl | rfl | rfl | rfl | rfl | rfl | rfl | rfl | rfl | rfl | rfl | rfl | rfl | rfl | rfl | rfl
  · exact w_c0
  · exact w_c1
  · exact w_c2
  · exact w_c3
  · exact w_c4
  · exact w_c5
  · exact w_c6
  · exact w_c7
  · exact w_c8
  · exact w_c9
  · exact w_c10
  · exact w_c11
  · exact w_c12
  · exact w_c13
  · exact w_c14
  · exact w_c15
  · exact w_c16
  · exact w_c17
  · exact w_c18
  · exact w_c19
  · exact w_c20
  · exact w_c21
  · exact w_c22
  · exact w_c23
set_option maxRecDepth 65536 in
theorem w_t1 : (words1.take 24).all (fun c => isCode c || c.before args0 about1) = true := by decide +kernel
set_option maxRecDepth 65536 in
theorem w_t2 : ((words1.drop 24).take 24).all (fun c => isCode c || c.before args0 about1) = true := by decide +kernel
set_option maxRecDepth 65536 in
theorem w_t3 : (((words1.drop 24).drop 24).take 24).all (fun c => isCode c || c.before args0 about1) = true := by decide +kernel
set_option maxRecDepth 65536 in
theorem w_t4 : ((((words1.drop 24).drop 24).drop 24).take 24).all (fun c => isCode c || c.before args0 about1) = true := by decide +kernel
set_option maxRecDepth 65536 in
theorem w_t5 : ((((words1.drop 24).drop 24).drop 24).drop 24).all (fun c => isCode c || c.before args0 about1) = true := by decide +kernel
theorem w_tables : (allAtoms (Jvm.Cond.code x code maxLocals ret :: tables_1)).before args0 about1 = true := by
  rw [allAtoms_all]
  show words1.all (fun c => c.before args0 about1) = true
  refine all_split ?_ w_codes
  rw [← List.take_append_drop 24 words1, List.all_append, w_t1, ← List.take_append_drop 24 (words1.drop 24), List.all_append, w_t2, ← List.take_append_drop 24 ((words1.drop 24).drop 24), List.all_append, w_t3, ← List.take_append_drop 24 (((words1.drop 24).drop 24).drop 24), List.all_append, w_t4, w_t5]
  rfl
set_option maxRecDepth 65536 in
theorem w_rest : rest_1_c.before args0 about1 = true := by decide +kernel
set_option maxRecDepth 65536 in
theorem w_case : (Jvm.Cond.and given_1 narrow_1).before args0 about1 = true := by decide +kernel
set_option maxRecDepth 65536 in
theorem w_consts : constsHeld consts_1 about1 := Jvm.Lit.constsHeldB_iff.mp (by decide +kernel)
theorem w_applies : (headSpec (Jvm.Cond.code x code maxLocals ret :: tables_1) room_1).applies x e0.platform about1 = true :=
  (Spec.applies_iff w_frames).mpr ⟨w_running, w_runnable, w_alone, w_named, w_hears, w_ripe, w_room, w_tables⟩
theorem atStart : AtStart classFile x code maxLocals ret World_1 tables_1 room_1 Calls_1 rest_1 Pre_1 launch0 p0 e0 about1 theMethod args0 below0 :=
  ⟨lists_1, trivial, launch0.admits_env _ _ _, launch0.least_env, fairChoices_fair.cas, fairChoices_fair.clock, w_frames, w_args, w_heap, w_applies, ⟨w_consts, trivial⟩, w_rest, w_case⟩
end start1
theorem witness_1 : WitnessClaimed_1 := ⟨start1.p0, start1.e0, start1.about1, start1.theMethod, start1.args0, start1.below0, start1.atStart⟩
end Jvm.Pilot.@@N@@
