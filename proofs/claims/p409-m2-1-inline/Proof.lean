import JvmDerived
import JvmDerived.Pilot.@@N@@Statement
import JvmDerived.Pilot.@@N@@Code
set_option linter.unusedVariables false
set_option linter.unusedSimpArgs false
set_option maxRecDepth 65536
set_option maxHeartbeats 40000000
namespace Jvm.Ow
open Sem ClassFile Op Lib Jvm.Stand Jvm.Free Jvm.LawKit Jvm.RoadKit
abbrev Cx : Type := Program × Launch × Env × State × MethodId × Array Value × List Frame × Method × Code
def Cx.p (x : Cx) : Program := x.1
def Cx.l (x : Cx) : Launch := x.2.1
def Cx.e (x : Cx) : Env := x.2.2.1
def Cx.s (x : Cx) : State := x.2.2.2.1
def Cx.m (x : Cx) : MethodId := x.2.2.2.2.1
def Cx.args (x : Cx) : Array Value := x.2.2.2.2.2.1
def Cx.below (x : Cx) : List Frame := x.2.2.2.2.2.2.1
def Cx.meth (x : Cx) : Method := x.2.2.2.2.2.2.2.1
def Cx.c (x : Cx) : Code := x.2.2.2.2.2.2.2.2
abbrev Bd : Type := MethodName × ByteArray × Nat × Option FieldType × Room × List Cond
abbrev Bd.y (b : Bd) : MethodName := b.1
abbrev Bd.by (b : Bd) : ByteArray := b.2.1
abbrev Bd.ml (b : Bd) : Nat := b.2.2.1
abbrev Bd.rt (b : Bd) : Option FieldType := b.2.2.2.1
abbrev Bd.R (b : Bd) : Room := b.2.2.2.2.1
abbrev Bd.tb (b : Bd) : List Cond := b.2.2.2.2.2
def Wd (Z : State) (tb : List Cond) : Prop := ∃ a0 : Array Value, ∀ d ∈ tb, d.before a0 Z = true
def En (Z : State) (x : Cx) (B : Bd) : Prop := x.p.tables.exec = Jvm.exec ∧ x.c.code = B.by ∧ x.c.maxLocals = B.ml ∧ x.s.vm.findClass B.y.cls = some x.m.cls ∧ x.meth.name = B.y.name ∧ x.meth.sig.returnType = B.rt ∧ Z.Warmed39 x.s.vm ∧ x.meth.locks = false ∧ Wd Z B.tb
def Sp (Z : State) (x : Cx) (B : Bd) (T : State) (k n : Nat) (h : Heap) : Prop := En Z x B ∧ Ext Z.heap h ∧ ∃ locs, Stand x.p x.l x.e B.R x.s x.m x.args x.below x.meth x.c T locs k n ∧ T.heap = h ∧ Fr Z.heap.size locs
def Rn (Q : Option Value → Heap → Prop) (Z : State) (x : Cx) (B : Bd) (T : State) (pc : Nat) (Ls : Array Slot) (st : List Value) : Prop :=
  ∃ t o, Steps x.p.tables x.e x.below (T.setTop (mkF x.m pc Ls st)) t ∧ t.status = .running ∧ Ended t x.below o ∧ ∃ v L, o = .returned v ∧ (Q v t.heap ∧ Ext Z.heap t.heap ∧ Fr Z.heap.size L) ∧ FrameEnd x.s o t L B.R.cells B.R.slots
def Go (Q : Option Value → Heap → Prop) (Z : State) (B : Bd) (k n : Nat) (h : Heap) (pc : Nat) (Ls : Array Slot) (st : List Value) : Prop := ∀ (x : Cx) (T : State), Sp Z x B T k n h → Rn Q Z x B T pc Ls st
def Con (Z : State) (B : Bd) (as : Array Value) (h0 : Heap) (Q : Option Value → Heap → Prop) : Prop :=
  Ext Z.heap h0 → ∀ (l : Launch) (ws : List Cond), MetFree l B.y (head1 (Cond.code B.y B.by B.ml B.rt :: ws) B.R) (fun a U => a = as ∧ Z.Warmed39 U.vm ∧ U.heap = h0) (fun _ _ _ _ _ => True)
    (fun _ U o U' => ∃ v L, o = .returned v ∧ (Q v U'.heap ∧ Ext Z.heap U'.heap ∧ Fr Z.heap.size L) ∧ FrameEnd U o U' L B.R.cells B.R.slots)
def Ary (Z : State) (h : Heap) (a : Addr) (ty : FieldType) (vs : List Value) : Prop := ∃ c : Cell, Arr Z h a c ty ∧ c.slots.toList = vs ∧ vs.length < 2 ^ 31 ∧ ∀ v ∈ vs, fits ty v = true
def Aov (Z : State) (h : Heap) (a : Addr) (C : String) : Prop := ∃ c : Cell, h[a]? = some c ∧ Ovr Z c.cls C
section St
variable {Q : Option Value → Heap → Prop} {Z : State} {x : Cx} {B : Bd} {T : State} {k n : Nat} {h h' : Heap} {pc : Nat} {Ls Ls' : Array Slot} {st rest : List Value}
theorem Wd.w {tb : List Cond} (W : Wd Z tb) : ∃ a0 : Array Value, ∀ {i : Nat} {d : Cond}, tb[i]? = some d → d.before a0 Z = true := by
  obtain ⟨a0, hw⟩ := W; exact ⟨a0, fun hi => hw _ (List.mem_of_getElem? hi)⟩
theorem Con.mk {as : Array Value} {h0 : Heap} (hw : Wd Z B.tb) (hpn : plainFor B.y = true) (hef : ∀ m, entryFrame m as B.ml = mkF m 0 Ls [])
    (body : Go Q Z B 0 0 h0 0 Ls []) : Con Z B as h0 Q := by
  intro hE l ws
  refine MetFree.of_bodySF hpn hisR ?_
  intro p e s m args below meth c s₁ Bd hml0 hP hK
  obtain ⟨rfl, hZ, hh⟩ := hP
  have X0 : Stand p l e B.R s m args below meth c s₁ [] 0 0 := Stand.of_body Bd
  have e0 : s₁.heap = h0 := by rw [← hh, Bd.state]; rfl
  obtain ⟨t, o, h1, h2, h3, h4⟩ := body (p, l, e, s, m, args, below, meth, c) s₁ ⟨⟨Bd.exec, Bd.bytes, hml0, findClass_of_methodNamed Bd.named, (name_of_methodNamed Bd.named Bd.method).1, Bd.returns, hZ, Bd.notSynchronized, hw⟩, hE, [], X0, e0, Fr.nil _⟩
  exact ⟨t, o, castTop (hef m) h1, h2, h3, h4⟩
theorem Con.post {as : Array Value} {h0 : Heap} {Q' : Option Value → Heap → Prop} (C : Con Z B as h0 Q) (q : ∀ v h, Q v h → Q' v h) : Con Z B as h0 Q' := fun hE l ws =>
  (C hE l ws).mono (fun _ _ h => h) (fun _ _ _ _ _ h => h) fun _ _ _ _ _ ⟨v, L, h1, h2, h3⟩ => ⟨v, L, h1, ⟨q _ _ h2.1, h2.2⟩, h3⟩
theorem Sp.here (P : Sp Z x B T k n h) : At T x.m x.c x.below := by obtain ⟨_, _, _, X, _⟩ := P; exact X.here
theorem Sp.ex (P : Sp Z x B T k n h) : x.p.tables.exec = Jvm.exec := P.1.1
theorem Sp.d (P : Sp Z x B T k n h) {r : Except DecodeError (Instr × Nat)} (hd : decode B.by pc = r) : decode x.c.code pc = r := by rw [P.1.2.1]; exact hd
theorem Sp.old (P : Sp Z x B T k n h) : Ext Z.heap h := P.2.1
theorem Sp.wd (P : Sp Z x B T k n h) : Wd Z B.tb := P.1.2.2.2.2.2.2.2.2
theorem Sp.le (P : Sp Z x B T k n h) : Z.heap.size ≤ h.size := P.2.1.1
theorem lift {T' : State} {pc' : Nat} {st' : List Value} (f : ∀ t, Steps x.p.tables x.e x.below (T'.setTop (mkF x.m pc' Ls' st')) t → Steps x.p.tables x.e x.below (T.setTop (mkF x.m pc Ls st)) t) (r : Rn Q Z x B T' pc' Ls' st') : Rn Q Z x B T pc Ls st := by
  obtain ⟨t, o, h1, h2⟩ := r; exact ⟨t, o, f t h1, h2⟩
theorem liftS {T' : State} {pc' : Nat} {st' : List Value} (f : Steps x.p.tables x.e x.below (T.setTop (mkF x.m pc Ls st)) (T'.setTop (mkF x.m pc' Ls' st'))) (r : Rn Q Z x B T' pc' Ls' st') : Rn Q Z x B T pc Ls st := by
  obtain ⟨t, o, h1, h2⟩ := r; exact ⟨t, o, f.trans h1, h2⟩
theorem Go.nameI {z : Int32} (r : ∀ v, z = v → Go Q Z B k n h pc Ls (.int v :: st)) : Go Q Z B k n h pc Ls (.int z :: st) := r z rfl
theorem Go.eqI {z w : Int32} (e : z = w) (r : Go Q Z B k n h pc Ls (.int w :: st)) : Go Q Z B k n h pc Ls (.int z :: st) := e ▸ r
theorem Go.jn {pcJ : Nat} {LsJ : Array Slot} {stJ : List Value} (s : Go Q Z B k n h pcJ LsJ stJ → Go Q Z B k n h pc Ls st) (r : Go Q Z B k n h pcJ LsJ stJ) : Go Q Z B k n h pc Ls st := s r
theorem Go.old (r : Ext Z.heap h → Go Q Z B k n h pc Ls st) : Go Q Z B k n h pc Ls st := fun x T P => r P.old x T P
theorem Go.iload (pc' : Nat) (hp : pc + 2 = pc') {i : Nat} {v : Int32} (hd : decode B.by pc = .ok (.iload i, 2)) (hl : Ls[i]? = some (.val (.int v))) (r : Go Q Z B k n h pc' Ls (.int v :: st)) : Go Q Z B k n h pc Ls (st) := fun x T P => by
  subst hp; exact lift (fun t q => XS.iload P.here P.ex rfl (P.d hd) hl q) (r x T P)
theorem Go.iloadN (pc' : Nat) (hp : pc + 1 = pc') {i : Fin 4} {v : Int32} (hd : decode B.by pc = .ok (.iload_n i, 1)) (hl : Ls[i.val]? = some (.val (.int v))) (r : Go Q Z B k n h pc' Ls (.int v :: st)) : Go Q Z B k n h pc Ls (st) := fun x T P => by
  subst hp; exact lift (fun t q => XS.iloadN P.here P.ex rfl (P.d hd) hl q) (r x T P)
theorem Go.istore (pc' : Nat) (hp : pc + 2 = pc') {i : Nat} {v : Int32} (hd : decode B.by pc = .ok (.istore i, 2))  (hl : storeLocals Ls i (.int v) = some Ls') (r : Go Q Z B k n h pc' Ls' (st)) : Go Q Z B k n h pc Ls (.int v :: st) := fun x T P => by
  subst hp; exact lift (fun t q => XS.istore P.here P.ex rfl (P.d hd) rfl hl q) (r x T P)
theorem Go.istoreN (pc' : Nat) (hp : pc + 1 = pc') {i : Fin 4} {v : Int32} (hd : decode B.by pc = .ok (.istore_n i, 1))  (hl : storeLocals Ls i.val (.int v) = some Ls') (r : Go Q Z B k n h pc' Ls' (st)) : Go Q Z B k n h pc Ls (.int v :: st) := fun x T P => by
  subst hp; exact lift (fun t q => XS.istoreN P.here P.ex rfl (P.d hd) rfl hl q) (r x T P)
theorem Go.aload (pc' : Nat) (hp : pc + 2 = pc') {i : Nat} {v : Value} (hd : decode B.by pc = .ok (.aload i, 2)) (hl : Ls[i]? = some (.val (v))) (hv : v.isRef = true) (r : Go Q Z B k n h pc' Ls (v :: st)) : Go Q Z B k n h pc Ls (st) := fun x T P => by
  subst hp; exact lift (fun t q => XS.aload P.here P.ex rfl (P.d hd) hl hv q) (r x T P)
theorem Go.aloadN (pc' : Nat) (hp : pc + 1 = pc') {i : Fin 4} {v : Value} (hd : decode B.by pc = .ok (.aload_n i, 1)) (hl : Ls[i.val]? = some (.val (v))) (hv : v.isRef = true) (r : Go Q Z B k n h pc' Ls (v :: st)) : Go Q Z B k n h pc Ls (st) := fun x T P => by
  subst hp; exact lift (fun t q => XS.aloadN P.here P.ex rfl (P.d hd) hl hv q) (r x T P)
theorem Go.astore (pc' : Nat) (hp : pc + 2 = pc') {i : Nat} {v : Value} (hd : decode B.by pc = .ok (.astore i, 2))  (hv : v.isRef = true) (hl : storeLocals Ls i (v) = some Ls') (r : Go Q Z B k n h pc' Ls' (st)) : Go Q Z B k n h pc Ls (v :: st) := fun x T P => by
  subst hp; exact lift (fun t q => XS.astore P.here P.ex rfl (P.d hd) rfl hv hl q) (r x T P)
theorem Go.astoreN (pc' : Nat) (hp : pc + 1 = pc') {i : Fin 4} {v : Value} (hd : decode B.by pc = .ok (.astore_n i, 1))  (hv : v.isRef = true) (hl : storeLocals Ls i.val (v) = some Ls') (r : Go Q Z B k n h pc' Ls' (st)) : Go Q Z B k n h pc Ls (v :: st) := fun x T P => by
  subst hp; exact lift (fun t q => XS.astoreN P.here P.ex rfl (P.d hd) rfl hv hl q) (r x T P)
theorem Go.iconst (pc' : Nat) (hp : pc + 1 = pc') {i : Int} (v : Int32) (hd : decode B.by pc = .ok (.iconst i, 1)) (hv : Int32.ofInt i = v) (r : Go Q Z B k n h pc' Ls (.int v :: st)) : Go Q Z B k n h pc Ls (st) := fun x T P => by
  subst hp; exact lift (fun t q => XT.iconstV P.here P.ex rfl v (P.d hd) hv q) (r x T P)
theorem Go.bipush (pc' : Nat) (hp : pc + 2 = pc') {i : Int} (v : Int32) (hd : decode B.by pc = .ok (.bipush i, 2)) (hv : (Int8.ofInt i).toInt32 = v) (r : Go Q Z B k n h pc' Ls (.int v :: st)) : Go Q Z B k n h pc Ls (st) := fun x T P => by
  subst hp; exact lift (fun t q => XT.bipushV P.here P.ex rfl v (P.d hd) hv q) (r x T P)
theorem Go.sipush (pc' : Nat) (hp : pc + 3 = pc') {i : Int} (v : Int32) (hd : decode B.by pc = .ok (.sipush i, 3)) (hv : (Int16.ofInt i).toInt32 = v) (r : Go Q Z B k n h pc' Ls (.int v :: st)) : Go Q Z B k n h pc Ls (st) := fun x T P => by
  subst hp; exact lift (fun t q => XT.sipushV P.here P.ex rfl v (P.d hd) hv q) (r x T P)
theorem Go.aconstNull (pc' : Nat) (hp : pc + 1 = pc')  (hd : decode B.by pc = .ok (.aconst_null, 1))  (r : Go Q Z B k n h pc' Ls (.null :: st)) : Go Q Z B k n h pc Ls (st) := fun x T P => by
  subst hp; exact lift (fun t q => XS.aconstNull P.here P.ex rfl (P.d hd) q) (r x T P)
theorem Go.iadd (pc' : Nat) (hp : pc + 1 = pc') {x1 y1 : Int32} (hd : decode B.by pc = .ok (.iadd, 1))  (r : Go Q Z B k n h pc' Ls (.int (x1 + y1) :: st)) : Go Q Z B k n h pc Ls (.int y1 :: .int x1 :: st) := fun x T P => by
  subst hp; exact lift (fun t q => XS.iadd P.here P.ex rfl (P.d hd) rfl q) (r x T P)
theorem Go.isub (pc' : Nat) (hp : pc + 1 = pc') {x1 y1 : Int32} (hd : decode B.by pc = .ok (.isub, 1))  (r : Go Q Z B k n h pc' Ls (.int (x1 - y1) :: st)) : Go Q Z B k n h pc Ls (.int y1 :: .int x1 :: st) := fun x T P => by
  subst hp; exact lift (fun t q => XS.isub P.here P.ex rfl (P.d hd) rfl q) (r x T P)
theorem Go.iand (pc' : Nat) (hp : pc + 1 = pc') {x1 y1 : Int32} (hd : decode B.by pc = .ok (.iand, 1))  (r : Go Q Z B k n h pc' Ls (.int (x1 &&& y1) :: st)) : Go Q Z B k n h pc Ls (.int y1 :: .int x1 :: st) := fun x T P => by
  subst hp; exact lift (fun t q => XS.iand P.here P.ex rfl (P.d hd) rfl q) (r x T P)
theorem Go.ior (pc' : Nat) (hp : pc + 1 = pc') {x1 y1 : Int32} (hd : decode B.by pc = .ok (.ior, 1))  (r : Go Q Z B k n h pc' Ls (.int (x1 ||| y1) :: st)) : Go Q Z B k n h pc Ls (.int y1 :: .int x1 :: st) := fun x T P => by
  subst hp; exact lift (fun t q => XT.ior P.here P.ex rfl (P.d hd) rfl q) (r x T P)
theorem Go.ishl (pc' : Nat) (hp : pc + 1 = pc') {x1 y1 : Int32} (hd : decode B.by pc = .ok (.ishl, 1))  (r : Go Q Z B k n h pc' Ls (.int (x1 <<< (y1 &&& 31)) :: st)) : Go Q Z B k n h pc Ls (.int y1 :: .int x1 :: st) := fun x T P => by
  subst hp; exact lift (fun t q => XT.ishl P.here P.ex rfl (P.d hd) rfl q) (r x T P)
theorem Go.ishr (pc' : Nat) (hp : pc + 1 = pc') {x1 y1 : Int32} (hd : decode B.by pc = .ok (.ishr, 1))  (r : Go Q Z B k n h pc' Ls (.int (x1 >>> (y1 &&& 31)) :: st)) : Go Q Z B k n h pc Ls (.int y1 :: .int x1 :: st) := fun x T P => by
  subst hp; exact lift (fun t q => XT.ishr P.here P.ex rfl (P.d hd) rfl q) (r x T P)
theorem Go.i2b (pc' : Nat) (hp : pc + 1 = pc') {x1 : Int32} (hd : decode B.by pc = .ok (.i2b, 1))  (r : Go Q Z B k n h pc' Ls (.int x1.toInt8.toInt32 :: st)) : Go Q Z B k n h pc Ls (.int x1 :: st) := fun x T P => by
  subst hp; exact lift (fun t q => XT.i2b P.here P.ex rfl (P.d hd) rfl q) (r x T P)
theorem Go.i2c (pc' : Nat) (hp : pc + 1 = pc') {x1 : Int32} (hd : decode B.by pc = .ok (.i2c, 1))  (r : Go Q Z B k n h pc' Ls (.int x1.toUInt32.toUInt16.toUInt32.toInt32 :: st)) : Go Q Z B k n h pc Ls (.int x1 :: st) := fun x T P => by
  subst hp; exact lift (fun t q => XT.i2c P.here P.ex rfl (P.d hd) rfl q) (r x T P)
theorem Go.dup (pc' : Nat) (hp : pc + 1 = pc') {v : Value} (hd : decode B.by pc = .ok (.dup, 1)) (hc : v.category = 1) (r : Go Q Z B k n h pc' Ls (v :: v :: st)) : Go Q Z B k n h pc Ls (v :: st) := fun x T P => by
  subst hp; exact lift (fun t q => XS.dup P.here P.ex rfl (P.d hd) rfl hc q) (r x T P)
theorem Go.pop (pc' : Nat) (hp : pc + 1 = pc') {v : Value} (hd : decode B.by pc = .ok (.pop, 1)) (hc : v.category = 1) (r : Go Q Z B k n h pc' Ls (st)) : Go Q Z B k n h pc Ls (v :: st) := fun x T P => by
  subst hp; exact lift (fun t q => XT.pop P.here P.ex rfl (P.d hd) rfl hc q) (r x T P)
theorem Go.iinc (pc' : Nat) (hp : pc + 3 = pc') {i : Nat} {cst : Int} {x1 : Int32} (v : Int32) (hd : decode B.by pc = .ok (.iinc i cst, 3)) (hv : Int32.ofInt cst = v) (hl : Ls[i]? = some (.val (.int x1))) (hl' : storeLocals Ls i (.int (x1 + v)) = some Ls') (r : Go Q Z B k n h pc' Ls' (st)) : Go Q Z B k n h pc Ls (st) := fun x T P => by
  subst hp; exact lift (fun t q => XT.iincV P.here P.ex rfl v (P.d hd) hv hl hl' q) (r x T P)
theorem Go.goto (pc' : Nat) {o : Int} (hd : decode B.by pc = .ok (.goto o, 3)) (h0 : 0 ≤ (pc : Int) + o) (hp : ((pc : Int) + o).toNat = pc') (r : Go Q Z B k n h pc' Ls st) : Go Q Z B k n h pc Ls st := fun x T P =>
  lift (fun t q => XS.goto P.here P.ex rfl (pc0 := pc) rfl (P.d hd) h0 hp q) (r x T P)
theorem Go.icmp_lt (pT pF : Nat) {x1 y1 : Int32} {o : Int} (hd : decode B.by pc = .ok (.if_icmp .lt o, 3)) (h0 : 0 ≤ (pc : Int) + o) (hT : ((pc : Int) + o).toNat = pT) (hF : pc + 3 = pF) (rT : x1 < y1 → Go Q Z B k n h pT Ls st) (rF : ¬ x1 < y1 → Go Q Z B k n h pF Ls st) : Go Q Z B k n h pc Ls (.int y1 :: .int x1 :: st) := fun x T P => by
  subst hF
  by_cases c : x1 < y1
  · exact lift (fun t q => XS.icmpYes P.here P.ex rfl (pc0 := pc) rfl (P.d hd) rfl (tlt c).1 h0 hT q) (rT c x T P)
  · exact lift (fun t q => XS.icmpNo P.here P.ex rfl (P.d hd) rfl (flt c).1 q) (rF c x T P)
theorem Go.if_lt (pT pF : Nat) {x1 : Int32} {o : Int} (hd : decode B.by pc = .ok (.ifCond .lt o, 3)) (h0 : 0 ≤ (pc : Int) + o) (hT : ((pc : Int) + o).toNat = pT) (hF : pc + 3 = pF) (rT : x1 < 0 → Go Q Z B k n h pT Ls st) (rF : ¬ x1 < 0 → Go Q Z B k n h pF Ls st) : Go Q Z B k n h pc Ls (.int x1 :: st) := fun x T P => by
  subst hF
  by_cases c : x1 < 0
  · exact lift (fun t q => XS.ifYes P.here P.ex rfl (pc0 := pc) rfl (P.d hd) rfl ((if0 _ _).trans (tlt c).1) h0 hT q) (rT c x T P)
  · exact lift (fun t q => XS.ifNo P.here P.ex rfl (P.d hd) rfl ((if0 _ _).trans (flt c).1) q) (rF c x T P)
theorem Go.icmp_ge (pT pF : Nat) {x1 y1 : Int32} {o : Int} (hd : decode B.by pc = .ok (.if_icmp .ge o, 3)) (h0 : 0 ≤ (pc : Int) + o) (hT : ((pc : Int) + o).toNat = pT) (hF : pc + 3 = pF) (rT : ¬ x1 < y1 → Go Q Z B k n h pT Ls st) (rF : x1 < y1 → Go Q Z B k n h pF Ls st) : Go Q Z B k n h pc Ls (.int y1 :: .int x1 :: st) := fun x T P => by
  subst hF
  by_cases c : ¬ x1 < y1
  · exact lift (fun t q => XS.icmpYes P.here P.ex rfl (pc0 := pc) rfl (P.d hd) rfl (flt c).2.1 h0 hT q) (rT c x T P)
  · replace c := Decidable.not_not.mp c
    exact lift (fun t q => XS.icmpNo P.here P.ex rfl (P.d hd) rfl (tlt c).2.1 q) (rF c x T P)
theorem Go.if_ge (pT pF : Nat) {x1 : Int32} {o : Int} (hd : decode B.by pc = .ok (.ifCond .ge o, 3)) (h0 : 0 ≤ (pc : Int) + o) (hT : ((pc : Int) + o).toNat = pT) (hF : pc + 3 = pF) (rT : ¬ x1 < 0 → Go Q Z B k n h pT Ls st) (rF : x1 < 0 → Go Q Z B k n h pF Ls st) : Go Q Z B k n h pc Ls (.int x1 :: st) := fun x T P => by
  subst hF
  by_cases c : ¬ x1 < 0
  · exact lift (fun t q => XS.ifYes P.here P.ex rfl (pc0 := pc) rfl (P.d hd) rfl ((if0 _ _).trans (flt c).2.1) h0 hT q) (rT c x T P)
  · replace c := Decidable.not_not.mp c
    exact lift (fun t q => XS.ifNo P.here P.ex rfl (P.d hd) rfl ((if0 _ _).trans (tlt c).2.1) q) (rF c x T P)
theorem Go.icmp_gt (pT pF : Nat) {x1 y1 : Int32} {o : Int} (hd : decode B.by pc = .ok (.if_icmp .gt o, 3)) (h0 : 0 ≤ (pc : Int) + o) (hT : ((pc : Int) + o).toNat = pT) (hF : pc + 3 = pF) (rT : y1 < x1 → Go Q Z B k n h pT Ls st) (rF : ¬ y1 < x1 → Go Q Z B k n h pF Ls st) : Go Q Z B k n h pc Ls (.int y1 :: .int x1 :: st) := fun x T P => by
  subst hF
  by_cases c : y1 < x1
  · exact lift (fun t q => XS.icmpYes P.here P.ex rfl (pc0 := pc) rfl (P.d hd) rfl (tlt c).2.2.1 h0 hT q) (rT c x T P)
  · exact lift (fun t q => XS.icmpNo P.here P.ex rfl (P.d hd) rfl (flt c).2.2.1 q) (rF c x T P)
theorem Go.icmp_le (pT pF : Nat) {x1 y1 : Int32} {o : Int} (hd : decode B.by pc = .ok (.if_icmp .le o, 3)) (h0 : 0 ≤ (pc : Int) + o) (hT : ((pc : Int) + o).toNat = pT) (hF : pc + 3 = pF) (rT : ¬ y1 < x1 → Go Q Z B k n h pT Ls st) (rF : y1 < x1 → Go Q Z B k n h pF Ls st) : Go Q Z B k n h pc Ls (.int y1 :: .int x1 :: st) := fun x T P => by
  subst hF
  by_cases c : ¬ y1 < x1
  · exact lift (fun t q => XS.icmpYes P.here P.ex rfl (pc0 := pc) rfl (P.d hd) rfl (flt c).2.2.2 h0 hT q) (rT c x T P)
  · replace c := Decidable.not_not.mp c
    exact lift (fun t q => XS.icmpNo P.here P.ex rfl (P.d hd) rfl (tlt c).2.2.2 q) (rF c x T P)
theorem Go.if_le (pT pF : Nat) {x1 : Int32} {o : Int} (hd : decode B.by pc = .ok (.ifCond .le o, 3)) (h0 : 0 ≤ (pc : Int) + o) (hT : ((pc : Int) + o).toNat = pT) (hF : pc + 3 = pF) (rT : ¬ 0 < x1 → Go Q Z B k n h pT Ls st) (rF : 0 < x1 → Go Q Z B k n h pF Ls st) : Go Q Z B k n h pc Ls (.int x1 :: st) := fun x T P => by
  subst hF
  by_cases c : ¬ 0 < x1
  · exact lift (fun t q => XS.ifYes P.here P.ex rfl (pc0 := pc) rfl (P.d hd) rfl ((if0 _ _).trans (flt c).2.2.2) h0 hT q) (rT c x T P)
  · replace c := Decidable.not_not.mp c
    exact lift (fun t q => XS.ifNo P.here P.ex rfl (P.d hd) rfl ((if0 _ _).trans (tlt c).2.2.2) q) (rF c x T P)
theorem Go.icmp_eq (pT pF : Nat) {x1 y1 : Int32} {o : Int} (hd : decode B.by pc = .ok (.if_icmp .eq o, 3)) (h0 : 0 ≤ (pc : Int) + o) (hT : ((pc : Int) + o).toNat = pT) (hF : pc + 3 = pF) (rT : x1 = y1 → Go Q Z B k n h pT Ls st) (rF : ¬ x1 = y1 → Go Q Z B k n h pF Ls st) : Go Q Z B k n h pc Ls (.int y1 :: .int x1 :: st) := fun x T P => by
  subst hF
  by_cases c : x1 = y1
  · exact lift (fun t q => XS.icmpYes P.here P.ex rfl (pc0 := pc) rfl (P.d hd) rfl (teq c).1 h0 hT q) (rT c x T P)
  · exact lift (fun t q => XS.icmpNo P.here P.ex rfl (P.d hd) rfl (feq c).1 q) (rF c x T P)
theorem Go.if_eq (pT pF : Nat) {x1 : Int32} {o : Int} (hd : decode B.by pc = .ok (.ifCond .eq o, 3)) (h0 : 0 ≤ (pc : Int) + o) (hT : ((pc : Int) + o).toNat = pT) (hF : pc + 3 = pF) (rT : x1 = 0 → Go Q Z B k n h pT Ls st) (rF : ¬ x1 = 0 → Go Q Z B k n h pF Ls st) : Go Q Z B k n h pc Ls (.int x1 :: st) := fun x T P => by
  subst hF
  by_cases c : x1 = 0
  · exact lift (fun t q => XS.ifYes P.here P.ex rfl (pc0 := pc) rfl (P.d hd) rfl ((if0 _ _).trans (teq c).1) h0 hT q) (rT c x T P)
  · exact lift (fun t q => XS.ifNo P.here P.ex rfl (P.d hd) rfl ((if0 _ _).trans (feq c).1) q) (rF c x T P)
theorem Go.icmp_ne (pT pF : Nat) {x1 y1 : Int32} {o : Int} (hd : decode B.by pc = .ok (.if_icmp .ne o, 3)) (h0 : 0 ≤ (pc : Int) + o) (hT : ((pc : Int) + o).toNat = pT) (hF : pc + 3 = pF) (rT : ¬ x1 = y1 → Go Q Z B k n h pT Ls st) (rF : x1 = y1 → Go Q Z B k n h pF Ls st) : Go Q Z B k n h pc Ls (.int y1 :: .int x1 :: st) := fun x T P => by
  subst hF
  by_cases c : ¬ x1 = y1
  · exact lift (fun t q => XS.icmpYes P.here P.ex rfl (pc0 := pc) rfl (P.d hd) rfl (feq c).2 h0 hT q) (rT c x T P)
  · replace c := Decidable.not_not.mp c
    exact lift (fun t q => XS.icmpNo P.here P.ex rfl (P.d hd) rfl (teq c).2 q) (rF c x T P)
theorem Go.if_ne (pT pF : Nat) {x1 : Int32} {o : Int} (hd : decode B.by pc = .ok (.ifCond .ne o, 3)) (h0 : 0 ≤ (pc : Int) + o) (hT : ((pc : Int) + o).toNat = pT) (hF : pc + 3 = pF) (rT : ¬ x1 = 0 → Go Q Z B k n h pT Ls st) (rF : x1 = 0 → Go Q Z B k n h pF Ls st) : Go Q Z B k n h pc Ls (.int x1 :: st) := fun x T P => by
  subst hF
  by_cases c : ¬ x1 = 0
  · exact lift (fun t q => XS.ifYes P.here P.ex rfl (pc0 := pc) rfl (P.d hd) rfl ((if0 _ _).trans (feq c).2) h0 hT q) (rT c x T P)
  · replace c := Decidable.not_not.mp c
    exact lift (fun t q => XS.ifNo P.here P.ex rfl (P.d hd) rfl ((if0 _ _).trans (teq c).2) q) (rF c x T P)
theorem Go.ifnonnull_r (pT : Nat) {o : Int} {b : Addr} (hd : decode B.by pc = .ok (.ifnonnull o, 3)) (h0 : 0 ≤ (pc : Int) + o) (hT : ((pc : Int) + o).toNat = pT) (r : Go Q Z B k n h pT Ls st) : Go Q Z B k n h pc Ls (.ref b :: st) := fun x T P =>
  lift (fun t q => XT.ifnonnullYes P.here P.ex rfl (pc0 := pc) rfl (P.d hd) rfl h0 hT q) (r x T P)
theorem Go.acmp_ne (pT pF : Nat) {v w : Value} {o : Int} (hd : decode B.by pc = .ok (.if_acmp .ne o, 3)) (h0 : 0 ≤ (pc : Int) + o) (hT : ((pc : Int) + o).toNat = pT) (hF : pc + 3 = pF) (hv : v.isRef = true) (hw : w.isRef = true) (rT : ¬ v = w → Go Q Z B k n h pT Ls st) (rF : v = w → Go Q Z B k n h pF Ls st) : Go Q Z B k n h pc Ls (w :: v :: st) := fun x T P => by
  subst hF
  by_cases c : ¬ v = w
  · exact lift (fun t q => XT.acmpYes P.here P.ex rfl (pc0 := pc) rfl (P.d hd) rfl hv hw (XT.aa_ne_t c) h0 hT q) (rT c x T P)
  · replace c := Decidable.not_not.mp c
    exact lift (fun t q => XT.acmpNo P.here P.ex rfl (P.d hd) rfl hv hw (XT.aa_ne_f c) q) (rF c x T P)
theorem En.zz (E : En Z x B) : Z.Warmed39 x.s.vm := E.2.2.2.2.2.2.1
theorem En.own (E : En Z x B) : x.s.vm.findClass B.y.cls = some x.m.cls := E.2.2.2.1
theorem En.ml (E : En Z x B) : x.c.maxLocals = B.ml := E.2.2.1
theorem En.rt (E : En Z x B) : x.meth.sig.returnType = B.rt := E.2.2.2.2.2.1
theorem En.nl (E : En Z x B) : x.meth.locks = false := E.2.2.2.2.2.2.2.1
theorem Go.ldcI (pc' : Nat) (hp : pc + 2 = pc') {ix : Nat} {v : Int32} (i : Nat) (hd : decode B.by pc = .ok (.ldc ix, 2)) (w : B.tb[i]? = some (.constant B.y.cls ix v)) (r : Go Q Z B k n h pc' Ls (.int v :: st)) : Go Q Z B k n h pc Ls st := fun x T P => by
  subst hp
  obtain ⟨a0, hw⟩ := P.wd.w
  obtain ⟨E, _, _, X, _⟩ := id P
  exact lift (fun t q => X.ldcI P.ex E.own (mv E.zz (hw w)) rfl (P.d hd) q) (r x T P)
theorem ltN {a : Addr} {m : Nat} (q : @LT.lt Nat instLTNat a m) : @LT.lt Nat instLTNat a m := q
theorem keep_ext (E : Ext h h') : Keep h h' [] := (Keep.refl h []).ext E
theorem keep_wr {a : Addr} {sl : Nat} {v : Value} (W : Wr h h' a sl v) : Keep h h' [a] := Keep.of_wr W
theorem ext_keep {H : Heap} {ws : List Addr} (E : Ext H h) (K : Keep h h' ws) (q : ∀ y ∈ ws, H.size ≤ y) : Ext H h' :=
  ⟨Nat.le_trans E.1 K.1, fun y c r => K.2.1 y c (E.2 y c r) fun z => absurd (Array.getElem?_eq_some_iff.mp r).1 (Nat.not_lt.mpr (q y z))⟩
theorem ge1 {H : Nat} {a : Addr} (q : H ≤ a) : ∀ y ∈ [a], H ≤ y := allS q all0
theorem fr_snoc {K : Nat} {locs : List Loc} {a : Addr} {sl : Nat} (N : Fr K locs) (q : K ≤ a) : Fr K (locs ++ [⟨a, sl⟩]) := N.app fun y hy => by cases List.mem_singleton.mp hy; exact q
theorem Go.newO (pc' : Nat) (hp : pc + 3 = pc') {C : String} {ix sz : Nat} (i1 i2 i3 : Nat) (hd : decode B.by pc = .ok (.new ix, 3)) (w1 : B.tb[i1]? = some (.classLink B.y.cls ix C)) (w2 : B.tb[i2]? = some (.instantiable C sz)) (w3 : B.tb[i3]? = some (.initialized C)) (hc : k + 1 ≤ B.R.cells) (hl : n + sz ≤ B.R.slots)
    (r : ∀ (h' : Heap) (a : Addr), @Eq Nat a h.size → Z.heap.size ≤ a → Keep h h' [] → Exa Z h' a C → (∀ (i : Nat) {O nm d : String} {ty : FieldType}, B.tb[i]? = some (.lays C O nm d) ∨ B.tb[i]? = some (.laysFinal C O nm d) → parseFieldDescriptor d = some ty → Fld Z h' a O nm d (defaultValue ty)) → Go Q Z B (k + 1) (n + sz) h' pc' Ls (.ref a :: st)) : Go Q Z B k n h pc Ls st := fun x T P => by
  subst hp
  obtain ⟨a0, hw⟩ := P.wd.w
  obtain ⟨E, O', locs, X, e, N⟩ := id P
  obtain ⟨T', h', X', e', Ex, A, D, -, s'⟩ := RoadKit.newO X P.ex E.zz E.own (hw w1) (hw w2) (hw w3) e (g := mkF x.m pc Ls st) rfl (P.d hd) hc hl
  exact lift s' (r h' h.size rfl P.le (keep_ext Ex) A (fun i {O nm d ty} q ht => D (q.imp (fun z => hw z) (fun z => hw z)) ht) x T' ⟨E, ⟨Nat.le_trans O'.1 Ex.1, fun y c q => Ex.2 y c (O'.2 y c q)⟩, locs, X', e', N⟩)
theorem Go.getF (pc' : Nat) (hp : pc + 3 = pc') {O nm d : String} {ix : Nat} {a : Addr} {v : Value} (i : Nat) (hd : decode B.by pc = .ok (.getfield ix, 3)) (w : B.tb[i]? = some (.fieldLink B.y.cls ix O nm d)) (F : Fld Z h a O nm d v) (r : Go Q Z B k n h pc' Ls (v :: st)) : Go Q Z B k n h pc Ls (.ref a :: st) := fun x T P => by
  subst hp
  obtain ⟨a0, hw⟩ := P.wd.w
  obtain ⟨E, O', locs, X, e, N⟩ := id P
  obtain ⟨T', X', e', s'⟩ := RoadKit.getF X P.ex E.zz E.own (host := "") (Or.inl (hw w)) Via.refl e F (g := mkF x.m pc Ls (.ref a :: st)) rfl rfl (P.d hd)
  exact lift s' (r x T' ⟨E, O', locs, X', e', N⟩)
theorem Go.putF (pc' : Nat) (hp : pc + 3 = pc') {C O nm d : String} {ix sz : Nat} {ty : FieldType} {a : Addr} {v v' old : Value} (i1 i2 i3 : Nat) (hd : decode B.by pc = .ok (.putfield ix, 3)) (w1 : B.tb[i1]? = some (.fieldLink B.y.cls ix O nm d)) (F : Fld Z h a O nm d old) (Ea : Exa Z h a C)
    (L : B.tb[i2]? = some (.lays C O nm d) ∨ (B.tb[i2]? = some (.laysFinal C O nm d) ∧ B.y.cls = O ∧ B.y.name = "<init>")) (w3 : B.tb[i3]? = some (.instantiable C sz)) (hty : parseFieldDescriptor d = some ty) (hn : narrow ty v = v') (hf : fits ty v' = true) (ge : Z.heap.size ≤ a)
    (r : ∀ h' : Heap, Keep h h' [a] → Wr h h' a (RoadKit.slotOf Z O nm d) v' → Fld Z h' a O nm d v' → Go Q Z B k n h' pc' Ls st) : Go Q Z B k n h pc Ls (v :: .ref a :: st) := fun x T P => by
  subst hp
  obtain ⟨a0, hw⟩ := P.wd.w
  obtain ⟨E, O', locs, X, e, N⟩ := id P
  obtain ⟨T', h', X', e', W, s'⟩ := putFN X P.ex E.zz E.own (hw w1) Via.refl e F Ea (L.imp (fun z => hw z) (fun z => ⟨hw z.1, z.2.1, E.2.2.2.2.1.trans z.2.2⟩)) (hw w3) hty hn hf (g := mkF x.m pc Ls (v :: .ref a :: st)) rfl rfl (P.d hd)
  exact lift s' (r h' (keep_wr W) W (F.same W) x T' ⟨E, ext_keep O' (keep_wr W) (ge1 ge), _, X', e', fr_snoc N ge⟩)
theorem Fld.oth {C O nm d O2 nm2 d2 : String} {tb : List Cond} {a b : Addr} {v w : Value} {t t' : FieldType} (hw : Wd Z tb) (F : Fld Z h b O nm d w) (W : Wr h h' a (RoadKit.slotOf Z O2 nm2 d2) v) (i j : Nat) (L1 : tb[i]? = some (.lays C O nm d) ∨ tb[i]? = some (.laysFinal C O nm d)) (L2 : tb[j]? = some (.lays C O2 nm2 d2) ∨ tb[j]? = some (.laysFinal C O2 nm2 d2))
    (hn : nm ≠ nm2) (ht : parseFieldDescriptor d = some t) (ht' : parseFieldDescriptor d2 = some t') : Fld Z h' b O nm d w := by
  obtain ⟨a0, hw⟩ := hw.w
  exact F.other W (Or.inr (RoadKit.slot_ne (a0 := a0) (L1.imp (fun z => hw z) (fun z => hw z)) (L2.imp (fun z => hw z) (fun z => hw z)) hn ht ht'))
theorem Go.getS (pc' : Nat) (hp : pc + 3 = pc') {O nm d : String} {ix : Nat} {v : Value} (i : Nat) (hd : decode B.by pc = .ok (.getstatic ix, 3)) (w : B.tb[i]? = some (.fieldLink B.y.cls ix O nm d)) (F : Sta Z Z.heap O nm d v) (r : Go Q Z B k n h pc' Ls (v :: st)) : Go Q Z B k n h pc Ls st := fun x T P => by
  subst hp
  obtain ⟨a0, hw⟩ := P.wd.w
  obtain ⟨E, O', locs, X, e, N⟩ := id P
  obtain ⟨T', X', e', s'⟩ := RoadKit.getS X P.ex E.zz (host := "") E.own (hw w) Via.refl e (F.ext O') (g := mkF x.m pc Ls st) rfl (P.d hd)
  exact lift s' (r x T' ⟨E, O', locs, X', e', N⟩)
theorem Go.castY (pc' : Nat) (hp : pc + 3 = pc') {K : String} {ix : Nat} {a : Addr} (i : Nat) (hd : decode B.by pc = .ok (.checkcast ix, 3)) (w : B.tb[i]? = some (.classLink B.y.cls ix K)) (F : Ins Z h a K true) (r : Go Q Z B k n h pc' Ls (.ref a :: st)) : Go Q Z B k n h pc Ls (.ref a :: st) := fun x T P => by
  subst hp
  obtain ⟨a0, hw⟩ := P.wd.w
  obtain ⟨E, O', locs, X, e, N⟩ := id P
  obtain ⟨T', X', e', s'⟩ := RoadKit.castY X P.ex E.zz E.own (hw w) e F (g := mkF x.m pc Ls (.ref a :: st)) rfl rfl (P.d hd)
  exact lift s' (r x T' ⟨E, O', locs, X', e', N⟩)
theorem Go.initO (pc' : Nat) (hp : pc + 3 = pc') {ix : Nat} {a : Addr} (i1 i2 i3 : Nat) (hd : decode B.by pc = .ok (.invokespecial ix, 3)) (w1 : B.tb[i1]? = some (.methodLink B.y.cls ix Lib.objectInit)) (w2 : B.tb[i2]? = some (.instanceMethod Lib.objectInit)) (w3 : B.tb[i3]? = some (.code Lib.objectInit ⟨#[0xb1]⟩ 1 none)) (hs : Ls.size = B.ml) (hf : 1 ≤ B.R.frames) {W : Nat} (hW : (st.map fun v => v.category).sum ≤ W) (hl : W + 12 ≤ B.R.locals)
    (r : Go Q Z B k n h pc' Ls st) : Go Q Z B k n h pc Ls (.ref a :: st) := fun x T P => by
  subst hp
  obtain ⟨a0, hw⟩ := P.wd.w
  obtain ⟨E, O', locs, X, e, N⟩ := id P
  obtain ⟨T', X', e', s'⟩ := RoadKit.initO X P.ex E.zz E.own (hw w1) (hw w2) (hw w3) e (g := mkF x.m pc Ls (.ref a :: st)) rfl (by rw [E.ml]; exact hs) rfl (P.d hd) hf (W := W) (by show 2 * 0 + _ ≤ _; omega) hl
  exact lift s' (r x T' ⟨E, O', locs, X', e', N⟩)
theorem Ary.lt {a : Addr} {ty : FieldType} {vs : List Value} (A : Ary Z h a ty vs) : a < h.size := by obtain ⟨c, A, -⟩ := A; exact A.lt
theorem Ary.len {a : Addr} {ty : FieldType} {vs : List Value} (A : Ary Z h a ty vs) : vs.length < 2 ^ 31 := by obtain ⟨c, -, -, r, -⟩ := A; exact r
theorem len_ofNat {m : Nat} (hm : m < 2 ^ 31) : (Int32.ofNat m).toInt = m := Int32.toInt_ofNat_of_lt hm
theorem Ary.keep {a : Addr} {ty : FieldType} {vs : List Value} {ws : List Addr} (A : Ary Z h a ty vs) (K : Keep h h' ws) (q : a ∉ ws) : Ary Z h' a ty vs := by
  obtain ⟨c, A, r⟩ := A; exact ⟨c, ⟨K.2.1 a c A.1 q, A.2⟩, r⟩
theorem Ary.ext {a : Addr} {ty : FieldType} {vs : List Value} (E : Ext h h') (A : Ary Z h a ty vs) : Ary Z h' a ty vs := by
  obtain ⟨c, A, r⟩ := A; exact ⟨c, A.ext E, r⟩
theorem Aov.keep {a : Addr} {C : String} {ws : List Addr} (A : Aov Z h a C) (K : Keep h h' ws) : Aov Z h' a C := by
  obtain ⟨c, A, r⟩ := A; obtain ⟨c', q1, q2, -⟩ := K.2.2 a c A; exact ⟨c', q1, q2 ▸ r⟩
theorem Ins.keep {a : Addr} {C : String} {b : Bool} {ws : List Addr} (A : Ins Z h a C b) (K : Keep h h' ws) : Ins Z h' a C b := by
  obtain ⟨c, cT, A, r1, r2⟩ := A; obtain ⟨c', q1, q2, q3, -⟩ := K.2.2 a c A; exact ⟨c', cT, q1, r1, by rw [q2, q3]; exact r2⟩
theorem ix_in {m : Nat} {j : Int32} (h0 : 0 ≤ j.toInt) (h1 : j.toInt < m) : ¬ (j < 0 ∨ m ≤ j.toNatClampNeg) := by
  intro q
  rcases q with q | q
  · rw [Int32.lt_iff_toInt_lt] at q; have : (0 : Int32).toInt = 0 := rfl; omega
  · have := nat_of (j := j) (by rw [Int32.lt_iff_toInt_lt]; have : (0 : Int32).toInt = 0 := rfl; omega); omega
theorem ix_nat {m : Nat} {j : Int32} (h0 : j.toInt = m) : j.toNatClampNeg = m := by
  have := nat_of (j := j) (by rw [Int32.lt_iff_toInt_lt]; have : (0 : Int32).toInt = 0 := rfl; omega); omega
theorem slots_at {c : Cell} {vs : List Value} (e : c.slots.toList = vs) (j : Nat) : c.slots[j]? = vs[j]? := by rw [← e]; simp
theorem Go.newA (pc' : Nat) (hp : pc + 2 = pc') {aty : ArrayType} {m : Int32} (i cap N : Nat) (hd : decode B.by pc = .ok (.newarray aty, 2)) (w : B.tb[i]? = some (.arrayClass (newarray.typeOf aty))) (hN : m.toInt = N) (hcap : N ≤ cap) (hb : cap * 8 ≤ 536870912) (hc : k + 1 ≤ B.R.cells) (hl : n + cap ≤ B.R.slots)
    (r : ∀ (h' : Heap) (a : Addr), @Eq Nat a h.size → Z.heap.size ≤ a → Keep h h' [] → Ary Z h' a (newarray.typeOf aty) (List.replicate N (defaultValue (newarray.typeOf aty))) → Exa Z h' a ("[" ++ (newarray.typeOf aty).toString) → Go Q Z B (k + 1) (n + cap) h' pc' Ls (.ref a :: st)) : Go Q Z B k n h pc Ls (.int m :: st) := fun x T P => by
  subst hp
  obtain ⟨a0, hw⟩ := P.wd.w
  obtain ⟨E, O', locs, X, e, N'⟩ := id P
  have hm : ¬ m < 0 := by rw [Int32.lt_iff_toInt_lt]; have : (0 : Int32).toInt = 0 := rfl; omega
  obtain ⟨T', h', cA, X', e', Ex, A, A', s'⟩ := newPE X P.ex E.zz (hw w) e (g := mkF x.m pc Ls (.int m :: st)) rfl (P.d hd) rfl hm (cap := cap) (by rw [ix_nat hN]; exact hcap) hb hc hl rfl
  have hlen : N < 2 ^ 31 := by have := m.toInt_lt; omega
  refine lift s' (r h' h.size rfl P.le (keep_ext Ex) ⟨_, A, ?_, ?_, ?_⟩ A' x T' ⟨E, ⟨Nat.le_trans O'.1 Ex.1, fun y c q => Ex.2 y c (O'.2 y c q)⟩, locs, X', e', N'⟩)
  · show (Array.replicate _ _).toList = _
    rw [ix_nat hN, Array.toList_replicate]
  · rw [List.length_replicate]; exact hlen
  · intro v hv
    rw [List.eq_of_mem_replicate hv]
    cases aty <;> rfl
theorem Go.alen (pc' : Nat) (hp : pc + 1 = pc') {ty : FieldType} {a : Addr} {vs : List Value} (v : Int32) (hd : decode B.by pc = .ok (.arraylength, 1)) (A : Ary Z h a ty vs) (hv : v.toInt = vs.length) (r : Go Q Z B k n h pc' Ls (.int v :: st)) : Go Q Z B k n h pc Ls (.ref a :: st) := fun x T P => by
  subst hp
  obtain ⟨E, O', locs, X, e, N'⟩ := id P
  obtain ⟨c, A, e1, e2, e3⟩ := A
  have : c.slots.size.toInt32 = v := by
    have q : c.slots.size = vs.length := by rw [← e1]; simp
    apply Int32.toInt_inj.mp
    rw [q, hv, len_toInt e2]
  exact lift (fun t q => X.arraylength P.ex (by rw [e]; exact A.1) (State.isArrayOf_alike E.zz.alike A.2.1) (g := mkF x.m pc Ls (.ref a :: st)) rfl rfl (P.d hd) t (by rw [this]; exact q)) (r x T P)
theorem Go.baload (pc' : Nat) (hp : pc + 1 = pc') {a : Addr} {vs : List Value} {j : Int32} (v : Int32) (hd : decode B.by pc = .ok (.baload, 1)) (A : Ary Z h a .byte vs) (jn : Nat) (hj : j.toInt = jn) (hv : vs[jn]? = some (.int v)) (r : Go Q Z B k n h pc' Ls (.int v :: st)) : Go Q Z B k n h pc Ls (.int j :: .ref a :: st) := fun x T P => by
  subst hp
  obtain ⟨E, O', locs, X, e, N'⟩ := id P
  obtain ⟨c, A, e1, e2, e3⟩ := A
  have q : c.slots.size = vs.length := by rw [← e1]; simp
  have hlt := (List.getElem?_eq_some_iff.mp hv).1
  exact lift (fun t q' => X.baloadBytes P.ex (j := j) (v := .int v) (by rw [e]; exact A.1) (State.isArrayOf_alike E.zz.alike A.2.1) A.2.2 (ix_in (by omega) (by omega)) (by rw [ix_nat hj, slots_at e1]; exact hv) (g := mkF x.m pc Ls (.int j :: .ref a :: st)) rfl rfl (P.d hd) t q') (r x T P)
theorem Ary.set {a : Addr} {ty : FieldType} {vs : List Value} {j : Nat} {v : Value} {c : Cell} (A : Arr Z h a c ty) (e1 : c.slots.toList = vs) (e2 : vs.length < 2 ^ 31) (e3 : ∀ v ∈ vs, fits ty v = true) (W : Wr h h' a j v) (hv : fits ty v = true) : Ary Z h' a ty (vs.set j v) := by
  refine ⟨c.setSlot j v, A.same W, ?_, by rw [List.length_set]; exact e2, fun w hw => ?_⟩
  · show (c.slots.setIfInBounds j v).toList = _
    rw [Array.toList_setIfInBounds, e1]
  · rcases List.mem_or_eq_of_mem_set hw with q | rfl
    · exact e3 _ q
    · exact hv
theorem Go.stB (pc' : Nat) (hp : pc + 1 = pc') {a : Addr} {vs : List Value} {j : Int32} {v : Int32} (hd : decode B.by pc = .ok (.bastore, 1)) (A : Ary Z h a .byte vs) (jn : Nat) (hj : j.toInt = jn) (hlt : jn < vs.length) (ge : Z.heap.size ≤ a)
    (r : ∀ h' : Heap, Keep h h' [a] → Ary Z h' a .byte (vs.set jn (.int (nar .byte v))) → Go Q Z B k n h' pc' Ls st) : Go Q Z B k n h pc Ls (.int v :: .int j :: .ref a :: st) := fun x T P => by
  subst hp
  obtain ⟨E, O', locs, X, e, N⟩ := id P
  obtain ⟨c, A, e1, e2, e3⟩ := A
  have q : c.slots.size = vs.length := by rw [← e1]; simp
  obtain ⟨T', h', X', e', W, s'⟩ := RoadKit.stB X P.ex E.zz e A (j := j) (ix_in (by omega) (by omega)) (g := mkF x.m pc Ls (.int v :: .int j :: .ref a :: st)) rfl rfl (P.d hd)
  rw [ix_nat hj] at W
  exact lift s' (r h' (keep_wr W) (Ary.set A e1 e2 e3 W (fits_nar_byte v)) x T' ⟨E, ext_keep O' (keep_wr W) (ge1 ge), _, X', e', fr_snoc N ge⟩)
theorem ret_core {v : Option Value} {T : State} {locs : List Loc} {fs : List Frame} (E : En Z x B) (O' : Ext Z.heap h) (e : T.heap = h) (N : Fr Z.heap.size locs) (hk : k ≤ B.R.cells) (hn : n ≤ B.R.slots) (hQ : Q v h)
    (hs : Steps x.p.tables x.e x.below (T.setTop (mkF x.m pc Ls st)) (T.setFrames fs)) (hrun : (T.setFrames fs).status = .running) (hended : Ended (T.setFrames fs) x.below (.returned v)) (hW : x.s.WarmedH (T.setFrames fs).vm) (hsame : x.s.sameButNew ({ T.setFrames fs with vm := x.s.vm } : State) locs k n) : Rn Q Z x B T pc Ls st := by
  subst e
  exact ⟨T.setFrames fs, _, hs, hrun, hended, _, locs, rfl, ⟨hQ, O', N⟩, ⟨_, rfl⟩, hW, hsame.mono hk hn⟩
theorem Go.retV (hd : decode B.by pc = .ok (.return_, 1)) (ht : B.rt = none) (hk : k ≤ B.R.cells) (hn : n ≤ B.R.slots) (hQ : Q none h) : Go Q Z B k n h pc Ls [] := fun x T P => by
  obtain ⟨E, O', locs, X, e, N⟩ := id P
  obtain ⟨fs, hr, hrun, hended, hW, hsame⟩ := X.leave (v := none) (fun _ => rfl) E.nl
  exact ret_core E O' e N hk hn hQ (X.returnOut P.ex (E.rt.trans ht) (P.d hd) hr) hrun hended hW hsame
theorem Go.retI {z : Int32} (hd : decode B.by pc = .ok (.ireturn, 1)) (ht : B.rt = some .int) (hk : k ≤ B.R.cells) (hn : n ≤ B.R.slots) (hQ : Q (some (.int z)) h) : Go Q Z B k n h pc Ls [.int z] := fun x T P => by
  obtain ⟨E, O', locs, X, e, N⟩ := id P
  obtain ⟨fs, hr, hrun, hended, hW, hsame⟩ := X.leave (v := some (.int z)) (fun q => by rw [E.rt, ht] at q; cases q) E.nl
  exact ret_core E O' e N hk hn hQ (X.ireturnOut P.ex (E.rt.trans ht) rfl (Or.inl rfl) (P.d hd) hr) hrun hended hW hsame
theorem Go.retN {z z' : Int32} {t : FieldType} (hd : decode B.by pc = .ok (.ireturn, 1)) (ht : B.rt = some t) (hz : t = .boolean ∨ t = .byte ∨ t = .char ∨ t = .short) (hq : nar t z = z') (hk : k ≤ B.R.cells) (hn : n ≤ B.R.slots) (hQ : Q (some (.int z')) h) : Go Q Z B k n h pc Ls (.int z :: st) := fun x T P => by
  subst hq
  obtain ⟨E, O', locs, X, e, N⟩ := id P
  obtain ⟨fs, hr, hrun, hended, hW, hsame⟩ := X.leave (v := some (.int (nar t z))) (fun q => by rw [E.rt, ht] at q; cases q) E.nl
  exact ret_core E O' e N hk hn hQ (RoadKit.retN X P.ex (E.rt.trans ht) hz (P.d hd) hr) hrun hended hW hsame
theorem Go.retA {z : Value} {t : FieldType} (hd : decode B.by pc = .ok (.areturn, 1)) (ht : B.rt = some t) (hr' : t.isReference = true) (hz : z.isRef = true) (hk : k ≤ B.R.cells) (hn : n ≤ B.R.slots) (hQ : Q (some z) h) : Go Q Z B k n h pc Ls [z] := fun x T P => by
  obtain ⟨E, O', locs, X, e, N⟩ := id P
  obtain ⟨fs, hr, hrun, hended, hW, hsame⟩ := X.leave (v := some z) (fun q => by rw [E.rt, ht] at q; cases q) E.nl
  exact ret_core E O' e N hk hn hQ (X.areturnOut P.ex hz (E.rt.trans ht) hr' (P.d hd) hr) hrun hended hW hsame
theorem Con.back {C : Bd} {as : Array Value} {Qc : Option Value → Heap → Prop} {len W : Nat} (K : Con Z C as h Qc) (P : Sp Z x B T k n h) (i j : Nat) (wc : B.tb[i]? = some (.code C.y C.by C.ml C.rt)) (wz : B.tb[j]? = some (.initialized C.y.cls)) (hf : C.R.frames + 1 ≤ B.R.frames) (hl : W + (C.ml + 11) + C.R.locals ≤ B.R.locals) :
    Back x.l B.R x.p x.e x.below x.s x.args C.y len W (fun A a => a = as ∧ A.U.heap = h ∧ A.cells + C.R.cells ≤ B.R.cells ∧ A.slots + C.R.slots ≤ B.R.slots)
      (fun A _ v D => ∃ L, (Qc v D.U.heap ∧ Ext Z.heap D.U.heap ∧ Fr Z.heap.size L) ∧ D.locs = A.locs ++ L ∧ D.cells = A.cells + C.R.cells ∧ D.slots = A.slots + C.R.slots) := by
  obtain ⟨a0, hw⟩ := P.wd.w
  exact backOf (a0 := a0) (Q := fun v h' L => Qc v h' ∧ Ext Z.heap h' ∧ Fr Z.heap.size L) (K P.old x.l []) P.1.zz (hw wc) (hw wz) hf hl
theorem Go.callS (pc' : Nat) (hp : pc + 3 = pc') {C : Bd} {Qc : Option Value → Heap → Prop} {ix : Nat} (argsL : List Value) {st : List Value} (i1 i2 i3 i4 : Nat) (K : Con Z C argsL.toArray h Qc) (hd : decode B.by pc = .ok (.invokestatic ix, 3)) (w1 : B.tb[i1]? = some (.methodLink B.y.cls ix C.y)) (w2 : B.tb[i2]? = some (.static C.y)) (w3 : B.tb[i3]? = some (.initialized C.y.cls)) (w4 : B.tb[i4]? = some (.code C.y C.by C.ml C.rt))
    (hy : C.y.cls ≠ "java/lang/invoke/MethodHandle" ∧ C.y.cls ≠ "java/lang/invoke/VarHandle") {ps : List FieldType} {rt : Option FieldType} (hpd : parseMethodDescriptor C.y.desc = some ⟨ps, rt⟩) (hlen : argsL.length = ps.length) (hs : Ls.size = B.ml) (hst : st = argsL.reverse ++ rest) {W : Nat} (hW : (rest.map fun v => v.category).sum ≤ W) (hf : C.R.frames + 1 ≤ B.R.frames) (hl : W + (C.ml + 11) + C.R.locals ≤ B.R.locals) (hc : k + C.R.cells ≤ B.R.cells) (hn : n + C.R.slots ≤ B.R.slots)
    (r : ∀ (v : Option Value) (h' : Heap), Qc v h' → Go Q Z B (k + C.R.cells) (n + C.R.slots) h' pc' Ls (v.toList ++ rest)) : Go Q Z B k n h pc Ls st := fun x T P => by
  subst hp hst
  obtain ⟨a0, hw⟩ := P.wd.w
  obtain ⟨E, O', locs, X, e, N⟩ := id P
  obtain ⟨v, vm₁, ⟨T1, L1, k1, n1⟩, -, X1, ⟨Lc, hQ, l1, y1, z1⟩, st1⟩ := Jvm.LawKit.callS X P.ex (y := C.y) E.own (mvT E.zz (hw w1)) (mvT E.zz (hw w2)) (mvT E.zz (hw w3)) (mvT E.zz (hw w4)) hy (K.back (W := W) P i4 i3 w4 w3 hf hl) (g := mkF x.m pc Ls (argsL.reverse ++ rest)) rfl (by rw [E.ml]; exact hs) (argsL := argsL) (rest := rest) (lenOf hpd hlen) rfl (by show 2 * 0 + _ ≤ _; omega) (P.d hd) (fun _ _ => ⟨rfl, e, hc, hn⟩)
  dsimp only [Pt.U, Pt.locs, Pt.cells, Pt.slots] at X1 l1 y1 z1 st1 hQ
  subst l1 y1 z1
  exact lift st1 (r v T1.heap hQ.1 x T1 ⟨E, hQ.2.1, _, X1, rfl, N.app hQ.2.2⟩)
theorem Go.callI (pc' : Nat) (hp : pc + 3 = pc') {C : Bd} {Qc : Option Value → Heap → Prop} {ix : Nat} (a : Addr) (argsL : List Value) {st : List Value} (i1 i2 i3 i4 : Nat) (K : Con Z C (.ref a :: argsL).toArray h Qc) (hd : decode B.by pc = .ok (.invokespecial ix, 3)) (w1 : B.tb[i1]? = some (.methodLink B.y.cls ix C.y)) (w2 : B.tb[i2]? = some (.instanceMethod C.y)) (w3 : B.tb[i3]? = some (.initialized C.y.cls)) (w4 : B.tb[i4]? = some (.code C.y C.by C.ml none)) (hrt : C.rt = none) (hi : C.y.name = "<init>")
    (hy : C.y.cls ≠ "java/lang/invoke/MethodHandle" ∧ C.y.cls ≠ "java/lang/invoke/VarHandle") {ps : List FieldType} {rt : Option FieldType} (hpd : parseMethodDescriptor C.y.desc = some ⟨ps, rt⟩) (hlen : argsL.length = ps.length) (hs : Ls.size = B.ml) (hst : st = argsL.reverse ++ .ref a :: rest) {W : Nat} (hW : (rest.map fun v => v.category).sum ≤ W) (hf : C.R.frames + 1 ≤ B.R.frames) (hl : W + (C.ml + 11) + C.R.locals ≤ B.R.locals) (hc : k + C.R.cells ≤ B.R.cells) (hn : n + C.R.slots ≤ B.R.slots)
    (r : ∀ (v : Option Value) (h' : Heap), Qc v h' → Go Q Z B (k + C.R.cells) (n + C.R.slots) h' pc' Ls (v.toList ++ rest)) : Go Q Z B k n h pc Ls st := fun x T P => by
  subst hp hst
  obtain ⟨a0, hw⟩ := P.wd.w
  obtain ⟨E, O', locs, X, e, N⟩ := id P
  obtain ⟨v, vm₁, ⟨T1, L1, k1, n1⟩, -, X1, ⟨Lc, hQ, l1, y1, z1⟩, st1⟩ := X.specialBack P.ex (y := C.y) hi E.own (mvT E.zz (hw w1)) (mvT E.zz (hw w2)) (mvT E.zz (hw w4)) hy (K.back (W := W) P i4 i3 (by rw [hrt]; exact w4) w3 hf hl) (g := mkF x.m pc Ls (argsL.reverse ++ .ref a :: rest)) rfl (by rw [E.ml]; exact hs) (Steps.refl _) (a := a) (argsL := argsL) (rest := rest) (lenOf hpd hlen) rfl (by show 2 * 0 + _ ≤ _; omega) (P.d hd) (fun _ _ => ⟨rfl, e, hc, hn⟩)
  dsimp only [Pt.U, Pt.locs, Pt.cells, Pt.slots] at X1 l1 y1 z1 st1 hQ
  subst l1 y1 z1
  exact liftS st1 (r v T1.heap hQ.1 x T1 ⟨E, hQ.2.1, _, X1, rfl, N.app hQ.2.2⟩)
theorem Go.callV (pc' : Nat) (hp : pc + 3 = pc') {C : Bd} {Qc : Option Value → Heap → Prop} {ix : Nat} {D : String} (a : Addr) (argsL : List Value) {st : List Value} (i1 i2 i3 i4 i5 i6 : Nat) (K : Con Z C (.ref a :: argsL).toArray h Qc) (Ea : Exa Z h a D) (hd : decode B.by pc = .ok (.invokevirtual ix, 3)) (w1 : B.tb[i1]? = some (.methodLink B.y.cls ix C.y)) (w2 : B.tb[i2]? = some (.declares C.y)) (w3 : B.tb[i3]? = some (.selects D C.y C.y)) (w4 : B.tb[i4]? = some (.instanceMethod C.y)) (w5 : B.tb[i5]? = some (.initialized C.y.cls)) (w6 : B.tb[i6]? = some (.code C.y C.by C.ml C.rt))
    (hy : C.y.cls ≠ "java/lang/invoke/MethodHandle" ∧ C.y.cls ≠ "java/lang/invoke/VarHandle") {ps : List FieldType} {rt : Option FieldType} (hpd : parseMethodDescriptor C.y.desc = some ⟨ps, rt⟩) (hlen : argsL.length = ps.length) (hs : Ls.size = B.ml) (hst : st = argsL.reverse ++ .ref a :: rest) {W : Nat} (hW : (rest.map fun v => v.category).sum ≤ W) (hf : C.R.frames + 1 ≤ B.R.frames) (hl : W + (C.ml + 11) + C.R.locals ≤ B.R.locals) (hc : k + C.R.cells ≤ B.R.cells) (hn : n + C.R.slots ≤ B.R.slots)
    (r : ∀ (v : Option Value) (h' : Heap), Qc v h' → Go Q Z B (k + C.R.cells) (n + C.R.slots) h' pc' Ls (v.toList ++ rest)) : Go Q Z B k n h pc Ls st := fun x T P => by
  subst hp hst
  obtain ⟨a0, hw⟩ := P.wd.w
  obtain ⟨E, O', locs, X, e, N⟩ := id P
  obtain ⟨cq, kq, qa, qb, qc⟩ := isOf E.zz e Ea
  obtain ⟨v, vm₁, ⟨T1, L1, k1, n1⟩, -, X1, ⟨Lc, hQ, l1, y1, z1⟩, st1⟩ := X.virtualBack P.ex (y := C.y) (z := C.y) E.own (mvT E.zz (hw w1)) (mvT E.zz (hw w2)) (notFace_of_selects (args := #[]) (mvT E.zz (hw w3))) (mvT E.zz (hw w3)) (mvT E.zz (hw w4)) hy (K.back (W := W) P i6 i5 w6 w5 hf hl) qa qc (g := mkF x.m pc Ls (argsL.reverse ++ .ref a :: rest)) rfl (by rw [E.ml]; exact hs) (Steps.refl _) (argsL := argsL) (rest := rest) (lenOf hpd hlen) rfl (by show 2 * 0 + _ ≤ _; omega) (P.d hd) (fun _ _ => ⟨rfl, e, hc, hn⟩)
  dsimp only [Pt.U, Pt.locs, Pt.cells, Pt.slots] at X1 l1 y1 z1 st1 hQ
  subst l1 y1 z1
  exact liftS st1 (r v T1.heap hQ.1 x T1 ⟨E, hQ.2.1, _, X1, rfl, N.app hQ.2.2⟩)
theorem Go.callP3 (pc' : Nat) (hp : pc + 3 = pc') {C : Bd} {Qc : Option Value → Heap → Prop} {ix : Nat} {D D' : String} (a : Addr) (argsL : List Value) {st : List Value} (i1 i2 i3 i4 i5 i6 : Nat) (K : Con Z C (.ref a :: argsL).toArray h Qc) (Ea : Exa Z h a D) (hd : decode B.by pc = .ok (.invokevirtual ix, 3)) (w1 : B.tb[i1]? = some (.methodLink B.y.cls ix C.y)) (w2 : B.tb[i2]? = some (.instanceMethod C.y)) (w3 : B.tb[i3]? = some (.selects D' C.y C.y)) (w4 : B.tb[i4]? = some (.privateMethod C.y)) (w5 : B.tb[i5]? = some (.initialized C.y.cls)) (w6 : B.tb[i6]? = some (.code C.y C.by C.ml C.rt))
    (hy : C.y.cls ≠ "java/lang/invoke/MethodHandle" ∧ C.y.cls ≠ "java/lang/invoke/VarHandle") {ps : List FieldType} {rt : Option FieldType} (hpd : parseMethodDescriptor C.y.desc = some ⟨ps, rt⟩) (hlen : argsL.length = ps.length) (hs : Ls.size = B.ml) (hst : st = argsL.reverse ++ .ref a :: rest) {W : Nat} (hW : (rest.map fun v => v.category).sum ≤ W) (hf : C.R.frames + 1 ≤ B.R.frames) (hl : W + (C.ml + 11) + C.R.locals ≤ B.R.locals) (hc : k + C.R.cells ≤ B.R.cells) (hn : n + C.R.slots ≤ B.R.slots)
    (r : ∀ (v : Option Value) (h' : Heap), Qc v h' → Go Q Z B (k + C.R.cells) (n + C.R.slots) h' pc' Ls (v.toList ++ rest)) : Go Q Z B k n h pc Ls st := fun x T P => by
  subst hp hst
  obtain ⟨a0, hw⟩ := P.wd.w
  obtain ⟨E, O', locs, X, e, N⟩ := id P
  have hsel0 : (Cond.selects C.y.cls C.y C.y).before a0 Z = true := by
    obtain ⟨mk, methM, hnamed, -, -, -⟩ := Cond.instanceMethod_spec (hw w2)
    obtain ⟨kr, q1, q2⟩ := notFace_of_selects (hw w3) mk hnamed
    exact selects_self_of_private (findClass_of_methodNamed hnamed) q1 q2 (Cond.privateMethod_at (hw w4)) (hw w2) hy
  obtain ⟨cq, qa, qb⟩ := Ea.cell
  obtain ⟨v, vm₁, ⟨T1, L1, k1, n1⟩, -, X1, ⟨Lc, hQ, l1, y1, z1⟩, st1⟩ := X.privateBack P.ex (y := C.y) E.own (mvT E.zz (hw w1)) (mvT E.zz (hw w2)) (mvT E.zz hsel0) (Cond.privateMethod_at (mvP E.zz (hw w4) (args := #[]))) (mvT E.zz (hw w6)) hy (K.back (W := W) P i6 i5 w6 w5 hf hl) (g := mkF x.m pc Ls (argsL.reverse ++ .ref a :: rest)) rfl (by rw [E.ml]; exact hs) (Steps.refl _) (a := a) (by rw [e]; exact qa) qb (argsL := argsL) (rest := rest) (lenOf hpd hlen) rfl (by show 2 * 0 + _ ≤ _; omega) (P.d hd) (fun _ _ => ⟨rfl, e, hc, hn⟩)
  dsimp only [Pt.U, Pt.locs, Pt.cells, Pt.slots] at X1 l1 y1 z1 st1 hQ
  subst l1 y1 z1
  exact liftS st1 (r v T1.heap hQ.1 x T1 ⟨E, hQ.2.1, _, X1, rfl, N.app hQ.2.2⟩)
theorem Go.callU (pc' : Nat) (hp : pc + 3 = pc') {C : Bd} {Qc : Option Value → Heap → Prop} {ix : Nat} {K D' : String} {y' : MethodName} (a : Addr) (argsL : List Value) {st : List Value} (i1 i2 i3 i4 i5 i6 : Nat) (Kc : Con Z C (.ref a :: argsL).toArray h Qc) (F : Ins Z h a K true) (hd : decode B.by pc = .ok (.invokespecial ix, 3)) (w1 : B.tb[i1]? = some (.methodLink B.y.cls ix C.y)) (w2 : B.tb[i2]? = some (.instanceMethod C.y)) (w3 : B.tb[i3]? = some (.initialized C.y.cls)) (w4 : B.tb[i4]? = some (.code C.y C.by C.ml C.rt)) (w5 : B.tb[i5]? = some (.superclass B.y.cls C.y.cls)) (w6 : B.tb[i6]? = some (.selects D' y' y')) (hyc : y'.cls = C.y.cls) (hi : C.y.name ≠ "<init>")
    (hy : C.y.cls ≠ "java/lang/invoke/MethodHandle" ∧ C.y.cls ≠ "java/lang/invoke/VarHandle") {ps : List FieldType} {rt : Option FieldType} (hpd : parseMethodDescriptor C.y.desc = some ⟨ps, rt⟩) (hlen : argsL.length = ps.length) (hs : Ls.size = B.ml) (hst : st = argsL.reverse ++ .ref a :: rest) {W : Nat} (hW : (rest.map fun v => v.category).sum ≤ W) (hf : C.R.frames + 1 ≤ B.R.frames) (hl : W + (C.ml + 11) + C.R.locals ≤ B.R.locals) (hc : k + C.R.cells ≤ B.R.cells) (hn : n + C.R.slots ≤ B.R.slots)
    (r : ∀ (v : Option Value) (h' : Heap), Qc v h' → Go Q Z B (k + C.R.cells) (n + C.R.slots) h' pc' Ls (v.toList ++ rest)) : Go Q Z B k n h pc Ls st := fun x T P => by
  subst hp hst
  obtain ⟨a0, hw⟩ := P.wd.w
  obtain ⟨E, O', locs, X, e, N⟩ := id P
  have hsame : (Cond.sameMethod C.y.cls C.y.cls C.y.name C.y.desc).before a0 Z = true := by
    obtain ⟨mk, methM, hnamed, -, -, -⟩ := Cond.instanceMethod_spec (hw w2)
    obtain ⟨c2, r2, m2, q1, q2, q3, q4, kP, hkP, hkPi⟩ := Cond.selects_spec (hw w6)
    have h1 := findClass_of_methodNamed hnamed
    have h2 := findClass_of_methodNamed q3
    rw [hyc] at h2
    have hc := Option.some.inj (h2.symm.trans h1)
    have hf : Z.methodFound? C.y.cls C.y.name C.y.desc = some mk := State.methodFound?_of_named hnamed hy
    rw [hc] at hkP
    simp [Cond.before, Cond.holds, Cond.value, h1, hf, hnamed, hkP, hkPi]
  obtain ⟨v, vm₁, ⟨T1, L1, k1, n1⟩, -, X1, ⟨Lc, hQ, l1, y1, z1⟩, st1⟩ := superBack X P.ex E.zz (y := C.y) E.own (hw w1) hsame (hw w2) (hw w5) hi (Kc.back (W := W) P i4 i3 w4 w3 hf hl) e F (g := mkF x.m pc Ls (argsL.reverse ++ .ref a :: rest)) rfl (by rw [E.ml]; exact hs) (hw w4) (argsL := argsL) (rest := rest) (lenOf hpd hlen) rfl (by show 2 * 0 + _ ≤ _; omega) (P.d hd) (fun _ _ => ⟨rfl, e, hc, hn⟩)
  dsimp only [Pt.U, Pt.locs, Pt.cells, Pt.slots] at X1 l1 y1 z1 st1 hQ
  subst l1 y1 z1
  exact liftS st1 (r v T1.heap hQ.1 x T1 ⟨E, hQ.2.1, _, X1, rfl, N.app hQ.2.2⟩)
theorem Go.callVZ (pc' : Nat) (hp : pc + 3 = pc') {C : Bd} {Qc : Option Value → Heap → Prop} {ix : Nat} {y y' : MethodName} {D D' : String} (a : Addr) (argsL : List Value) {st : List Value} (i1 i2 i3 i4 i5 i6 i7 : Nat) (K : Con Z C (.ref a :: argsL).toArray h Qc) (Ea : Exa Z h a D) (hd : decode B.by pc = .ok (.invokevirtual ix, 3)) (w1 : B.tb[i1]? = some (.methodLink B.y.cls ix y)) (w2 : B.tb[i2]? = some (.declares y)) (w3 : B.tb[i3]? = some (.selects D y C.y)) (w4 : B.tb[i4]? = some (.instanceMethod C.y)) (w5 : B.tb[i5]? = some (.initialized C.y.cls)) (w6 : B.tb[i6]? = some (.code C.y C.by C.ml C.rt)) (w7 : B.tb[i7]? = some (.selects D' y' y')) (hyc : y'.cls = y.cls)
    (hy : y.cls ≠ "java/lang/invoke/MethodHandle" ∧ y.cls ≠ "java/lang/invoke/VarHandle") {ps : List FieldType} {rt : Option FieldType} (hpd : parseMethodDescriptor y.desc = some ⟨ps, rt⟩) (hlen : argsL.length = ps.length) (hs : Ls.size = B.ml) (hst : st = argsL.reverse ++ .ref a :: rest) {W : Nat} (hW : (rest.map fun v => v.category).sum ≤ W) (hf : C.R.frames + 1 ≤ B.R.frames) (hl : W + (C.ml + 11) + C.R.locals ≤ B.R.locals) (hc : k + C.R.cells ≤ B.R.cells) (hn : n + C.R.slots ≤ B.R.slots)
    (r : ∀ (v : Option Value) (h' : Heap), Qc v h' → Go Q Z B (k + C.R.cells) (n + C.R.slots) h' pc' Ls (v.toList ++ rest)) : Go Q Z B k n h pc Ls st := fun x T P => by
  subst hp hst
  obtain ⟨a0, hw⟩ := P.wd.w
  obtain ⟨E, O', locs, X, e, N⟩ := id P
  have hnf : NotFace x.s y := by
    obtain ⟨c2, r2, m2, q1, q2, q3, q4, kP, hkP, hkPi⟩ := Cond.selects_spec (mvT E.zz (hw w7) : (Cond.selects D' y' y').before #[] x.s = true)
    intro r0 h0
    have h1 := findClass_of_methodNamed h0
    have h2 := findClass_of_methodNamed q3
    rw [hyc] at h2
    have hc := Option.some.inj (h2.symm.trans h1)
    rw [hc] at hkP
    exact ⟨kP, hkP, hkPi⟩
  obtain ⟨cq, kq, qa, qb, qc⟩ := isOf E.zz e Ea
  obtain ⟨v, vm₁, ⟨T1, L1, k1, n1⟩, -, X1, ⟨Lc, hQ, l1, y1, z1⟩, st1⟩ := X.virtualBack P.ex (y := y) (z := C.y) E.own (mvT E.zz (hw w1)) (mvT E.zz (hw w2)) hnf (mvT E.zz (hw w3)) (mvT E.zz (hw w4)) hy (K.back (W := W) P i6 i5 w6 w5 hf hl) qa qc (g := mkF x.m pc Ls (argsL.reverse ++ .ref a :: rest)) rfl (by rw [E.ml]; exact hs) (Steps.refl _) (argsL := argsL) (rest := rest) (lenOf hpd hlen) rfl (by show 2 * 0 + _ ≤ _; omega) (P.d hd) (fun _ _ => ⟨rfl, e, hc, hn⟩)
  dsimp only [Pt.U, Pt.locs, Pt.cells, Pt.slots] at X1 l1 y1 z1 st1 hQ
  subst l1 y1 z1
  exact liftS st1 (r v T1.heap hQ.1 x T1 ⟨E, hQ.2.1, _, X1, rfl, N.app hQ.2.2⟩)
def ConW (hs : List (Nat × Nat × Nat × Nat)) (Z : State) (B : Bd) (as : Array Value) (h0 : Heap) (Q : Option Value → Heap → Prop) : Prop :=
  Ext Z.heap h0 → ∀ (l : Launch) (ws : List Cond), MetFree l B.y (head1 (Cond.codeWith B.y B.by B.ml B.rt hs :: ws) B.R) (fun a U => a = as ∧ Z.Warmed39 U.vm ∧ U.heap = h0) (fun _ _ _ _ _ => True)
    (fun _ U o U' => ∃ v L, o = .returned v ∧ (Q v U'.heap ∧ Ext Z.heap U'.heap ∧ Fr Z.heap.size L) ∧ FrameEnd U o U' L B.R.cells B.R.slots)
theorem ConW.mk {hs : List (Nat × Nat × Nat × Nat)} {as : Array Value} {h0 : Heap} (hw : Wd Z B.tb) (hpn : plainFor B.y = true) (hef : ∀ m, entryFrame m as B.ml = mkF m 0 Ls [])
    (body : Go Q Z B 0 0 h0 0 Ls []) : ConW hs Z B as h0 Q := by
  intro hE l ws
  refine MetFree.of_bodySF hpn hisWith ?_
  intro p e s m args below meth c s₁ Bd hml0 hP hK
  obtain ⟨rfl, hZ, hh⟩ := hP
  have X0 : Stand p l e B.R s m args below meth c s₁ [] 0 0 := Stand.of_body Bd
  have e0 : s₁.heap = h0 := by rw [← hh, Bd.state]; rfl
  obtain ⟨t, o, h1, h2, h3, h4⟩ := body (p, l, e, s, m, args, below, meth, c) s₁ ⟨⟨Bd.exec, Bd.bytes, hml0, findClass_of_methodNamed Bd.named, (name_of_methodNamed Bd.named Bd.method).1, Bd.returns, hZ, Bd.notSynchronized, hw⟩, hE, [], X0, e0, Fr.nil _⟩
  exact ⟨t, o, castTop (hef m) h1, h2, h3, h4⟩
theorem ConW.back {hs : List (Nat × Nat × Nat × Nat)} {C : Bd} {as : Array Value} {Qc : Option Value → Heap → Prop} {len W : Nat} (K : ConW hs Z C as h Qc) (P : Sp Z x B T k n h) (i j : Nat) (wc : B.tb[i]? = some (.codeWith C.y C.by C.ml C.rt hs)) (wz : B.tb[j]? = some (.initialized C.y.cls)) (hf : C.R.frames + 1 ≤ B.R.frames) (hl : W + (C.ml + 11) + C.R.locals ≤ B.R.locals) :
    Back x.l B.R x.p x.e x.below x.s x.args C.y len W (fun A a => a = as ∧ A.U.heap = h ∧ A.cells + C.R.cells ≤ B.R.cells ∧ A.slots + C.R.slots ≤ B.R.slots)
      (fun A _ v D => ∃ L, (Qc v D.U.heap ∧ Ext Z.heap D.U.heap ∧ Fr Z.heap.size L) ∧ D.locs = A.locs ++ L ∧ D.cells = A.cells + C.R.cells ∧ D.slots = A.slots + C.R.slots) := by
  obtain ⟨a0, hw⟩ := P.wd.w
  exact backOfWith (a0 := a0) (Q := fun v h' L => Qc v h' ∧ Ext Z.heap h' ∧ Fr Z.heap.size L) (K P.old x.l []) P.1.zz (hw wc) (hw wz) hf hl
theorem Go.callIW (pc' : Nat) (hp : pc + 3 = pc') {hs' : List (Nat × Nat × Nat × Nat)} {C : Bd} {Qc : Option Value → Heap → Prop} {ix : Nat} (a : Addr) (argsL : List Value) {st : List Value} (i1 i2 i3 i4 : Nat) (K : ConW hs' Z C (.ref a :: argsL).toArray h Qc) (hd : decode B.by pc = .ok (.invokespecial ix, 3)) (w1 : B.tb[i1]? = some (.methodLink B.y.cls ix C.y)) (w2 : B.tb[i2]? = some (.instanceMethod C.y)) (w3 : B.tb[i3]? = some (.initialized C.y.cls)) (w4 : B.tb[i4]? = some (.codeWith C.y C.by C.ml none hs')) (hrt : C.rt = none) (hi : C.y.name = "<init>")
    (hy : C.y.cls ≠ "java/lang/invoke/MethodHandle" ∧ C.y.cls ≠ "java/lang/invoke/VarHandle") {ps : List FieldType} {rt : Option FieldType} (hpd : parseMethodDescriptor C.y.desc = some ⟨ps, rt⟩) (hlen : argsL.length = ps.length) (hs : Ls.size = B.ml) (hst : st = argsL.reverse ++ .ref a :: rest) {W : Nat} (hW : (rest.map fun v => v.category).sum ≤ W) (hf : C.R.frames + 1 ≤ B.R.frames) (hl : W + (C.ml + 11) + C.R.locals ≤ B.R.locals) (hc : k + C.R.cells ≤ B.R.cells) (hn : n + C.R.slots ≤ B.R.slots)
    (r : ∀ (v : Option Value) (h' : Heap), Qc v h' → Go Q Z B (k + C.R.cells) (n + C.R.slots) h' pc' Ls (v.toList ++ rest)) : Go Q Z B k n h pc Ls st := fun x T P => by
  subst hp hst
  obtain ⟨a0, hw⟩ := P.wd.w
  obtain ⟨E, O', locs, X, e, N⟩ := id P
  obtain ⟨v, vm₁, ⟨T1, L1, k1, n1⟩, -, X1, ⟨Lc, hQ, l1, y1, z1⟩, st1⟩ := X.specialBackH P.ex (y := C.y) hi E.own (mvT E.zz (hw w1)) (mvT E.zz (hw w2)) (mvT E.zz (hw w4)) hy (K.back (W := W) P i4 i3 (by rw [hrt]; exact w4) w3 hf hl) (g := mkF x.m pc Ls (argsL.reverse ++ .ref a :: rest)) rfl (by rw [E.ml]; exact hs) (Steps.refl _) (a := a) (argsL := argsL) (rest := rest) (lenOf hpd hlen) rfl (by show 2 * 0 + _ ≤ _; omega) (P.d hd) (fun _ _ => ⟨rfl, e, hc, hn⟩)
  dsimp only [Pt.U, Pt.locs, Pt.cells, Pt.slots] at X1 l1 y1 z1 st1 hQ
  subst l1 y1 z1
  exact liftS st1 (r v T1.heap hQ.1 x T1 ⟨E, hQ.2.1, _, X1, rfl, N.app hQ.2.2⟩)
end St
end Jvm.Ow
namespace Jvm.Ow
open Sem ClassFile Op Lib Jvm.Stand Jvm.Free Jvm.LawKit Jvm.RoadKit
section More
variable {Q : Option Value → Heap → Prop} {Z : State} {x : Cx} {B : Bd} {T : State} {k n : Nat} {h h' : Heap} {pc : Nat} {Ls Ls' : Array Slot} {st rest : List Value}
theorem ary_arv {a : Addr} {c0 : ClassId} {ty : FieldType} {z : Int32} {vs : List Value} {d : Value} (F : Arv Z h a c0 ty z vs d) (hl : z.toNatClampNeg = vs.length) : Ary Z h a ty vs := by
  obtain ⟨c, A, -, S, hz, H, G⟩ := F
  have e : c.slots.toList = vs := by
    apply List.ext_getElem?
    intro i
    rw [Array.getElem?_toList]
    by_cases hi : i < vs.length
    · rw [H i (by omega)]
      simp [List.getD, hi]
    · rw [List.getElem?_eq_none (by omega), Array.getElem?_eq_none (by omega)]
  refine ⟨c, A, e, ?_, fun v hv => ?_⟩
  · rw [← hl]; have := nat_of (j := z) hz; have := z.toInt_lt; omega
  · obtain ⟨i, hi, rfl⟩ := List.mem_iff_getElem.mp hv
    have := G i (by omega)
    simpa [List.getD, hi] using this
theorem arv_of_ary {a : Addr} {ty : FieldType} {vs : List Value} (A : Ary Z h a ty vs) : ∃ c0, Arv Z h a c0 ty (Int32.ofNat vs.length) vs .null := by
  obtain ⟨c, A, e1, e2, e3⟩ := A
  have hs : c.slots.size = vs.length := by rw [← e1]; simp
  have hz : (Int32.ofNat vs.length).toInt = vs.length := len_ofNat e2
  have at' : ∀ i, i < c.slots.size → c.slots[i]? = some (vs.getD i .null) := fun i hi => by
    rw [slots_at e1]; simp [List.getD, List.getElem?_eq_getElem (show i < vs.length by omega)]
  refine ⟨c.cls, c, A, rfl, by rw [hs, ix_nat hz], ?_, at', fun i hi => ?_⟩
  · rw [Int32.lt_iff_toInt_lt]; have : (0 : Int32).toInt = 0 := rfl; omega
  · refine e3 _ ?_
    have hi' : i < vs.length := by omega
    simp only [List.getD, List.getElem?_eq_getElem hi', Option.getD_some]
    exact List.getElem_mem hi'
theorem cp_list (vs : List Value) (d : Value) {s0 n0 : Nat} (h4 : s0 + n0 ≤ vs.length) : (List.range n0).map (fun i => vs.getD (s0 + i) d) = (vs.drop s0).take n0 := by
  apply List.ext_getElem?
  intro i
  by_cases hi : i < n0
  · rw [List.getElem?_take_of_lt hi, List.getElem?_drop, List.getElem?_map, List.getElem?_range hi]
    simp [List.getD, List.getElem?_eq_getElem (show s0 + i < vs.length by omega)]
  · rw [List.getElem?_eq_none (by simp; omega), List.getElem?_eq_none (by simp; omega)]
theorem Go.acopy (pc' : Nat) (hp : pc + 3 = pc') {ix : Nat} {a b : Addr} {ty : FieldType} {vs vd : List Value} {sp dp nn : Int32} (us : List Value) (i1 i2 i3 i4 : Nat) (hd : decode B.by pc = .ok (.invokestatic ix, 3)) (w1 : B.tb[i1]? = some (.methodLink B.y.cls ix Jvm.Stand.acN)) (w2 : B.tb[i2]? = some (.native Jvm.Stand.acN)) (w3 : B.tb[i3]? = some (.static Jvm.Stand.acN)) (w4 : B.tb[i4]? = some (.initialized "java/lang/System")) (hty : refKind ty = false) (A : Ary Z h a ty vs) (D : Ary Z h b ty vd) (s0 d0 n0 : Nat) (hs : sp.toInt = s0) (hd0 : dp.toInt = d0) (hn : nn.toInt = n0) (h4 : s0 + n0 ≤ vs.length) (h5 : d0 + n0 ≤ vd.length) (hus : vd.take d0 ++ (vs.drop s0).take n0 ++ vd.drop (d0 + n0) = us) (ge : Z.heap.size ≤ b) (hsz : Ls.size = B.ml) (hf : 1 ≤ B.R.frames) {W : Nat} (hW : (st.map fun v => v.category).sum ≤ W) (hl : W + (nativeFrameWords "java/lang/System" "arraycopy" 5 + 11) ≤ B.R.locals)
    (r : ∀ h' : Heap, Keep h h' [b] → Ary Z h' b ty us → Go Q Z B k n h' pc' Ls st) : Go Q Z B k n h pc Ls (.int nn :: .int dp :: .ref b :: .int sp :: .ref a :: st) := fun x T P => by
  subst hp
  obtain ⟨a0, hw⟩ := P.wd.w
  obtain ⟨E, O', locs, X, e, N⟩ := id P
  have z0 : (0 : Int32).toInt = 0 := rfl
  obtain ⟨ca, Aa⟩ := arv_of_ary A
  obtain ⟨cb, Ab⟩ := arv_of_ary D
  have la := ix_nat (len_ofNat A.len)
  have lb := ix_nat (len_ofNat D.len)
  obtain ⟨T', h', L, X', e', N', K', A', s'⟩ := cpA X P.ex E.zz E.own (hw w1) (hw w2) (hw w3) (hw w4) e Aa Ab (us := (vs.drop s0).take n0) (Or.inl ⟨rfl, hty⟩) (sp := sp) (dp := dp) (nn := nn) (by rw [Int32.lt_iff_toInt_lt]; omega) (by rw [Int32.lt_iff_toInt_lt]; omega) (by rw [Int32.lt_iff_toInt_lt]; omega) (by rw [ix_nat hs, ix_nat hn, la]; exact h4) (by rw [ix_nat hd0, ix_nat hn, lb]; exact h5) (by rw [ix_nat hs, ix_nat hn]; exact (cp_list vs _ h4).symm) (by rw [ix_nat hd0, ix_nat hn]; exact h5) N ge (g := mkF x.m pc Ls (.int nn :: .int dp :: .ref b :: .int sp :: .ref a :: st)) rfl (by rw [E.ml]; exact hsz) rfl (P.d hd) hf (W := W) (by show 2 * 0 + _ ≤ _; omega) hl
  rw [ix_nat hd0, ix_nat hn, hus] at A'
  have hlen : us.length = vd.length := by rw [← hus]; simp; omega
  exact lift s' (r h' K' (ary_arv A' (by rw [lb, hlen])) x T' ⟨E, ext_keep O' K' (ge1 ge), L, X', e', N'⟩)
theorem Go.clone (pc' : Nat) (hp : pc + 3 = pc') {ix : Nat} {ad : String} {a : Addr} {ty : FieldType} {vs : List Value} (cap i1 i2 i3 i4 i5 i6 : Nat) (hd : decode B.by pc = .ok (.invokevirtual ix, 3)) (w1 : B.tb[i1]? = some (.methodLink B.y.cls ix ⟨ad, "clone", "()Ljava/lang/Object;"⟩)) (w2 : B.tb[i2]? = some (.sameMethod ad "java/lang/Object" "clone" "()Ljava/lang/Object;")) (w3 : B.tb[i3]? = some (.native ⟨"java/lang/Object", "clone", "()Ljava/lang/Object;"⟩)) (w4 : B.tb[i4]? = some (.instanceMethod ⟨"java/lang/Object", "clone", "()Ljava/lang/Object;"⟩)) (w5 : B.tb[i5]? = some (.selects ad ⟨ad, "clone", "()Ljava/lang/Object;"⟩ ⟨"java/lang/Object", "clone", "()Ljava/lang/Object;"⟩)) (w6 : B.tb[i6]? = some (.castable ad "java/lang/Cloneable")) (A : Ary Z h a ty vs) (Ea : Exa Z h a ad) (hsz : Ls.size = B.ml) (hf : 1 ≤ B.R.frames) {W : Nat} (hW : (st.map fun v => v.category).sum ≤ W) (hl : W + 14 ≤ B.R.locals) (hcap : vs.length ≤ cap) (hc : k + 1 ≤ B.R.cells) (hn : n + cap ≤ B.R.slots)
    (r : ∀ (h' : Heap) (b : Addr), @Eq Nat b h.size → Z.heap.size ≤ b → Keep h h' [] → Ary Z h' b ty vs → Exa Z h' b ad → Go Q Z B (k + 1) (n + cap) h' pc' Ls (.ref b :: st)) : Go Q Z B k n h pc Ls (.ref a :: st) := fun x T P => by
  subst hp
  obtain ⟨a0, hw⟩ := P.wd.w
  obtain ⟨E, O', locs, X, e, N'⟩ := id P
  obtain ⟨c, A, e1, e2, e3⟩ := A
  have hs : c.slots.size = vs.length := by rw [← e1]; simp
  have FC : FitC Z c := fitC_of A fun i hi v hv => e3 v (by rw [slots_at e1] at hv; exact List.mem_of_getElem? hv)
  obtain ⟨T', h', X', e', Ex, A', E', s'⟩ := cloneA X P.ex E.zz E.own (hw w1) (hw w2) (hw w3) (hw w4) (hw w5) (hw w6) e A Ea FC (g := mkF x.m pc Ls (.ref a :: st)) rfl (by rw [E.ml]; exact hsz) rfl (P.d hd) hf (W := W) (cap := cap) (by show 2 * 0 + _ ≤ _; omega) hl (by omega) hc hn
  exact lift s' (r h' h.size rfl P.le (keep_ext Ex) ⟨_, A', e1, e2, e3⟩ E' x T' ⟨E, ⟨Nat.le_trans O'.1 Ex.1, fun y c q => Ex.2 y c (O'.2 y c q)⟩, locs, X', e', N'⟩)
end More
theorem own_na {Z : State} {h : Heap} {tb : List Cond} (hw : Wd Z tb) {C : String} {sz : Nat} (i : Nat) (w : tb[i]? = some (.instantiable C sz)) {a b : Addr} {ty : FieldType} {vs : List Value} (F : Exa Z h a C) (G : Ary Z h b ty vs) : b ≠ a := by
  obtain ⟨a0, hw⟩ := hw.w
  obtain ⟨c, A, -⟩ := G
  exact (ne_arr F (hw w) A).symm
theorem own_ins {Z : State} {h : Heap} {tb : List Cond} (hw : Wd Z tb) {C K : String} (i : Nat) (w : tb[i]? = some (.castable C K)) {a : Addr} (F : Exa Z h a C) : Ins Z h a K true := by
  obtain ⟨a0, hw⟩ := hw.w
  exact Ins.of_exa F (hw w)
end Jvm.Ow
namespace Jvm.Ox
open Jvm.Ow Sem ClassFile Op Lib Jvm.Stand Jvm.Free Jvm.LawKit Jvm.RoadKit
def EL : List (String × Nat) := [("java/lang/String", 7), ("com/example/umweg/umweg/core/Field", 59)]
abbrev Cx : Type := Program × Launch × Env × State × MethodId × Array Value × List Frame × Method × Code × State
def Cx.p (x : Cx) : Program := x.1
def Cx.l (x : Cx) : Launch := x.2.1
def Cx.e (x : Cx) : Env := x.2.2.1
def Cx.s (x : Cx) : State := x.2.2.2.1
def Cx.m (x : Cx) : MethodId := x.2.2.2.2.1
def Cx.args (x : Cx) : Array Value := x.2.2.2.2.2.1
def Cx.below (x : Cx) : List Frame := x.2.2.2.2.2.2.1
def Cx.meth (x : Cx) : Method := x.2.2.2.2.2.2.2.1
def Cx.c (x : Cx) : Code := x.2.2.2.2.2.2.2.2.1
def Cx.o (x : Cx) : State := x.2.2.2.2.2.2.2.2.2
def Cx.reb (x : Cx) (vm : Vm) : Cx := (x.p, x.l, x.e, x.o.setVm vm, x.m, x.args, x.below, x.meth, x.c, x.o)
def Sn (x : Cx) (h : Heap) : Prop := ∃ (vm0 : Vm) (k0 : Nat), x.s = x.o.setVm vm0 ∧ x.o.Since vm0 k0 ∧ k0 ≤ h.size
theorem Sn.mono {x : Cx} {h h' : Heap} (S : Sn x h) (q : h.size ≤ h'.size) : Sn x h' := by obtain ⟨a, b, c, d, e⟩ := S; exact ⟨a, b, c, d, Nat.le_trans e q⟩
def En (CC : Cx → Prop) (Z : State) (x : Cx) (B : Bd) : Prop := x.p.tables.exec = Jvm.exec ∧ x.c.code = B.by ∧ x.c.maxLocals = B.ml ∧ x.s.vm.findClass B.y.cls = some x.m.cls ∧ x.meth.name = B.y.name ∧ x.meth.sig.returnType = B.rt ∧ Z.Warmed39 x.s.vm ∧ x.meth.locks = false ∧ Wd Z B.tb ∧ CC x
def Sp (CC : Cx → Prop) (Z : State) (x : Cx) (B : Bd) (T : State) (k n : Nat) (h : Heap) : Prop := En CC Z x B ∧ (Ext Z.heap h ∧ Sn x h) ∧ ∃ locs, Stand x.p x.l x.e B.R x.s x.m x.args x.below x.meth x.c T locs k n ∧ T.heap = h ∧ Fr Z.heap.size locs
def Rn (Q : Option Value → Heap → Prop) (Z : State) (x : Cx) (B : Bd) (T : State) (pc : Nat) (Ls : Array Slot) (st : List Value) : Prop :=
  ∃ t o, Steps x.p.tables x.e x.below (T.setTop (mkF x.m pc Ls st)) t ∧ t.status = .running ∧ Ended t x.below o ∧ ∃ v L, o = .returned v ∧ (Q v t.heap ∧ Ext Z.heap t.heap ∧ Fr Z.heap.size L) ∧ ReturnedEndW x.o o t L B.R.cells B.R.slots ∧ CHr Z EL x.o.vm x.o.heap t.vm t.heap
def GoC (CC : Cx → Prop) (Q : Option Value → Heap → Prop) (Z : State) (B : Bd) (k n : Nat) (h : Heap) (pc : Nat) (Ls : Array Slot) (st : List Value) : Prop := ∀ (x : Cx) (T : State), Sp CC Z x B T k n h → Rn Q Z x B T pc Ls st
def Hd (Z : State) (hb : Heap) (S : List Addr) : Cx → Prop := fun x => CHr Z EL x.o.vm x.o.heap x.s.vm hb ∧ (∀ a ∈ S, Safe Z EL x.s.vm hb a) ∧ ∃ a0, EW Z a0 EL
theorem hd_now {Z : State} {x : Cx} {B : Bd} {hb h : Heap} {S ws : List Addr} (E : En (Hd Z hb S) Z x B) (K : Keep hb h ws) (hs : ∀ a ∈ ws, a ∈ S) : CHv Z EL x.s.vm h ∧ CHr Z EL x.o.vm x.o.heap x.s.vm h ∧ ∃ a0, EW Z a0 EL := by
  obtain ⟨h1, h2, h3⟩ := E.2.2.2.2.2.2.2.2.2
  have r := CHr.keep K (fun a q => h2 a (hs a q)) h1.1
  exact ⟨r.1, h1.trans r, h3⟩
theorem hd_safe {Z : State} {x : Cx} {B : Bd} {hb h : Heap} {S ws : List Addr} (E : En (Hd Z hb S) Z x B) (K : Keep hb h ws) (hs : ∀ a ∈ ws, a ∈ S) {a : Addr} (ha : a ∈ S ∨ hb.size ≤ a) : Safe Z EL x.s.vm h a := by
  obtain ⟨h1, h2, h3⟩ := E.2.2.2.2.2.2.2.2.2
  refine Safe.keep K (fun a q => h2 a (hs a q)) h1.1 ?_
  rcases ha with q | q
  · exact h2 a q
  · exact Safe.new q
theorem con_grow {Z : State} {B : Bd} {as : Array Value} {h0 : Heap} {Q : Option Value → Heap → Prop} (C : Con Z B as h0 Q) : Con Z B as h0 (fun v h => Q v h ∧ h0.size ≤ h.size) := fun hE l ws =>
  (C hE l ws).mono (fun _ _ h => h) (fun _ _ _ _ _ h => h) fun _ U _ U' hp ⟨v, L, h1, h2, h3⟩ => ⟨v, L, h1, ⟨⟨h2.1, by have q := h3.2.2.2.1; rw [hp.2.2] at q; exact q⟩, h2.2⟩, h3⟩
section St
variable {CC : Cx → Prop} {Q : Option Value → Heap → Prop} {Z : State} {x : Cx} {B : Bd} {T : State} {k n : Nat} {h h' : Heap} {pc : Nat} {Ls Ls' : Array Slot} {st rest : List Value}
theorem Sp.here (P : Sp CC Z x B T k n h) : At T x.m x.c x.below := by obtain ⟨_, _, _, X, _⟩ := P; exact X.here
theorem Sp.ex (P : Sp CC Z x B T k n h) : x.p.tables.exec = Jvm.exec := P.1.1
theorem Sp.d (P : Sp CC Z x B T k n h) {r : Except DecodeError (Instr × Nat)} (hd : decode B.by pc = r) : decode x.c.code pc = r := by rw [P.1.2.1]; exact hd
theorem Sp.old (P : Sp CC Z x B T k n h) : Ext Z.heap h := P.2.1.1
theorem Sp.wd (P : Sp CC Z x B T k n h) : Wd Z B.tb := P.1.2.2.2.2.2.2.2.2.1
theorem Sp.le (P : Sp CC Z x B T k n h) : Z.heap.size ≤ h.size := P.2.1.1.1
theorem lift {T' : State} {pc' : Nat} {st' : List Value} (f : ∀ t, Steps x.p.tables x.e x.below (T'.setTop (mkF x.m pc' Ls' st')) t → Steps x.p.tables x.e x.below (T.setTop (mkF x.m pc Ls st)) t) (r : Rn Q Z x B T' pc' Ls' st') : Rn Q Z x B T pc Ls st := by
  obtain ⟨t, o, h1, h2⟩ := r; exact ⟨t, o, f t h1, h2⟩
theorem liftS {T' : State} {pc' : Nat} {st' : List Value} (f : Steps x.p.tables x.e x.below (T.setTop (mkF x.m pc Ls st)) (T'.setTop (mkF x.m pc' Ls' st'))) (r : Rn Q Z x B T' pc' Ls' st') : Rn Q Z x B T pc Ls st := by
  obtain ⟨t, o, h1, h2⟩ := r; exact ⟨t, o, f.trans h1, h2⟩
theorem Go.nameI {z : Int32} (r : ∀ v, z = v → GoC CC Q Z B k n h pc Ls (.int v :: st)) : GoC CC Q Z B k n h pc Ls (.int z :: st) := r z rfl
theorem Go.joinI {pcJ : Nat} {LsJ : Array Slot} {stJ : List Value} (G : Int32 → Prop) (s : (∀ v, G v → GoC CC Q Z B k n h pcJ LsJ (.int v :: stJ)) → GoC CC Q Z B k n h pc Ls st) (r : ∀ v, G v → GoC CC Q Z B k n h pcJ LsJ (.int v :: stJ)) : GoC CC Q Z B k n h pc Ls st := s r
theorem Go.old (r : Ext Z.heap h → GoC CC Q Z B k n h pc Ls st) : GoC CC Q Z B k n h pc Ls st := fun x T P => r P.old x T P
theorem Go.iload (pc' : Nat) (hp : pc + 2 = pc') {i : Nat} {v : Int32} (hd : decode B.by pc = .ok (.iload i, 2)) (hl : Ls[i]? = some (.val (.int v))) (r : GoC CC Q Z B k n h pc' Ls (.int v :: st)) : GoC CC Q Z B k n h pc Ls (st) := fun x T P => by
  subst hp; exact lift (fun t q => XS.iload P.here P.ex rfl (P.d hd) hl q) (r x T P)
theorem Go.iloadN (pc' : Nat) (hp : pc + 1 = pc') {i : Fin 4} {v : Int32} (hd : decode B.by pc = .ok (.iload_n i, 1)) (hl : Ls[i.val]? = some (.val (.int v))) (r : GoC CC Q Z B k n h pc' Ls (.int v :: st)) : GoC CC Q Z B k n h pc Ls (st) := fun x T P => by
  subst hp; exact lift (fun t q => XS.iloadN P.here P.ex rfl (P.d hd) hl q) (r x T P)
theorem Go.istore (pc' : Nat) (hp : pc + 2 = pc') {i : Nat} {v : Int32} (hd : decode B.by pc = .ok (.istore i, 2))  (hl : storeLocals Ls i (.int v) = some Ls') (r : GoC CC Q Z B k n h pc' Ls' (st)) : GoC CC Q Z B k n h pc Ls (.int v :: st) := fun x T P => by
  subst hp; exact lift (fun t q => XS.istore P.here P.ex rfl (P.d hd) rfl hl q) (r x T P)
theorem Go.aload (pc' : Nat) (hp : pc + 2 = pc') {i : Nat} {v : Value} (hd : decode B.by pc = .ok (.aload i, 2)) (hl : Ls[i]? = some (.val (v))) (hv : v.isRef = true) (r : GoC CC Q Z B k n h pc' Ls (v :: st)) : GoC CC Q Z B k n h pc Ls (st) := fun x T P => by
  subst hp; exact lift (fun t q => XS.aload P.here P.ex rfl (P.d hd) hl hv q) (r x T P)
theorem Go.aloadN (pc' : Nat) (hp : pc + 1 = pc') {i : Fin 4} {v : Value} (hd : decode B.by pc = .ok (.aload_n i, 1)) (hl : Ls[i.val]? = some (.val (v))) (hv : v.isRef = true) (r : GoC CC Q Z B k n h pc' Ls (v :: st)) : GoC CC Q Z B k n h pc Ls (st) := fun x T P => by
  subst hp; exact lift (fun t q => XS.aloadN P.here P.ex rfl (P.d hd) hl hv q) (r x T P)
theorem Go.astore (pc' : Nat) (hp : pc + 2 = pc') {i : Nat} {v : Value} (hd : decode B.by pc = .ok (.astore i, 2))  (hv : v.isRef = true) (hl : storeLocals Ls i (v) = some Ls') (r : GoC CC Q Z B k n h pc' Ls' (st)) : GoC CC Q Z B k n h pc Ls (v :: st) := fun x T P => by
  subst hp; exact lift (fun t q => XS.astore P.here P.ex rfl (P.d hd) rfl hv hl q) (r x T P)
theorem Go.iconst (pc' : Nat) (hp : pc + 1 = pc') {i : Int} (v : Int32) (hd : decode B.by pc = .ok (.iconst i, 1)) (hv : Int32.ofInt i = v) (r : GoC CC Q Z B k n h pc' Ls (.int v :: st)) : GoC CC Q Z B k n h pc Ls (st) := fun x T P => by
  subst hp; exact lift (fun t q => XT.iconstV P.here P.ex rfl v (P.d hd) hv q) (r x T P)
theorem Go.bipush (pc' : Nat) (hp : pc + 2 = pc') {i : Int} (v : Int32) (hd : decode B.by pc = .ok (.bipush i, 2)) (hv : (Int8.ofInt i).toInt32 = v) (r : GoC CC Q Z B k n h pc' Ls (.int v :: st)) : GoC CC Q Z B k n h pc Ls (st) := fun x T P => by
  subst hp; exact lift (fun t q => XT.bipushV P.here P.ex rfl v (P.d hd) hv q) (r x T P)
theorem Go.sipush (pc' : Nat) (hp : pc + 3 = pc') {i : Int} (v : Int32) (hd : decode B.by pc = .ok (.sipush i, 3)) (hv : (Int16.ofInt i).toInt32 = v) (r : GoC CC Q Z B k n h pc' Ls (.int v :: st)) : GoC CC Q Z B k n h pc Ls (st) := fun x T P => by
  subst hp; exact lift (fun t q => XT.sipushV P.here P.ex rfl v (P.d hd) hv q) (r x T P)
theorem Go.iadd (pc' : Nat) (hp : pc + 1 = pc') {x1 y1 : Int32} (hd : decode B.by pc = .ok (.iadd, 1))  (r : GoC CC Q Z B k n h pc' Ls (.int (x1 + y1) :: st)) : GoC CC Q Z B k n h pc Ls (.int y1 :: .int x1 :: st) := fun x T P => by
  subst hp; exact lift (fun t q => XS.iadd P.here P.ex rfl (P.d hd) rfl q) (r x T P)
theorem Go.iand (pc' : Nat) (hp : pc + 1 = pc') {x1 y1 : Int32} (hd : decode B.by pc = .ok (.iand, 1))  (r : GoC CC Q Z B k n h pc' Ls (.int (x1 &&& y1) :: st)) : GoC CC Q Z B k n h pc Ls (.int y1 :: .int x1 :: st) := fun x T P => by
  subst hp; exact lift (fun t q => XS.iand P.here P.ex rfl (P.d hd) rfl q) (r x T P)
theorem Go.iushr (pc' : Nat) (hp : pc + 1 = pc') {x1 y1 : Int32} (hd : decode B.by pc = .ok (.iushr, 1))  (r : GoC CC Q Z B k n h pc' Ls (.int (XT.ushr x1 y1) :: st)) : GoC CC Q Z B k n h pc Ls (.int y1 :: .int x1 :: st) := fun x T P => by
  subst hp; exact lift (fun t q => XT.iushr P.here P.ex rfl (P.d hd) rfl q) (r x T P)
theorem Go.dup (pc' : Nat) (hp : pc + 1 = pc') {v : Value} (hd : decode B.by pc = .ok (.dup, 1)) (hc : v.category = 1) (r : GoC CC Q Z B k n h pc' Ls (v :: v :: st)) : GoC CC Q Z B k n h pc Ls (v :: st) := fun x T P => by
  subst hp; exact lift (fun t q => XS.dup P.here P.ex rfl (P.d hd) rfl hc q) (r x T P)
theorem Go.pop (pc' : Nat) (hp : pc + 1 = pc') {v : Value} (hd : decode B.by pc = .ok (.pop, 1)) (hc : v.category = 1) (r : GoC CC Q Z B k n h pc' Ls (st)) : GoC CC Q Z B k n h pc Ls (v :: st) := fun x T P => by
  subst hp; exact lift (fun t q => XT.pop P.here P.ex rfl (P.d hd) rfl hc q) (r x T P)
theorem Go.irem (pc' : Nat) (hp : pc + 1 = pc') {x1 y1 : Int32} (hd : decode B.by pc = .ok (.irem, 1)) (hy : y1 ≠ 0) (r : GoC CC Q Z B k n h pc' Ls (.int (x1 % y1) :: st)) : GoC CC Q Z B k n h pc Ls (.int y1 :: .int x1 :: st) := fun x T P => by
  subst hp; obtain ⟨_, _, _, X, _⟩ := id P; exact lift (fun t q => iremM X P.ex rfl (P.d hd) rfl hy q) (r x T P)
theorem Go.goto (pc' : Nat) {o : Int} (hd : decode B.by pc = .ok (.goto o, 3)) (h0 : 0 ≤ (pc : Int) + o) (hp : ((pc : Int) + o).toNat = pc') (r : GoC CC Q Z B k n h pc' Ls st) : GoC CC Q Z B k n h pc Ls st := fun x T P =>
  lift (fun t q => XS.goto P.here P.ex rfl (pc0 := pc) rfl (P.d hd) h0 hp q) (r x T P)
theorem Go.icmp_lt (pT pF : Nat) {x1 y1 : Int32} {o : Int} (hd : decode B.by pc = .ok (.if_icmp .lt o, 3)) (h0 : 0 ≤ (pc : Int) + o) (hT : ((pc : Int) + o).toNat = pT) (hF : pc + 3 = pF) (rT : x1 < y1 → GoC CC Q Z B k n h pT Ls st) (rF : ¬ x1 < y1 → GoC CC Q Z B k n h pF Ls st) : GoC CC Q Z B k n h pc Ls (.int y1 :: .int x1 :: st) := fun x T P => by
  subst hF
  by_cases c : x1 < y1
  · exact lift (fun t q => XS.icmpYes P.here P.ex rfl (pc0 := pc) rfl (P.d hd) rfl (tlt c).1 h0 hT q) (rT c x T P)
  · exact lift (fun t q => XS.icmpNo P.here P.ex rfl (P.d hd) rfl (flt c).1 q) (rF c x T P)
theorem Go.icmp_ge (pT pF : Nat) {x1 y1 : Int32} {o : Int} (hd : decode B.by pc = .ok (.if_icmp .ge o, 3)) (h0 : 0 ≤ (pc : Int) + o) (hT : ((pc : Int) + o).toNat = pT) (hF : pc + 3 = pF) (rT : ¬ x1 < y1 → GoC CC Q Z B k n h pT Ls st) (rF : x1 < y1 → GoC CC Q Z B k n h pF Ls st) : GoC CC Q Z B k n h pc Ls (.int y1 :: .int x1 :: st) := fun x T P => by
  subst hF
  by_cases c : ¬ x1 < y1
  · exact lift (fun t q => XS.icmpYes P.here P.ex rfl (pc0 := pc) rfl (P.d hd) rfl (flt c).2.1 h0 hT q) (rT c x T P)
  · replace c := Decidable.not_not.mp c
    exact lift (fun t q => XS.icmpNo P.here P.ex rfl (P.d hd) rfl (tlt c).2.1 q) (rF c x T P)
theorem Go.icmp_eq (pT pF : Nat) {x1 y1 : Int32} {o : Int} (hd : decode B.by pc = .ok (.if_icmp .eq o, 3)) (h0 : 0 ≤ (pc : Int) + o) (hT : ((pc : Int) + o).toNat = pT) (hF : pc + 3 = pF) (rT : x1 = y1 → GoC CC Q Z B k n h pT Ls st) (rF : ¬ x1 = y1 → GoC CC Q Z B k n h pF Ls st) : GoC CC Q Z B k n h pc Ls (.int y1 :: .int x1 :: st) := fun x T P => by
  subst hF
  by_cases c : x1 = y1
  · exact lift (fun t q => XS.icmpYes P.here P.ex rfl (pc0 := pc) rfl (P.d hd) rfl (teq c).1 h0 hT q) (rT c x T P)
  · exact lift (fun t q => XS.icmpNo P.here P.ex rfl (P.d hd) rfl (feq c).1 q) (rF c x T P)
theorem Go.if_ne (pT pF : Nat) {x1 : Int32} {o : Int} (hd : decode B.by pc = .ok (.ifCond .ne o, 3)) (h0 : 0 ≤ (pc : Int) + o) (hT : ((pc : Int) + o).toNat = pT) (hF : pc + 3 = pF) (rT : ¬ x1 = 0 → GoC CC Q Z B k n h pT Ls st) (rF : x1 = 0 → GoC CC Q Z B k n h pF Ls st) : GoC CC Q Z B k n h pc Ls (.int x1 :: st) := fun x T P => by
  subst hF
  by_cases c : ¬ x1 = 0
  · exact lift (fun t q => XS.ifYes P.here P.ex rfl (pc0 := pc) rfl (P.d hd) rfl ((if0 _ _).trans (feq c).2) h0 hT q) (rT c x T P)
  · replace c := Decidable.not_not.mp c
    exact lift (fun t q => XS.ifNo P.here P.ex rfl (P.d hd) rfl ((if0 _ _).trans (teq c).2) q) (rF c x T P)
theorem En.zz (E : En CC Z x B) : Z.Warmed39 x.s.vm := E.2.2.2.2.2.2.1
theorem En.own (E : En CC Z x B) : x.s.vm.findClass B.y.cls = some x.m.cls := E.2.2.2.1
theorem En.ml (E : En CC Z x B) : x.c.maxLocals = B.ml := E.2.2.1
theorem En.rt (E : En CC Z x B) : x.meth.sig.returnType = B.rt := E.2.2.2.2.2.1
theorem En.nl (E : En CC Z x B) : x.meth.locks = false := E.2.2.2.2.2.2.2.1
theorem Go.newO (pc' : Nat) (hp : pc + 3 = pc') {C : String} {ix sz : Nat} (i1 i2 i3 : Nat) (hd : decode B.by pc = .ok (.new ix, 3)) (w1 : B.tb[i1]? = some (.classLink B.y.cls ix C)) (w2 : B.tb[i2]? = some (.instantiable C sz)) (w3 : B.tb[i3]? = some (.initialized C)) (hc : k + 1 ≤ B.R.cells) (hl : n + sz ≤ B.R.slots)
    (r : ∀ (h' : Heap) (a : Addr), @Eq Nat a h.size → Z.heap.size ≤ a → Keep h h' [] → Exa Z h' a C → (∀ (i : Nat) {O nm d : String} {ty : FieldType}, B.tb[i]? = some (.lays C O nm d) ∨ B.tb[i]? = some (.laysFinal C O nm d) → parseFieldDescriptor d = some ty → Fld Z h' a O nm d (defaultValue ty)) → GoC CC Q Z B (k + 1) (n + sz) h' pc' Ls (.ref a :: st)) : GoC CC Q Z B k n h pc Ls st := fun x T P => by
  subst hp
  obtain ⟨a0, hw⟩ := P.wd.w
  obtain ⟨E, O', locs, X, e, N⟩ := id P
  obtain ⟨T', h', X', e', Ex, A, D, -, s'⟩ := RoadKit.newO X P.ex E.zz E.own (hw w1) (hw w2) (hw w3) e (g := mkF x.m pc Ls st) rfl (P.d hd) hc hl
  exact lift s' (r h' h.size rfl P.le (keep_ext Ex) A (fun i {O nm d ty} q ht => D (q.imp (fun z => hw z) (fun z => hw z)) ht) x T' ⟨E, ⟨⟨Nat.le_trans O'.1.1 Ex.1, fun y c q => Ex.2 y c (O'.1.2 y c q)⟩, O'.2.mono Ex.1⟩, locs, X', e', N⟩)
theorem Go.getF (pc' : Nat) (hp : pc + 3 = pc') {O nm d : String} {ix : Nat} {a : Addr} {v : Value} (i : Nat) (hd : decode B.by pc = .ok (.getfield ix, 3)) (w : B.tb[i]? = some (.fieldLink B.y.cls ix O nm d)) (F : Fld Z h a O nm d v) (r : GoC CC Q Z B k n h pc' Ls (v :: st)) : GoC CC Q Z B k n h pc Ls (.ref a :: st) := fun x T P => by
  subst hp
  obtain ⟨a0, hw⟩ := P.wd.w
  obtain ⟨E, O', locs, X, e, N⟩ := id P
  obtain ⟨T', X', e', s'⟩ := RoadKit.getF X P.ex E.zz E.own (host := "") (Or.inl (hw w)) Via.refl e F (g := mkF x.m pc Ls (.ref a :: st)) rfl rfl (P.d hd)
  exact lift s' (r x T' ⟨E, O', locs, X', e', N⟩)
theorem Go.putF (pc' : Nat) (hp : pc + 3 = pc') {C O nm d : String} {ix sz : Nat} {ty : FieldType} {a : Addr} {v v' old : Value} (i1 i2 i3 : Nat) (hd : decode B.by pc = .ok (.putfield ix, 3)) (w1 : B.tb[i1]? = some (.fieldLink B.y.cls ix O nm d)) (F : Fld Z h a O nm d old) (Ea : Exa Z h a C)
    (L : B.tb[i2]? = some (.lays C O nm d) ∨ (B.tb[i2]? = some (.laysFinal C O nm d) ∧ B.y.cls = O ∧ B.y.name = "<init>")) (w3 : B.tb[i3]? = some (.instantiable C sz)) (hty : parseFieldDescriptor d = some ty) (hn : narrow ty v = v') (hf : fits ty v' = true) (ge : Z.heap.size ≤ a)
    (r : ∀ h' : Heap, Keep h h' [a] → Wr h h' a (RoadKit.slotOf Z O nm d) v' → Fld Z h' a O nm d v' → GoC CC Q Z B k n h' pc' Ls st) : GoC CC Q Z B k n h pc Ls (v :: .ref a :: st) := fun x T P => by
  subst hp
  obtain ⟨a0, hw⟩ := P.wd.w
  obtain ⟨E, O', locs, X, e, N⟩ := id P
  obtain ⟨T', h', X', e', W, s'⟩ := putFN X P.ex E.zz E.own (hw w1) Via.refl e F Ea (L.imp (fun z => hw z) (fun z => ⟨hw z.1, z.2.1, E.2.2.2.2.1.trans z.2.2⟩)) (hw w3) hty hn hf (g := mkF x.m pc Ls (v :: .ref a :: st)) rfl rfl (P.d hd)
  exact lift s' (r h' (keep_wr W) W (F.same W) x T' ⟨E, ⟨ext_keep O'.1 (keep_wr W) (ge1 ge), O'.2.mono (keep_wr W).1⟩, _, X', e', fr_snoc N ge⟩)
theorem Go.getS (pc' : Nat) (hp : pc + 3 = pc') {O nm d : String} {ix : Nat} {v : Value} (i : Nat) (hd : decode B.by pc = .ok (.getstatic ix, 3)) (w : B.tb[i]? = some (.fieldLink B.y.cls ix O nm d)) (F : Sta Z Z.heap O nm d v) (r : GoC CC Q Z B k n h pc' Ls (v :: st)) : GoC CC Q Z B k n h pc Ls st := fun x T P => by
  subst hp
  obtain ⟨a0, hw⟩ := P.wd.w
  obtain ⟨E, O', locs, X, e, N⟩ := id P
  obtain ⟨T', X', e', s'⟩ := RoadKit.getS X P.ex E.zz (host := "") E.own (hw w) Via.refl e (F.ext O'.1) (g := mkF x.m pc Ls st) rfl (P.d hd)
  exact lift s' (r x T' ⟨E, O', locs, X', e', N⟩)
theorem Go.castY (pc' : Nat) (hp : pc + 3 = pc') {K : String} {ix : Nat} {a : Addr} (i : Nat) (hd : decode B.by pc = .ok (.checkcast ix, 3)) (w : B.tb[i]? = some (.classLink B.y.cls ix K)) (F : Ins Z h a K true) (r : GoC CC Q Z B k n h pc' Ls (.ref a :: st)) : GoC CC Q Z B k n h pc Ls (.ref a :: st) := fun x T P => by
  subst hp
  obtain ⟨a0, hw⟩ := P.wd.w
  obtain ⟨E, O', locs, X, e, N⟩ := id P
  obtain ⟨T', X', e', s'⟩ := RoadKit.castY X P.ex E.zz E.own (hw w) e F (g := mkF x.m pc Ls (.ref a :: st)) rfl rfl (P.d hd)
  exact lift s' (r x T' ⟨E, O', locs, X', e', N⟩)
theorem Go.initO (pc' : Nat) (hp : pc + 3 = pc') {ix : Nat} {a : Addr} (i1 i2 i3 : Nat) (hd : decode B.by pc = .ok (.invokespecial ix, 3)) (w1 : B.tb[i1]? = some (.methodLink B.y.cls ix Lib.objectInit)) (w2 : B.tb[i2]? = some (.instanceMethod Lib.objectInit)) (w3 : B.tb[i3]? = some (.code Lib.objectInit ⟨#[0xb1]⟩ 1 none)) (hs : Ls.size = B.ml) (hf : 1 ≤ B.R.frames) {W : Nat} (hW : (st.map fun v => v.category).sum ≤ W) (hl : W + 12 ≤ B.R.locals)
    (r : GoC CC Q Z B k n h pc' Ls st) : GoC CC Q Z B k n h pc Ls (.ref a :: st) := fun x T P => by
  subst hp
  obtain ⟨a0, hw⟩ := P.wd.w
  obtain ⟨E, O', locs, X, e, N⟩ := id P
  obtain ⟨T', X', e', s'⟩ := RoadKit.initO X P.ex E.zz E.own (hw w1) (hw w2) (hw w3) e (g := mkF x.m pc Ls (.ref a :: st)) rfl (by rw [E.ml]; exact hs) rfl (P.d hd) hf (W := W) (by show 2 * 0 + _ ≤ _; omega) hl
  exact lift s' (r x T' ⟨E, O', locs, X', e', N⟩)
theorem Go.alen (pc' : Nat) (hp : pc + 1 = pc') {ty : FieldType} {a : Addr} {vs : List Value} (v : Int32) (hd : decode B.by pc = .ok (.arraylength, 1)) (A : Ary Z h a ty vs) (hv : v.toInt = vs.length) (r : GoC CC Q Z B k n h pc' Ls (.int v :: st)) : GoC CC Q Z B k n h pc Ls (.ref a :: st) := fun x T P => by
  subst hp
  obtain ⟨E, O', locs, X, e, N'⟩ := id P
  obtain ⟨c, A, e1, e2, e3⟩ := A
  have : c.slots.size.toInt32 = v := by
    have q : c.slots.size = vs.length := by rw [← e1]; simp
    apply Int32.toInt_inj.mp
    rw [q, hv, len_toInt e2]
  exact lift (fun t q => X.arraylength P.ex (by rw [e]; exact A.1) (State.isArrayOf_alike E.zz.alike A.2.1) (g := mkF x.m pc Ls (.ref a :: st)) rfl rfl (P.d hd) t (by rw [this]; exact q)) (r x T P)
theorem ret_core {v : Option Value} {T : State} {locs : List Loc} {fs : List Frame} (E : En CC Z x B) (hX : Stand x.p x.l x.e B.R x.s x.m x.args x.below x.meth x.c T locs k n) (O' : Ext Z.heap h ∧ Sn x h) (e : T.heap = h) (hC : CHv Z EL x.s.vm h ∧ CHr Z EL x.o.vm x.o.heap x.s.vm h ∧ ∃ a0, EW Z a0 EL) (N : Fr Z.heap.size locs) (hk : k ≤ B.R.cells) (hn : n ≤ B.R.slots) (hQ : Q v h)
    (hs : Steps x.p.tables x.e x.below (T.setTop (mkF x.m pc Ls st)) (T.setFrames fs)) (hrun : (T.setFrames fs).status = .running) (hended : Ended (T.setFrames fs) x.below (.returned v)) (hW : x.s.WarmedH (T.setFrames fs).vm) (hsame : x.s.sameButNew ({ T.setFrames fs with vm := x.s.vm } : State) locs k n) : Rn Q Z x B T pc Ls st := by
  subst e
  obtain ⟨O1, vm0, k0, e0, hS, hk0⟩ := O'
  obtain ⟨hC1, hC2, a0, hEL⟩ := hC
  have hz := E.zz
  rw [e0] at hW hsame hX hz hC1 hC2
  obtain ⟨r1, r2, r3⟩ := hS.ended hW (show k0 ≤ (T.setFrames fs).heap.size from hk0) hsame
  exact ⟨T.setFrames fs, _, hs, hrun, hended, _, locs, rfl, ⟨hQ, O1, N⟩, ⟨⟨_, rfl⟩, r1, r2, r3.mono hk hn⟩, hC2.trans (show CHr Z EL (x.o.setVm vm0).vm T.heap T.vm T.heap from CHv.at hX hz hEL hC1)⟩
theorem Go.retV (hd : decode B.by pc = .ok (.return_, 1)) (ht : B.rt = none) (hk : k ≤ B.R.cells) (hn : n ≤ B.R.slots) {hb : Heap} {S ws : List Addr} (KK : Keep hb h ws) (hs : ∀ a ∈ ws, a ∈ S) (hQ : Q none h) : GoC (Hd Z hb S) Q Z B k n h pc Ls [] := fun x T P => by
  obtain ⟨E, O', locs, X, e, N⟩ := id P
  obtain ⟨fs, hr, hrun, hended, hW, hsame⟩ := X.leave (v := none) (fun _ => rfl) E.nl
  exact ret_core E X O' e (hd_now E KK hs) N hk hn hQ (X.returnOut P.ex (E.rt.trans ht) (P.d hd) hr) hrun hended hW hsame
theorem Go.retN {z z' : Int32} {t : FieldType} (hd : decode B.by pc = .ok (.ireturn, 1)) (ht : B.rt = some t) (hz : t = .boolean ∨ t = .byte ∨ t = .char ∨ t = .short) (hq : nar t z = z') (hk : k ≤ B.R.cells) (hn : n ≤ B.R.slots) {hb : Heap} {S ws : List Addr} (KK : Keep hb h ws) (hs : ∀ a ∈ ws, a ∈ S) (hQ : Q (some (.int z')) h) : GoC (Hd Z hb S) Q Z B k n h pc Ls (.int z :: st) := fun x T P => by
  subst hq
  obtain ⟨E, O', locs, X, e, N⟩ := id P
  obtain ⟨fs, hr, hrun, hended, hW, hsame⟩ := X.leave (v := some (.int (nar t z))) (fun q => by rw [E.rt, ht] at q; cases q) E.nl
  exact ret_core E X O' e (hd_now E KK hs) N hk hn hQ (RoadKit.retN X P.ex (E.rt.trans ht) hz (P.d hd) hr) hrun hended hW hsame
theorem Go.retA {z : Value} {t : FieldType} (hd : decode B.by pc = .ok (.areturn, 1)) (ht : B.rt = some t) (hr' : t.isReference = true) (hz : z.isRef = true) (hk : k ≤ B.R.cells) (hn : n ≤ B.R.slots) {hb : Heap} {S ws : List Addr} (KK : Keep hb h ws) (hs : ∀ a ∈ ws, a ∈ S) (hQ : Q (some z) h) : GoC (Hd Z hb S) Q Z B k n h pc Ls [z] := fun x T P => by
  obtain ⟨E, O', locs, X, e, N⟩ := id P
  obtain ⟨fs, hr, hrun, hended, hW, hsame⟩ := X.leave (v := some z) (fun q => by rw [E.rt, ht] at q; cases q) E.nl
  exact ret_core E X O' e (hd_now E KK hs) N hk hn hQ (X.areturnOut P.ex hz (E.rt.trans ht) hr' (P.d hd) hr) hrun hended hW hsame
theorem nback {C : Bd} {as : Array Value} {Qc : Option Value → Heap → Prop} {len W : Nat} (K0 : Con Z C as h Qc) (P : Sp CC Z x B T k n h) (i j : Nat) (wc : B.tb[i]? = some (.code C.y C.by C.ml C.rt)) (wz : B.tb[j]? = some (.initialized C.y.cls)) (hf : C.R.frames + 1 ≤ B.R.frames) (hl : W + (C.ml + 11) + C.R.locals ≤ B.R.locals) :
    Back x.l B.R x.p x.e x.below x.s x.args C.y len W (fun A a => a = as ∧ A.U.heap = h ∧ A.cells + C.R.cells ≤ B.R.cells ∧ A.slots + C.R.slots ≤ B.R.slots)
      (fun A _ v D => ∃ L, ((Qc v D.U.heap ∧ h.size ≤ D.U.heap.size) ∧ Ext Z.heap D.U.heap ∧ Fr Z.heap.size L) ∧ D.locs = A.locs ++ L ∧ D.cells = A.cells + C.R.cells ∧ D.slots = A.slots + C.R.slots) := by
  obtain ⟨a0, hw⟩ := P.wd.w
  exact backOf (a0 := a0) (Q := fun v h' L => (Qc v h' ∧ h.size ≤ h'.size) ∧ Ext Z.heap h' ∧ Fr Z.heap.size L) (con_grow K0 P.old x.l []) P.1.zz (hw wc) (hw wz) hf hl
theorem Go.callS (pc' : Nat) (hp : pc + 3 = pc') {C : Bd} {Qc : Option Value → Heap → Prop} {ix : Nat} (argsL : List Value) {st : List Value} (i1 i2 i3 i4 : Nat) (K : Con Z C argsL.toArray h Qc) (hd : decode B.by pc = .ok (.invokestatic ix, 3)) (w1 : B.tb[i1]? = some (.methodLink B.y.cls ix C.y)) (w2 : B.tb[i2]? = some (.static C.y)) (w3 : B.tb[i3]? = some (.initialized C.y.cls)) (w4 : B.tb[i4]? = some (.code C.y C.by C.ml C.rt))
    (hy : C.y.cls ≠ "java/lang/invoke/MethodHandle" ∧ C.y.cls ≠ "java/lang/invoke/VarHandle") {ps : List FieldType} {rt : Option FieldType} (hpd : parseMethodDescriptor C.y.desc = some ⟨ps, rt⟩) (hlen : argsL.length = ps.length) (hs : Ls.size = B.ml) (hst : st = argsL.reverse ++ rest) {W : Nat} (hW : (rest.map fun v => v.category).sum ≤ W) (hf : C.R.frames + 1 ≤ B.R.frames) (hl : W + (C.ml + 11) + C.R.locals ≤ B.R.locals) (hc : k + C.R.cells ≤ B.R.cells) (hn : n + C.R.slots ≤ B.R.slots)
    (r : ∀ (v : Option Value) (h' : Heap), Qc v h' → GoC CC Q Z B (k + C.R.cells) (n + C.R.slots) h' pc' Ls (v.toList ++ rest)) : GoC CC Q Z B k n h pc Ls st := fun x T P => by
  subst hp hst
  obtain ⟨a0, hw⟩ := P.wd.w
  obtain ⟨E, O', locs, X, e, N⟩ := id P
  obtain ⟨v, vm₁, ⟨T1, L1, k1, n1⟩, -, X1, ⟨Lc, hQ, l1, y1, z1⟩, st1⟩ := Jvm.LawKit.callS X P.ex (y := C.y) E.own (mvT E.zz (hw w1)) (mvT E.zz (hw w2)) (mvT E.zz (hw w3)) (mvT E.zz (hw w4)) hy (nback (W := W) K P i4 i3 w4 w3 hf hl) (g := mkF x.m pc Ls (argsL.reverse ++ rest)) rfl (by rw [E.ml]; exact hs) (argsL := argsL) (rest := rest) (lenOf hpd hlen) rfl (by show 2 * 0 + _ ≤ _; omega) (P.d hd) (fun _ _ => ⟨rfl, e, hc, hn⟩)
  dsimp only [Pt.U, Pt.locs, Pt.cells, Pt.slots] at X1 l1 y1 z1 st1 hQ
  subst l1 y1 z1
  exact lift st1 (r v T1.heap hQ.1.1 x T1 ⟨E, ⟨hQ.2.1, O'.2.mono hQ.1.2⟩, _, X1, rfl, N.app hQ.2.2⟩)
theorem Go.callI (pc' : Nat) (hp : pc + 3 = pc') {C : Bd} {Qc : Option Value → Heap → Prop} {ix : Nat} (a : Addr) (argsL : List Value) {st : List Value} (i1 i2 i3 i4 : Nat) (K : Con Z C (.ref a :: argsL).toArray h Qc) (hd : decode B.by pc = .ok (.invokespecial ix, 3)) (w1 : B.tb[i1]? = some (.methodLink B.y.cls ix C.y)) (w2 : B.tb[i2]? = some (.instanceMethod C.y)) (w3 : B.tb[i3]? = some (.initialized C.y.cls)) (w4 : B.tb[i4]? = some (.code C.y C.by C.ml none)) (hrt : C.rt = none) (hi : C.y.name = "<init>")
    (hy : C.y.cls ≠ "java/lang/invoke/MethodHandle" ∧ C.y.cls ≠ "java/lang/invoke/VarHandle") {ps : List FieldType} {rt : Option FieldType} (hpd : parseMethodDescriptor C.y.desc = some ⟨ps, rt⟩) (hlen : argsL.length = ps.length) (hs : Ls.size = B.ml) (hst : st = argsL.reverse ++ .ref a :: rest) {W : Nat} (hW : (rest.map fun v => v.category).sum ≤ W) (hf : C.R.frames + 1 ≤ B.R.frames) (hl : W + (C.ml + 11) + C.R.locals ≤ B.R.locals) (hc : k + C.R.cells ≤ B.R.cells) (hn : n + C.R.slots ≤ B.R.slots)
    (r : ∀ (v : Option Value) (h' : Heap), Qc v h' → GoC CC Q Z B (k + C.R.cells) (n + C.R.slots) h' pc' Ls (v.toList ++ rest)) : GoC CC Q Z B k n h pc Ls st := fun x T P => by
  subst hp hst
  obtain ⟨a0, hw⟩ := P.wd.w
  obtain ⟨E, O', locs, X, e, N⟩ := id P
  obtain ⟨v, vm₁, ⟨T1, L1, k1, n1⟩, -, X1, ⟨Lc, hQ, l1, y1, z1⟩, st1⟩ := X.specialBack P.ex (y := C.y) hi E.own (mvT E.zz (hw w1)) (mvT E.zz (hw w2)) (mvT E.zz (hw w4)) hy (nback (W := W) K P i4 i3 (by rw [hrt]; exact w4) w3 hf hl) (g := mkF x.m pc Ls (argsL.reverse ++ .ref a :: rest)) rfl (by rw [E.ml]; exact hs) (Steps.refl _) (a := a) (argsL := argsL) (rest := rest) (lenOf hpd hlen) rfl (by show 2 * 0 + _ ≤ _; omega) (P.d hd) (fun _ _ => ⟨rfl, e, hc, hn⟩)
  dsimp only [Pt.U, Pt.locs, Pt.cells, Pt.slots] at X1 l1 y1 z1 st1 hQ
  subst l1 y1 z1
  exact liftS st1 (r v T1.heap hQ.1.1 x T1 ⟨E, ⟨hQ.2.1, O'.2.mono hQ.1.2⟩, _, X1, rfl, N.app hQ.2.2⟩)
theorem Go.callV (pc' : Nat) (hp : pc + 3 = pc') {C : Bd} {Qc : Option Value → Heap → Prop} {ix : Nat} {D : String} (a : Addr) (argsL : List Value) {st : List Value} (i1 i2 i3 i4 i5 i6 : Nat) (K : Con Z C (.ref a :: argsL).toArray h Qc) (Ea : Exa Z h a D) (hd : decode B.by pc = .ok (.invokevirtual ix, 3)) (w1 : B.tb[i1]? = some (.methodLink B.y.cls ix C.y)) (w2 : B.tb[i2]? = some (.declares C.y)) (w3 : B.tb[i3]? = some (.selects D C.y C.y)) (w4 : B.tb[i4]? = some (.instanceMethod C.y)) (w5 : B.tb[i5]? = some (.initialized C.y.cls)) (w6 : B.tb[i6]? = some (.code C.y C.by C.ml C.rt))
    (hy : C.y.cls ≠ "java/lang/invoke/MethodHandle" ∧ C.y.cls ≠ "java/lang/invoke/VarHandle") {ps : List FieldType} {rt : Option FieldType} (hpd : parseMethodDescriptor C.y.desc = some ⟨ps, rt⟩) (hlen : argsL.length = ps.length) (hs : Ls.size = B.ml) (hst : st = argsL.reverse ++ .ref a :: rest) {W : Nat} (hW : (rest.map fun v => v.category).sum ≤ W) (hf : C.R.frames + 1 ≤ B.R.frames) (hl : W + (C.ml + 11) + C.R.locals ≤ B.R.locals) (hc : k + C.R.cells ≤ B.R.cells) (hn : n + C.R.slots ≤ B.R.slots)
    (r : ∀ (v : Option Value) (h' : Heap), Qc v h' → GoC CC Q Z B (k + C.R.cells) (n + C.R.slots) h' pc' Ls (v.toList ++ rest)) : GoC CC Q Z B k n h pc Ls st := fun x T P => by
  subst hp hst
  obtain ⟨a0, hw⟩ := P.wd.w
  obtain ⟨E, O', locs, X, e, N⟩ := id P
  obtain ⟨cq, kq, qa, qb, qc⟩ := isOf E.zz e Ea
  obtain ⟨v, vm₁, ⟨T1, L1, k1, n1⟩, -, X1, ⟨Lc, hQ, l1, y1, z1⟩, st1⟩ := X.virtualBack P.ex (y := C.y) (z := C.y) E.own (mvT E.zz (hw w1)) (mvT E.zz (hw w2)) (notFace_of_selects (args := #[]) (mvT E.zz (hw w3))) (mvT E.zz (hw w3)) (mvT E.zz (hw w4)) hy (nback (W := W) K P i6 i5 w6 w5 hf hl) qa qc (g := mkF x.m pc Ls (argsL.reverse ++ .ref a :: rest)) rfl (by rw [E.ml]; exact hs) (Steps.refl _) (argsL := argsL) (rest := rest) (lenOf hpd hlen) rfl (by show 2 * 0 + _ ≤ _; omega) (P.d hd) (fun _ _ => ⟨rfl, e, hc, hn⟩)
  dsimp only [Pt.U, Pt.locs, Pt.cells, Pt.slots] at X1 l1 y1 z1 st1 hQ
  subst l1 y1 z1
  exact liftS st1 (r v T1.heap hQ.1.1 x T1 ⟨E, ⟨hQ.2.1, O'.2.mono hQ.1.2⟩, _, X1, rfl, N.app hQ.2.2⟩)
def ConH (Z : State) (B : Bd) (as : Array Value) (h0 : Heap) (Sf : List Addr) (Q : Option Value → Heap → Prop) : Prop :=
  Ext Z.heap h0 → (∃ a0, EW Z a0 EL) → ∀ (l : Launch) (ws : List Cond), MetFree l B.y (head1 (Cond.code B.y B.by B.ml B.rt :: ws) B.R) (fun a U => a = as ∧ Z.Warmed39 U.vm ∧ U.heap = h0 ∧ CHv Z EL U.vm h0 ∧ ∀ a ∈ Sf, Safe Z EL U.vm h0 a) (fun _ _ _ _ _ => True)
    (fun _ U o U' => ∃ v L, o = .returned v ∧ (Q v U'.heap ∧ Ext Z.heap U'.heap ∧ Fr Z.heap.size L) ∧ ReturnedEndW U o U' L B.R.cells B.R.slots ∧ CHr Z EL U.vm U.heap U'.vm U'.heap)
theorem ConH.mk {as : Array Value} {h0 : Heap} {Sf : List Addr} (hw : Wd Z B.tb) (hpn : plainFor B.y = true) (hef : ∀ m, entryFrame m as B.ml = mkF m 0 Ls [])
    (body : GoC (Hd Z h0 Sf) Q Z B 0 0 h0 0 Ls []) : ConH Z B as h0 Sf Q := by
  intro hE hEL l ws
  refine MetFree.of_bodySF hpn hisR ?_
  intro p e s m args below meth c s₁ Bd hml0 hP hK
  obtain ⟨rfl, hZ, hh, hc, hsf⟩ := hP
  have X0 : Stand p l e B.R s m args below meth c s₁ [] 0 0 := Stand.of_body Bd
  have e0 : s₁.heap = h0 := by rw [← hh, Bd.state]; rfl
  have hc' : CHr Z EL s.vm s.heap s.vm h0 := by rw [hh]; exact CHr.refl hc
  obtain ⟨t, o, h1, h2, h3, v, L, h4, h5, h6, h7⟩ := body (p, l, e, s, m, args, below, meth, c, s) s₁ ⟨⟨Bd.exec, Bd.bytes, hml0, findClass_of_methodNamed Bd.named, (name_of_methodNamed Bd.named Bd.method).1, Bd.returns, hZ, Bd.notSynchronized, hw, hc', hsf, hEL⟩, ⟨hE, s.vm, 0, rfl, (State.WarmedH.refl s).since 0, Nat.zero_le _⟩, [], X0, e0, Fr.nil _⟩
  exact ⟨t, o, castTop (hef m) h1, h2, h3, v, L, h4, h5, h6, h7⟩
theorem hwS_of {tb : List Cond} {a0 : Array Value} {j1 j2 j3 j4 j5 j6 j7 : Nat} (hw : ∀ {i : Nat} {d : Cond}, tb[i]? = some d → d.before a0 Z = true) (wS : ∃ js : List Nat, js = [j1, j2, j3, j4, j5, j6, j7] ∧ (js.map fun j => tb[j]?) = Bundle.stringAtoms.map some) : ∀ d ∈ Bundle.stringAtoms, d.before a0 Z = true := by
  obtain ⟨js, -, hj⟩ := wS
  intro d hd
  have : some d ∈ (js.map fun j => tb[j]?) := by rw [hj]; exact List.mem_map_of_mem hd
  obtain ⟨j, -, q⟩ := List.mem_map.mp this
  exact hw q
theorem ew_move {a0 a1 : Array Value} (h : EW Z a1 EL) (hz : Z.Warmed39 Z.vm) : EW Z a0 EL := fun p hp => by
  obtain ⟨t, h1, h2⟩ := h p hp
  exact ⟨t, mvS (s := Z) hz h1, h2⟩
theorem Go.ldcO (pc' : Nat) (hp : pc + 2 = pc') {ix : Nat} {text : String} (i j1 j2 j3 j4 j5 j6 j7 : Nat) (hd : decode B.by pc = .ok (.ldc ix, 2)) (w : B.tb[i]? = some (.stringLink B.y.cls ix text)) (wS : ∃ js : List Nat, js = [j1, j2, j3, j4, j5, j6, j7] ∧ (js.map fun j => B.tb[j]?) = Bundle.stringAtoms.map some) {c0 : Nat} (hn : 4 * text.toList.length ≤ c0) (hb' : c0 ≤ 536870912) (hc : k + 2 ≤ B.R.cells) (hl : n + (c0 + 4) ≤ B.R.slots)
    {hb : Heap} {S ws : List Addr} (S' : List Addr) (KK : Keep hb h ws) (hs : ∀ a ∈ ws, a ∈ S) (hS' : ∀ a ∈ S', (a ∈ S ∨ hb.size ≤ a) ∧ a < h.size)
    (r : ∀ (h' : Heap) (a : Addr), Keep h h' [] → GoC (Hd Z h' S') Q Z B (k + 2) (n + (c0 + 4)) h' pc' Ls (.ref a :: st)) : GoC (Hd Z hb S) Q Z B k n h pc Ls st := fun x T P => by
  subst hp
  obtain ⟨a0, hw⟩ := P.wd.w
  obtain ⟨E, O', locs, X, e, N⟩ := id P
  obtain ⟨hC1, hC2, a1, hEL⟩ := hd_now E KK hs
  have hsf : ∀ a ∈ S', Safe Z EL x.s.vm h a := fun a q => hd_safe E KK hs (hS' a q).1
  obtain ⟨O1, vm0, k0, e0, hS, hk0⟩ := id O'
  obtain ⟨E1, E2, E3, E4, E5, E6, E7, E8, E9, -⟩ := id E
  rw [e0] at X E4 E7 hC1 hC2 hsf
  obtain ⟨a, T', h', k1, X', e', Ex, hS1, hk1, hZ', hown', hC, hL, st'⟩ := RoadKit.ldcOH X P.ex E7 E4 (hw w) (hwS_of hw wS) e hS hk0 (a0 := a0) (EL := EL) (ew_move hEL (State.Warmed39.refl Z)) hC1 (g := mkF x.m pc Ls st) rfl (P.d hd) hn hb' hc hl
  have hC' : CHr Z EL x.o.vm x.o.heap T'.vm h' := hC2.trans hC
  refine lift (x := x) st' (r h' a (keep_ext Ex) (x.reb T'.vm) T' ⟨⟨E1, E2, E3, hown', E5, E6, hZ', E8, E9, hC', fun a q => hC.safe (hS' a q).2 (hsf a q), _, hEL⟩, ⟨⟨Nat.le_trans O1.1 Ex.1, fun y c q => Ex.2 y c (O1.2 y c q)⟩, T'.vm, k1, rfl, hS1, hk1⟩, locs, X', e', N⟩)
theorem Go.ldcC (pc' : Nat) (hp : pc + 2 = pc') {ix : Nat} {text : String} {vs : List Value} {z : Int32} (i j1 j2 j3 j4 j5 j6 j7 : Nat) (hd : decode B.by pc = .ok (.ldc ix, 2)) (w : B.tb[i]? = some (.stringLink B.y.cls ix text)) (wS : ∃ js : List Nat, js = [j1, j2, j3, j4, j5, j6, j7] ∧ (js.map fun j => B.tb[j]?) = Bundle.stringAtoms.map some) (hmem : (B.y.cls, ix) ∈ EL) (ht : (∀ c ∈ text.toList, c.toNat < 256) ∧ text.toList.map (fun c => Value.int (Jvm.Lit.byteI c.toNat.toUInt16)) = vs) (hz : ¬ z < 0) (hzl : z.toNatClampNeg = vs.length) {c0 : Nat} (hn : 4 * text.toList.length ≤ c0) (hb' : c0 ≤ 536870912) (hc : k + 2 ≤ B.R.cells) (hl : n + (c0 + 4) ≤ B.R.slots)
    {hb : Heap} {S ws : List Addr} (S' : List Addr) (KK : Keep hb h ws) (hs : ∀ a ∈ ws, a ∈ S) (hS' : ∀ a ∈ S', (a ∈ S ∨ hb.size ≤ a) ∧ a < h.size)
    (r : ∀ (h' : Heap) (a b : Addr), Keep h h' [] → Exa Z h' a "java/lang/String" → Fld Z h' a "java/lang/String" "coder" "B" (.int 0) → Fld Z h' a "java/lang/String" "value" "[B" (.ref b) → Ary Z h' b .byte vs → (∀ x ∈ S', x ≠ a ∧ x ≠ b) → GoC (Hd Z h' S') Q Z B (k + 2) (n + (c0 + 4)) h' pc' Ls (.ref a :: st)) : GoC (Hd Z hb S) Q Z B k n h pc Ls st := fun x T P => by
  subst hp
  obtain ⟨a0, hw⟩ := P.wd.w
  obtain ⟨E, O', locs, X, e, N⟩ := id P
  obtain ⟨hC1, hC2, a1, hEL⟩ := hd_now E KK hs
  have hsf : ∀ a ∈ S', Safe Z EL x.s.vm h a := fun a q => hd_safe E KK hs (hS' a q).1
  obtain ⟨O1, vm0, k0, e0, hS, hk0⟩ := id O'
  obtain ⟨E1, E2, E3, E4, E5, E6, E7, E8, E9, -⟩ := id E
  rw [e0] at X E4 E7 hC1 hC2 hsf
  obtain ⟨a, T', h', k1, b, kb, X', e', Ex, hS1, hk1, hZ', hown', r8, r9, r10, r11, -, -, hC, hL, hne, st'⟩ := RoadKit.ldcCH X P.ex E7 E4 (hw w) (hwS_of hw wS) e hS hk0 (a0 := a0) (EL := EL) (ew_move hEL (State.Warmed39.refl Z)) hmem hC1 ht hz hzl (g := mkF x.m pc Ls st) rfl (P.d hd) hn hb' hc hl
  have hC' : CHr Z EL x.o.vm x.o.heap T'.vm h' := hC2.trans hC
  have hs2 : ∀ a ∈ S', Safe Z EL T'.vm h' a := fun a q => hC.safe (hS' a q).2 (hsf a q)
  refine lift (x := x) st' (r h' a b (keep_ext Ex) r8 r9 r10 (ary_arv r11 hzl) (fun x q => hne x (hs2 x q)) (x.reb T'.vm) T' ⟨⟨E1, E2, E3, hown', E5, E6, hZ', E8, E9, hC', hs2, _, hEL⟩, ⟨⟨Nat.le_trans O1.1 Ex.1, fun y c q => Ex.2 y c (O1.2 y c q)⟩, T'.vm, k1, rfl, hS1, hk1⟩, locs, X', e', N⟩)
theorem reb_sp {C2 : Cx → Prop} {U : State} {L : List Loc} (E : En CC Z x B) (O' : Ext Z.heap h ∧ Sn x h) (e : T.heap = h) (hS : x.s.Since U.vm U.heap.size) (hg : T.heap.size ≤ U.heap.size) (O2 : Ext Z.heap U.heap) (X1 : Stand x.p x.l x.e B.R (x.s.setVm U.vm) x.m x.args x.below x.meth x.c U L k n) (N : Fr Z.heap.size L) (hc : C2 (x.reb U.vm)) : Sp C2 Z (x.reb U.vm) B U k n U.heap := by
  obtain ⟨O1, vm0, k0, e0, hS0, hk0⟩ := O'
  obtain ⟨E1, E2, E3, E4, E5, E6, E7, E8, E9, -⟩ := E
  have hk1 : k0 ≤ T.heap.size := by rw [e]; exact hk0
  refine ⟨⟨E1, E2, E3, ?_, E5, E6, ?_, E8, E9, hc⟩, ⟨O2, U.vm, U.heap.size, rfl, ?_, Nat.le_refl _⟩, L, ?_, rfl, N⟩
  · show U.vm.findClass B.y.cls = _
    rw [hS.1.alike.findClass]; exact E4
  · exact State.Warmed39.trans (t := x.s) E7 hS.1
  · rw [e0] at hS
    exact hS0.trans hS (Nat.le_trans hk1 hg)
  · rw [e0] at X1
    exact X1
def ConHW (hs' : List (Nat × Nat × Nat × Nat)) (Z : State) (B : Bd) (as : Array Value) (h0 : Heap) (Sf : List Addr) (Q : Option Value → Heap → Prop) : Prop :=
  Ext Z.heap h0 → (∃ a0, EW Z a0 EL) → ∀ (l : Launch) (ws : List Cond), MetFree l B.y (head1 (Cond.codeWith B.y B.by B.ml B.rt hs' :: ws) B.R) (fun a U => a = as ∧ Z.Warmed39 U.vm ∧ U.heap = h0 ∧ CHv Z EL U.vm h0 ∧ ∀ a ∈ Sf, Safe Z EL U.vm h0 a) (fun _ _ _ _ _ => True)
    (fun _ U o U' => ∃ v L, o = .returned v ∧ (Q v U'.heap ∧ Ext Z.heap U'.heap ∧ Fr Z.heap.size L) ∧ ReturnedEndW U o U' L B.R.cells B.R.slots ∧ CHr Z EL U.vm U.heap U'.vm U'.heap)
theorem ConHW.mk {hs' : List (Nat × Nat × Nat × Nat)} {as : Array Value} {h0 : Heap} {Sf : List Addr} (hw : Wd Z B.tb) (hpn : plainFor B.y = true) (hef : ∀ m, entryFrame m as B.ml = mkF m 0 Ls [])
    (body : GoC (Hd Z h0 Sf) Q Z B 0 0 h0 0 Ls []) : ConHW hs' Z B as h0 Sf Q := by
  intro hE hEL l ws
  refine MetFree.of_bodySF hpn hisWith ?_
  intro p e s m args below meth c s₁ Bd hml0 hP hK
  obtain ⟨rfl, hZ, hh, hc, hsf⟩ := hP
  have X0 : Stand p l e B.R s m args below meth c s₁ [] 0 0 := Stand.of_body Bd
  have e0 : s₁.heap = h0 := by rw [← hh, Bd.state]; rfl
  have hc' : CHr Z EL s.vm s.heap s.vm h0 := by rw [hh]; exact CHr.refl hc
  obtain ⟨t, o, h1, h2, h3, v, L, h4, h5, h6, h7⟩ := body (p, l, e, s, m, args, below, meth, c, s) s₁ ⟨⟨Bd.exec, Bd.bytes, hml0, findClass_of_methodNamed Bd.named, (name_of_methodNamed Bd.named Bd.method).1, Bd.returns, hZ, Bd.notSynchronized, hw, hc', hsf, hEL⟩, ⟨hE, s.vm, 0, rfl, (State.WarmedH.refl s).since 0, Nat.zero_le _⟩, [], X0, e0, Fr.nil _⟩
  exact ⟨t, o, castTop (hef m) h1, h2, h3, v, L, h4, h5, h6, h7⟩
theorem hd_atG {p : Program} {l : Launch} {e : Env} {R : Room} {m : MethodId} {args : Array Value} {below : List Frame} {meth : Method} {c : Code} {U : State} {L : List Loc} {kk nn : Nat} {hb : Heap} {S ws : List Addr} (P : Sp (Hd Z hb S) Z x B T k n h) (Y : Stand p l e R x.s m args below meth c U L kk nn) (KK : Keep hb h ws) (hs0 : ∀ a ∈ ws, a ∈ S) : CHr Z EL x.s.vm h U.vm h := by
  obtain ⟨h1, -, a0, hEL⟩ := hd_now P.1 KK hs0
  obtain ⟨-, vm0, k0, e0, -, -⟩ := P.2.1
  have hz := P.1.zz
  rw [e0] at Y hz h1 ⊢
  exact CHv.at Y hz hEL h1
theorem hback {C : Bd} {as : Array Value} {Qc : Option Value → Heap → Prop} {Sf : List Addr} {len W : Nat} {hb : Heap} {S ws : List Addr} (K0 : ConH Z C as h Sf Qc) (P : Sp (Hd Z hb S) Z x B T k n h) (KK : Keep hb h ws) (hs0 : ∀ a ∈ ws, a ∈ S) (hSf : ∀ a ∈ Sf, (a ∈ S ∨ hb.size ≤ a) ∧ a < h.size) (i j : Nat) (wc : B.tb[i]? = some (.code C.y C.by C.ml C.rt)) (wz : B.tb[j]? = some (.initialized C.y.cls)) (hf : C.R.frames + 1 ≤ B.R.frames) (hl : W + (C.ml + 11) + C.R.locals ≤ B.R.locals) :
    BackS x.l B.R x.p x.e x.below x.s x.args C.y len W (fun A a => a = as ∧ A.U.heap = h ∧ A.cells + C.R.cells ≤ B.R.cells ∧ A.slots + C.R.slots ≤ B.R.slots)
      (fun A _ v D => ∃ L, (Qc v D.U.heap ∧ Ext Z.heap D.U.heap ∧ Fr Z.heap.size L) ∧ D.locs = A.locs ++ L ∧ D.cells = A.cells + C.R.cells ∧ D.slots = A.slots + C.R.slots ∧ CHr Z EL x.s.vm h D.U.vm D.U.heap) := by
  obtain ⟨a0, hw⟩ := P.wd.w
  have hZ := P.1.zz
  have hsafe : ∀ a, (a ∈ S ∨ hb.size ≤ a) → Safe Z EL x.s.vm h a := fun a q => hd_safe P.1 KK hs0 q
  obtain ⟨-, -, hEW⟩ := hd_now P.1 KK hs0
  exact BackS.of_freeW (bytes := C.by) (maxL := C.ml) (ret := C.rt) (E := fun _ first o t L k n => k = C.R.cells ∧ n = C.R.slots ∧ (∃ v, o = .returned v ∧ (Qc v t.heap ∧ Ext Z.heap t.heap ∧ Fr Z.heap.size L)) ∧ CHr Z EL first.vm first.heap t.vm t.heap) (K0 P.old hEW x.l []) hf hl
    (fun m meth c A a Y hp => have hU : Z.Warmed39 A.U.vm := wtrans hZ Y.warmed
      ⟨by show (Cond.and _ .tt).before a A.U = true; rw [Cond.before_and, mv hU (hw wc)]; rfl, mv hU (hw wc), mv hU (hw wz), hp.2.2.1, hp.2.2.2⟩)
    (fun m meth c A a g mk Y hp => ⟨hp.1, wtrans hZ Y.warmed, hp.2.1, (hd_atG P Y KK hs0).1, fun a q => (hd_atG P Y KK hs0).safe (hSf a q).2 (hsafe a (hSf a q).1)⟩) (fun _ _ _ _ _ _ _ _ _ => trivial)
    (fun _ _ _ _ ⟨v, L, h1, h2, h3, h4⟩ => ⟨L, _, _, h3, rfl, rfl, ⟨v, h1, h2⟩, h4⟩)
    (fun m meth c A a g mk v t L k n Y hp _ _ ⟨e1, e2, ⟨v', e3, e4⟩, e5⟩ => by
      cases e3; subst e1 e2
      refine ⟨L, e4, rfl, rfl, rfl, (hd_atG P Y KK hs0).trans ?_⟩
      rw [← hp.2.1]; exact e5)
theorem Go.callIH (pc' : Nat) (hp : pc + 3 = pc') {C : Bd} {Qc : Option Value → Heap → Prop} {ix : Nat} (a : Addr) (argsL : List Value) {st : List Value} (i1 i2 i3 i4 : Nat) {Sf : List Addr} (K : ConH Z C (.ref a :: argsL).toArray h Sf Qc) (hd : decode B.by pc = .ok (.invokespecial ix, 3)) (w1 : B.tb[i1]? = some (.methodLink B.y.cls ix C.y)) (w2 : B.tb[i2]? = some (.instanceMethod C.y)) (w3 : B.tb[i3]? = some (.initialized C.y.cls)) (w4 : B.tb[i4]? = some (.code C.y C.by C.ml none)) (hrt : C.rt = none) (hi : C.y.name = "<init>")
    (hy : C.y.cls ≠ "java/lang/invoke/MethodHandle" ∧ C.y.cls ≠ "java/lang/invoke/VarHandle") {ps : List FieldType} {rt : Option FieldType} (hpd : parseMethodDescriptor C.y.desc = some ⟨ps, rt⟩) (hlen : argsL.length = ps.length) (hs : Ls.size = B.ml) (hst : st = argsL.reverse ++ .ref a :: rest) {W : Nat} (hW : (rest.map fun v => v.category).sum ≤ W) (hf : C.R.frames + 1 ≤ B.R.frames) (hl : W + (C.ml + 11) + C.R.locals ≤ B.R.locals) (hc : k + C.R.cells ≤ B.R.cells) (hn : n + C.R.slots ≤ B.R.slots)
    {hb : Heap} {S ws : List Addr} (S' : List Addr) (KK : Keep hb h ws) (hs0 : ∀ a ∈ ws, a ∈ S) (hSf : ∀ a ∈ Sf, (a ∈ S ∨ hb.size ≤ a) ∧ a < h.size) (hS' : ∀ a ∈ S', (a ∈ S ∨ hb.size ≤ a) ∧ a < h.size)
    (r : ∀ (v : Option Value) (h' : Heap), Qc v h' → GoC (Hd Z h' S') Q Z B (k + C.R.cells) (n + C.R.slots) h' pc' Ls (v.toList ++ rest)) : GoC (Hd Z hb S) Q Z B k n h pc Ls st := fun x T P => by
  have hsafe : ∀ a, (a ∈ S ∨ hb.size ≤ a) → Safe Z EL x.s.vm h a := fun a q => hd_safe P.1 KK hs0 q
  obtain ⟨-, hCC, hEW⟩ := hd_now P.1 KK hs0
  subst hp hst
  obtain ⟨a0, hw⟩ := P.wd.w
  obtain ⟨E, O', locs, X, e, N⟩ := id P
  obtain ⟨v, vm₁, ⟨T1, L1, k1, n1⟩, -, X1, hS1, hg1, ⟨Lc, hQ, l1, y1, z1, hC1⟩, st1⟩ := X.specialBackS P.ex (y := C.y) hi E.own (mvT E.zz (hw w1)) (mvT E.zz (hw w2)) (mvT E.zz (hw w4)) hy (hback (W := W) K P KK hs0 hSf i4 i3 (by rw [hrt]; exact w4) w3 hf hl) (g := mkF x.m pc Ls (argsL.reverse ++ .ref a :: rest)) rfl (by rw [E.ml]; exact hs) (Steps.refl _) (a := a) (argsL := argsL) (rest := rest) (lenOf hpd hlen) rfl (by show 2 * 0 + _ ≤ _; omega) (P.d hd) (fun _ _ => ⟨rfl, e, hc, hn⟩)
  dsimp only [Pt.U, Pt.locs, Pt.cells, Pt.slots] at X1 hS1 hg1 l1 y1 z1 st1 hQ hC1
  subst l1 y1 z1
  exact liftS st1 (r v T1.heap hQ.1 (x.reb T1.vm) T1 (reb_sp E O' e hS1 hg1 hQ.2.1 X1 (N.app hQ.2.2) ⟨hCC.trans hC1, fun a q => hC1.safe (hS' a q).2 (hsafe a (hS' a q).1), hEW⟩))
theorem Go.callVH (pc' : Nat) (hp : pc + 3 = pc') {C : Bd} {Qc : Option Value → Heap → Prop} {ix : Nat} {D : String} (a : Addr) (argsL : List Value) {st : List Value} (i1 i2 i3 i4 i5 i6 : Nat) {Sf : List Addr} (K : ConH Z C (.ref a :: argsL).toArray h Sf Qc) (Ea : Exa Z h a D) (hd : decode B.by pc = .ok (.invokevirtual ix, 3)) (w1 : B.tb[i1]? = some (.methodLink B.y.cls ix C.y)) (w2 : B.tb[i2]? = some (.declares C.y)) (w3 : B.tb[i3]? = some (.selects D C.y C.y)) (w4 : B.tb[i4]? = some (.instanceMethod C.y)) (w5 : B.tb[i5]? = some (.initialized C.y.cls)) (w6 : B.tb[i6]? = some (.code C.y C.by C.ml C.rt))
    (hy : C.y.cls ≠ "java/lang/invoke/MethodHandle" ∧ C.y.cls ≠ "java/lang/invoke/VarHandle") {ps : List FieldType} {rt : Option FieldType} (hpd : parseMethodDescriptor C.y.desc = some ⟨ps, rt⟩) (hlen : argsL.length = ps.length) (hs : Ls.size = B.ml) (hst : st = argsL.reverse ++ .ref a :: rest) {W : Nat} (hW : (rest.map fun v => v.category).sum ≤ W) (hf : C.R.frames + 1 ≤ B.R.frames) (hl : W + (C.ml + 11) + C.R.locals ≤ B.R.locals) (hc : k + C.R.cells ≤ B.R.cells) (hn : n + C.R.slots ≤ B.R.slots)
    {hb : Heap} {S ws : List Addr} (S' : List Addr) (KK : Keep hb h ws) (hs0 : ∀ a ∈ ws, a ∈ S) (hSf : ∀ a ∈ Sf, (a ∈ S ∨ hb.size ≤ a) ∧ a < h.size) (hS' : ∀ a ∈ S', (a ∈ S ∨ hb.size ≤ a) ∧ a < h.size)
    (r : ∀ (v : Option Value) (h' : Heap), Qc v h' → GoC (Hd Z h' S') Q Z B (k + C.R.cells) (n + C.R.slots) h' pc' Ls (v.toList ++ rest)) : GoC (Hd Z hb S) Q Z B k n h pc Ls st := fun x T P => by
  have hsafe : ∀ a, (a ∈ S ∨ hb.size ≤ a) → Safe Z EL x.s.vm h a := fun a q => hd_safe P.1 KK hs0 q
  obtain ⟨-, hCC, hEW⟩ := hd_now P.1 KK hs0
  subst hp hst
  obtain ⟨a0, hw⟩ := P.wd.w
  obtain ⟨E, O', locs, X, e, N⟩ := id P
  obtain ⟨cq, kq, qa, qb, qc⟩ := isOf E.zz e Ea
  obtain ⟨v, vm₁, ⟨T1, L1, k1, n1⟩, -, X1, hS1, hg1, ⟨Lc, hQ, l1, y1, z1, hC1⟩, st1⟩ := X.virtualBackS P.ex (y := C.y) (z := C.y) E.own (mvT E.zz (hw w1)) (mvT E.zz (hw w2)) (notFace_of_selects (args := #[]) (mvT E.zz (hw w3))) (mvT E.zz (hw w3)) (mvT E.zz (hw w4)) hy (hback (W := W) K P KK hs0 hSf i6 i5 w6 w5 hf hl) qa qc (g := mkF x.m pc Ls (argsL.reverse ++ .ref a :: rest)) rfl (by rw [E.ml]; exact hs) (Steps.refl _) (argsL := argsL) (rest := rest) (lenOf hpd hlen) rfl (by show 2 * 0 + _ ≤ _; omega) (P.d hd) (fun _ _ => ⟨rfl, e, hc, hn⟩)
  dsimp only [Pt.U, Pt.locs, Pt.cells, Pt.slots] at X1 hS1 hg1 l1 y1 z1 st1 hQ hC1
  subst l1 y1 z1
  exact liftS st1 (r v T1.heap hQ.1 (x.reb T1.vm) T1 (reb_sp E O' e hS1 hg1 hQ.2.1 X1 (N.app hQ.2.2) ⟨hCC.trans hC1, fun a q => hC1.safe (hS' a q).2 (hsafe a (hS' a q).1), hEW⟩))
theorem landW {p : Program} {l : Launch} {e : Env} {R : Room} {s : State} {sargs : Array Value} {below : List Frame} {meth : Method} {c : Code} {U t : State} {Ls L : List Loc} {c0 s0 k1 n1 len : Nat} {g : JFrame} {mk : MethodId} {as : Array Value} {v : Option Value} {ig : Instr}
    (X : Stand p l e R s g.method sargs below meth c U Ls c0 s0) (hdg : decode c.code g.pc = .ok (ig, len)) (hend : Ended t (U.setTop g).frames (.returned v)) (hfe : ReturnedEndW (U.calling g mk as) (.returned v) t L k1 n1) :
    Stand p l e R (s.setVm t.vm) g.method sargs below meth c (({ U with heap := t.heap, slotsUsed := t.slotsUsed } : State).setVm t.vm) (Ls ++ L) (c0 + k1) (s0 + n1) ∧ s.Since t.vm t.heap.size ∧ U.heap.size ≤ t.heap.size ∧ t = (({ U with heap := t.heap, slotsUsed := t.slotsUsed } : State).setVm t.vm).setTop { g with pc := g.pc + len, stack := v.toList ++ g.stack } := by
  obtain ⟨-, hw, hb, he, r⟩ := hfe
  have hw' : U.Warmed39 t.vm := hw
  have hA := X.here
  rw [State.frames_setTop' g hA.top] at hend
  obtain ⟨c₂, i₂, len₂, hc₂, hd₂, hf₂⟩ := hend
  have ec : c₂ = c := by
    have q : t.code? g.method = U.code? g.method := by rw [State.code?_eq, State.code?_eq, hw'.alike.method?]
    exact Option.some.inj (hc₂.symm.trans (q.trans hA.code))
  subst ec
  have el : len₂ = len := by have q := hd₂.symm.trans hdg; cases q; rfl
  subst el
  obtain ⟨g₀, hg0⟩ := Option.isSome_iff_exists.mp hA.top
  obtain ⟨fr, hr⟩ := State.topJava?_eq_some.mp hg0
  have hsame : U.sameButNew ({ U with heap := t.heap, slotsUsed := t.slotsUsed } : State) L k1 n1 := by
    refine ⟨?_, r⟩
    obtain ⟨th, ht, -⟩ := State.frames_cons hr
    show ({ U with heap := t.heap, slotsUsed := t.slotsUsed } : State) = { U.setFrames U.frames with heap := t.heap, slotsUsed := t.slotsUsed }
    rw [State.setFrames_self ht]
  obtain ⟨X', hS⟩ := X.movedW (T₂ := (({ U with heap := t.heap, slotsUsed := t.slotsUsed } : State).setVm t.vm)) ((hA.setHeapUsed t.heap t.slotsUsed).setVm hw'.alike) X.tail rfl rfl hw' hb hsame
  refine ⟨X', hS, r.1, ?_⟩
  have e3 : t = ({ (U.calling g mk as).setFrames t.frames with heap := t.heap, slotsUsed := t.slotsUsed } : State).setVm t.vm := by
    have q : t = ({ t with vm := (U.calling g mk as).vm } : State).setVm t.vm := rfl
    rw [he] at q; exact q
  have hr' : (({ U with heap := t.heap, slotsUsed := t.slotsUsed } : State).setVm t.vm).frames = .java g₀ :: fr := hr
  refine e3.trans ?_
  rw [hf₂, State.calling_eq hA.top, State.setFrames_setFrames, State.setTop_of_frames _ hr', hr]
  rfl
theorem hbackW {hs' : List (Nat × Nat × Nat × Nat)} {C : Bd} {as : Array Value} {Qc : Option Value → Heap → Prop} {Sf : List Addr} {len W : Nat} {hb : Heap} {S ws : List Addr} (K0 : ConHW hs' Z C as h Sf Qc) (P : Sp (Hd Z hb S) Z x B T k n h) (KK : Keep hb h ws) (hs0 : ∀ a ∈ ws, a ∈ S) (hSf : ∀ a ∈ Sf, (a ∈ S ∨ hb.size ≤ a) ∧ a < h.size) (i j : Nat) (wc : B.tb[i]? = some (.codeWith C.y C.by C.ml C.rt hs')) (wz : B.tb[j]? = some (.initialized C.y.cls)) (hf : C.R.frames + 1 ≤ B.R.frames) (hl : W + (C.ml + 11) + C.R.locals ≤ B.R.locals) :
    BackS x.l B.R x.p x.e x.below x.s x.args C.y len W (fun A a => a = as ∧ A.U.heap = h ∧ A.cells + C.R.cells ≤ B.R.cells ∧ A.slots + C.R.slots ≤ B.R.slots)
      (fun A _ v D => ∃ L, (Qc v D.U.heap ∧ Ext Z.heap D.U.heap ∧ Fr Z.heap.size L) ∧ D.locs = A.locs ++ L ∧ D.cells = A.cells + C.R.cells ∧ D.slots = A.slots + C.R.slots ∧ CHr Z EL x.s.vm h D.U.vm D.U.heap) := by
  obtain ⟨a0, hw⟩ := P.wd.w
  have hZ := P.1.zz
  have hsafe : ∀ a, (a ∈ S ∨ hb.size ≤ a) → Safe Z EL x.s.vm h a := fun a q => hd_safe P.1 KK hs0 q
  obtain ⟨-, -, hEW⟩ := hd_now P.1 KK hs0
  rintro m meth c ⟨U, Ls, c0, s0⟩ g ig mk a X rfl hsize hdg hW hn ⟨rfl, hh, hc, hsl⟩
  have X : Stand x.p x.l x.e B.R x.s g.method x.args x.below meth c U Ls c0 s0 := X
  have hn : U.methodNamed? C.y = some mk := hn
  have hh : U.heap = h := hh
  have hC := hd_atG P X KK hs0
  have hU : Z.Warmed39 U.vm := wtrans hZ X.warmed
  have w1 : (Cond.codeWith C.y C.by C.ml C.rt hs').before a U = true := mv hU (hw wc)
  obtain ⟨mY, methY, cY, hnY, hmY, hcY, -, hlY, -⟩ := Cond.codeWith_spec w1
  cases hn.symm.trans hnY
  obtain ⟨kY, hkY, -⟩ := className_of_methodNamed hn
  have hini : kY.init = .initialized := Cond.initialized_spec (findClass_of_methodNamed hn) hkY (mv hU (hw wz) : (Cond.initialized C.y.cls).before a U = true)
  have happ : (head1 [Cond.codeWith C.y C.by C.ml C.rt hs'] C.R).appliesLoose C.y x.e.platform (U.calling g mk a) = true :=
    Spec.appliesLoose_calling (g := g) X.here hdg hn hkY hini (X.room_calling (g := g) (R' := C.R) hsize hmY hcY hf (by rw [hlY]; omega) hc hsl) (by show (Cond.and _ .tt).before a U = true; rw [Cond.before_and, w1]; rfl)
  obtain ⟨mid, hmid⟩ := X.here.above
  have hfr : (U.setTop g).frames = (.java g :: mid) ++ x.below := by rw [State.frames_setTop' g X.here.top, hmid]; rfl
  obtain ⟨o, t, hsteps, -, hend, v, L, rfl, hQ, hfe, hR⟩ := Steps.callFree (K0 P.old hEW x.l []) x.p X.admits X.cas X.clock (acts := []) hfr happ ⟨rfl, hU, hh, hC.1, fun a q => hC.safe (hSf a q).2 (hsafe a (hSf a q).1)⟩ trivial
  obtain ⟨X', hS, hgr, ht⟩ := landW X hdg hend hfe
  refine ⟨v, ⟨(({ U with heap := t.heap, slotsUsed := t.slotsUsed } : State).setVm t.vm), Ls ++ L, c0 + C.R.cells, s0 + C.R.slots⟩, X', hS, hgr, ⟨L, hQ, rfl, rfl, rfl, hC.trans ?_⟩, ?_⟩
  · rw [← hh]; exact hR
  · show Steps x.p.tables x.e x.below _ ((({ U with heap := t.heap, slotsUsed := t.slotsUsed } : State).setVm t.vm).setTop { g with pc := g.pc + len, stack := v.toList ++ g.stack })
    rw [← ht]; exact hsteps
theorem spHS {p : Program} {l : Launch} {e : Env} {R : Room} {s : State} {m : MethodId} {args : Array Value} {below : List Frame} {meth : Method} {c : Code} {T : State} {locs : List Loc} {cells slots : Nat} (X : Stand p l e R s m args below meth c T locs cells slots) (hexec : p.tables.exec = Jvm.exec) {own : String} {index : Nat} {y : MethodName} (hy1 : y.name = "<init>")
    (hown : s.vm.findClass own = some m.cls) (hlink : (Cond.methodLink own index y).before args s = true) (hinst : (Cond.instanceMethod y).before args s = true)
    {bytes : ByteArray} {maxL : Nat} {hs : List (Nat × Nat × Nat × Nat)} (hcode : (Cond.codeWith y bytes maxL none hs).before args s = true)
    (hy : y.cls ≠ "java/lang/invoke/MethodHandle" ∧ y.cls ≠ "java/lang/invoke/VarHandle")
    {W : Nat} {Pre : Pt → Array Value → Prop} {Post : Pt → Array Value → Option Value → Pt → Prop} (hK : BackS l R p e below s args y 3 W Pre Post)
    {g : JFrame} (hg : g.method = m) (hsize : g.locals.size = c.maxLocals) {s₀ : State} (hcome : Steps p.tables e below s₀ (T.setTop g)) {a : Addr} {argsL rest : List Value}
    (hlen : ∀ sig, parseMethodDescriptor y.desc = some sig → argsL.length = sig.parameters.length) (hstack : g.stack = argsL.reverse ++ .ref a :: rest) (hW : 2 * g.monitorRoom + (rest.map fun v => v.category).sum ≤ W)
    (hdg : decode c.code g.pc = .ok (.invokespecial index, 3)) (hpre : ∀ vm₁, s.WarmedH vm₁ → Pre ⟨T.setVm vm₁, locs, cells, slots⟩ (.ref a :: argsL).toArray) :
    ∃ (v : Option Value) (vm₁ : Vm) (B : Pt), s.WarmedH vm₁ ∧ Stand p l e R (s.setVm B.U.vm) m args below meth c B.U B.locs B.cells B.slots ∧ s.Since B.U.vm B.U.heap.size ∧ T.heap.size ≤ B.U.heap.size ∧ Post ⟨T.setVm vm₁, locs, cells, slots⟩ (.ref a :: argsL).toArray v B ∧
      Steps p.tables e below s₀ (B.U.setTop { g with pc := g.pc + 3, stack := v.toList ++ rest }) := by
  obtain ⟨mk, _, _, _, vm₁, hnamed, _, -, -, -, -, _, -, hW₁, step⟩ := Steps.initColdArgsH (e := e) X.here hexec X.warmed (by rw [X.admits.platform]) hown hy1 hy hlink hinst hcode (f := g) hg hlen hstack hdg
  obtain ⟨v, D, X', hS, hgr, hpost, hsteps⟩ := hK m meth c ⟨T.setVm vm₁, locs, cells, slots⟩ { g with stack := rest } (.invokespecial index) mk (.ref a :: argsL).toArray (X.noted hW₁) hg hsize hdg hW ((X.noted hW₁).named hnamed) (hpre vm₁ hW₁)
  exact ⟨v, vm₁, D, hW₁, X', hS, hgr, hpost, (hcome.trans (step _ fun _ => by rw [doInvoke_state]; exact Steps.refl _)).trans hsteps⟩
theorem Go.callIHW (pc' : Nat) (hp : pc + 3 = pc') {hs' : List (Nat × Nat × Nat × Nat)} {C : Bd} {Qc : Option Value → Heap → Prop} {ix : Nat} (a : Addr) (argsL : List Value) {st : List Value} (i1 i2 i3 i4 : Nat) {Sf : List Addr} (K : ConHW hs' Z C (.ref a :: argsL).toArray h Sf Qc) (hd : decode B.by pc = .ok (.invokespecial ix, 3)) (w1 : B.tb[i1]? = some (.methodLink B.y.cls ix C.y)) (w2 : B.tb[i2]? = some (.instanceMethod C.y)) (w3 : B.tb[i3]? = some (.initialized C.y.cls)) (w4 : B.tb[i4]? = some (.codeWith C.y C.by C.ml none hs')) (hrt : C.rt = none) (hi : C.y.name = "<init>")
    (hy : C.y.cls ≠ "java/lang/invoke/MethodHandle" ∧ C.y.cls ≠ "java/lang/invoke/VarHandle") {ps : List FieldType} {rt : Option FieldType} (hpd : parseMethodDescriptor C.y.desc = some ⟨ps, rt⟩) (hlen : argsL.length = ps.length) (hs : Ls.size = B.ml) (hst : st = argsL.reverse ++ .ref a :: rest) {W : Nat} (hW : (rest.map fun v => v.category).sum ≤ W) (hf : C.R.frames + 1 ≤ B.R.frames) (hl : W + (C.ml + 11) + C.R.locals ≤ B.R.locals) (hc : k + C.R.cells ≤ B.R.cells) (hn : n + C.R.slots ≤ B.R.slots)
    {hb : Heap} {S ws : List Addr} (S' : List Addr) (KK : Keep hb h ws) (hs0 : ∀ a ∈ ws, a ∈ S) (hSf : ∀ a ∈ Sf, (a ∈ S ∨ hb.size ≤ a) ∧ a < h.size) (hS' : ∀ a ∈ S', (a ∈ S ∨ hb.size ≤ a) ∧ a < h.size)
    (r : ∀ (v : Option Value) (h' : Heap), Qc v h' → GoC (Hd Z h' S') Q Z B (k + C.R.cells) (n + C.R.slots) h' pc' Ls (v.toList ++ rest)) : GoC (Hd Z hb S) Q Z B k n h pc Ls st := fun x T P => by
  have hsafe : ∀ a, (a ∈ S ∨ hb.size ≤ a) → Safe Z EL x.s.vm h a := fun a q => hd_safe P.1 KK hs0 q
  obtain ⟨-, hCC, hEW⟩ := hd_now P.1 KK hs0
  subst hp hst
  obtain ⟨a0, hw⟩ := P.wd.w
  obtain ⟨E, O', locs, X, e, N⟩ := id P
  obtain ⟨v, vm₁, ⟨T1, L1, k1, n1⟩, -, X1, hS1, hg1, ⟨Lc, hQ, l1, y1, z1, hC1⟩, st1⟩ := spHS X P.ex (y := C.y) hi E.own (mvT E.zz (hw w1)) (mvT E.zz (hw w2)) (mvT E.zz (hw w4)) hy (hbackW (W := W) K P KK hs0 hSf i4 i3 (by rw [hrt]; exact w4) w3 hf hl) (g := mkF x.m pc Ls (argsL.reverse ++ .ref a :: rest)) rfl (by rw [E.ml]; exact hs) (Steps.refl _) (a := a) (argsL := argsL) (rest := rest) (lenOf hpd hlen) rfl (by show 2 * 0 + _ ≤ _; omega) (P.d hd) (fun _ _ => ⟨rfl, e, hc, hn⟩)
  dsimp only [Pt.U, Pt.locs, Pt.cells, Pt.slots] at X1 hS1 hg1 l1 y1 z1 st1 hQ hC1
  subst l1 y1 z1
  exact liftS st1 (r v T1.heap hQ.1 (x.reb T1.vm) T1 (reb_sp E O' e hS1 hg1 hQ.2.1 X1 (N.app hQ.2.2) ⟨hCC.trans hC1, fun a q => hC1.safe (hS' a q).2 (hsafe a (hS' a q).1), hEW⟩))
end St
end Jvm.Ox
namespace Jvm.Ox
open Jvm.Ow Sem ClassFile Op Lib Jvm.Stand Jvm.Free Jvm.LawKit Jvm.RoadKit
section More
variable {CC : Cx → Prop} {Q : Option Value → Heap → Prop} {Z : State} {x : Cx} {B : Bd} {T : State} {k n : Nat} {h h' : Heap} {pc : Nat} {Ls Ls' : Array Slot} {st rest : List Value}
end More
end Jvm.Ox
namespace Jvm.Pilot.@@N@@
open Jvm Jvm.ClassFile Sem Op Lib Jvm.Free Jvm.Stand Jvm.LawKit Jvm.RoadKit Bundle Jvm.Ow Jvm.Pilot.@@N@@.Jvm.D
abbrev IL (xs : List Int32) : List Value := xs.map Value.int
theorem IL.get {xs : List Int32} {j : Nat} (hj : j < xs.length) : (IL xs)[j]? = some (.int (xs.getD j 0)) := by simp [List.getD, hj]
theorem IL.len {xs : List Int32} : (IL xs).length = xs.length := by simp
def Ch (c : Int32) : Prop := 0 ≤ c.toInt ∧ c.toInt < 65536
def lo (c : Int32) : Int32 := nar .byte (c >>> ((0 : Int32) &&& 31)).toInt8.toInt32
def hi (c : Int32) : Int32 := nar .byte (c >>> ((8 : Int32) &&& 31)).toInt8.toInt32
def l1 (c : Int32) : Int32 := nar .byte c.toInt8.toInt32
def gc (b0 b1 : Int32) : Int32 := nar .char (((b0 &&& (255 : Int32)) <<< ((0 : Int32) &&& 31)) ||| ((b1 &&& (255 : Int32)) <<< ((8 : Int32) &&& 31))).toUInt32.toUInt16.toUInt32.toInt32
def gl (b : Int32) : Int32 := nar .char (b &&& (255 : Int32)).toUInt32.toUInt16.toUInt32.toInt32
theorem lo_at (c : Int32) : (lo c &&& (255 : Int32)).toInt = c.toInt % 256 := by
  have h1 : (lo c &&& (255 : Int32)).toInt = (lo c).toInt % (2 ^ 8 : Nat) := c_mask _ 255 8 (by decide) (by decide)
  have h2 := c_i2b ((c >>> ((0 : Int32) &&& 31)).toInt8.toInt32)
  have h3 := c_i2b (c >>> ((0 : Int32) &&& 31))
  have h4 : (c >>> ((0 : Int32) &&& 31)).toInt = c.toInt / (2 ^ 0 : Nat) := c_ishr c 0 0 (by decide)
  have h5 : (lo c).toInt = ((c >>> ((0 : Int32) &&& 31)).toInt8.toInt32.toInt8.toInt32).toInt := rfl
  omega
theorem hi_at (c : Int32) : (hi c &&& (255 : Int32)).toInt = c.toInt / 256 % 256 := by
  have h1 : (hi c &&& (255 : Int32)).toInt = (hi c).toInt % (2 ^ 8 : Nat) := c_mask _ 255 8 (by decide) (by decide)
  have h2 := c_i2b ((c >>> ((8 : Int32) &&& 31)).toInt8.toInt32)
  have h3 := c_i2b (c >>> ((8 : Int32) &&& 31))
  have h4 : (c >>> ((8 : Int32) &&& 31)).toInt = c.toInt / (2 ^ 8 : Nat) := c_ishr c 8 8 (by decide)
  have h5 : (hi c).toInt = ((c >>> ((8 : Int32) &&& 31)).toInt8.toInt32.toInt8.toInt32).toInt := rfl
  omega
theorem l1_at (c : Int32) : (l1 c &&& (255 : Int32)).toInt = c.toInt % 256 := by
  have h1 : (l1 c &&& (255 : Int32)).toInt = (l1 c).toInt % (2 ^ 8 : Nat) := c_mask _ 255 8 (by decide) (by decide)
  have h2 := c_i2b (c.toInt8.toInt32)
  have h3 := c_i2b c
  have h5 : (l1 c).toInt = (c.toInt8.toInt32.toInt8.toInt32).toInt := rfl
  omega
theorem nc_at (x : Int32) (h0 : 0 ≤ x.toInt) (h1 : x.toInt < 65536) : (nar .char x.toUInt32.toUInt16.toUInt32.toInt32).toInt = x.toInt := by
  have a := c_i2c x
  have b := c_i2c x.toUInt32.toUInt16.toUInt32.toInt32
  have e : (nar .char x.toUInt32.toUInt16.toUInt32.toInt32).toInt = (x.toUInt32.toUInt16.toUInt32.toInt32.toUInt32.toUInt16.toUInt32.toInt32).toInt := rfl
  omega
theorem own_gc {c : Int32} (h : Ch c) : gc (lo c) (hi c) = c := by
  obtain ⟨h1, h2⟩ := h
  apply Int32.toInt_inj.mp
  have a := lo_at c
  have b := hi_at c
  have d := c_ishl (lo c &&& (255 : Int32)) 0 0 (by decide)
  have e := c_ishl (hi c &&& (255 : Int32)) 8 8 (by decide)
  have r1 := Int32.toInt_lt ((lo c &&& (255 : Int32)) <<< ((0 : Int32) &&& 31))
  have r2 := Int32.le_toInt ((lo c &&& (255 : Int32)) <<< ((0 : Int32) &&& 31))
  have r3 := Int32.toInt_lt ((hi c &&& (255 : Int32)) <<< ((8 : Int32) &&& 31))
  have r4 := Int32.le_toInt ((hi c &&& (255 : Int32)) <<< ((8 : Int32) &&& 31))
  have f := c_or' ((lo c &&& (255 : Int32)) <<< ((0 : Int32) &&& 31)) ((hi c &&& (255 : Int32)) <<< ((8 : Int32) &&& 31)) 8 (by decide) 256 rfl (by omega) (by omega) (by omega)
  have r5 := Int32.toInt_lt (((lo c &&& (255 : Int32)) <<< ((0 : Int32) &&& 31)) ||| ((hi c &&& (255 : Int32)) <<< ((8 : Int32) &&& 31)))
  have r6 := Int32.le_toInt (((lo c &&& (255 : Int32)) <<< ((0 : Int32) &&& 31)) ||| ((hi c &&& (255 : Int32)) <<< ((8 : Int32) &&& 31)))
  rw [gc, nc_at _ (by omega) (by omega)]
  omega
theorem own_gl {c : Int32} (h : Ch c) (h' : ¬ (255 : Int32) < c) : gl (l1 c) = c := by
  rw [Int32.lt_iff_toInt_lt] at h'
  have o : (255 : Int32).toInt = 255 := rfl
  obtain ⟨h1, h2⟩ := h
  apply Int32.toInt_inj.mp
  have a := l1_at c
  rw [gl, nc_at _ (by omega) (by omega)]
  omega
theorem own_ch {p v : Int32} (h : p.toUInt32.toUInt16.toUInt32.toInt32 = v) : Ch v := by
  have := c_i2c p
  rw [h] at this
  constructor <;> omega
theorem own_nc {v : Int32} (h : Ch v) : nar .char v = v := by
  apply Int32.toInt_inj.mp
  have := c_i2c v
  show (v.toUInt32.toUInt16.toUInt32.toInt32).toInt = _
  have := h.1; have := h.2; omega
theorem own_dbl {j v : Int32} {jn : Nat} (hj : j.toInt = jn) (h9 : jn < 9) (h : j <<< ((1 : Int32) &&& 31) = v) : v.toInt = ((2 * jn : Nat) : Int) := by
  have := c_ishl j 1 1 (by decide)
  rw [h] at this
  have r1 := Int32.toInt_lt v
  have r2 := Int32.le_toInt v
  omega
theorem own_dbl1 {v : Int32} {jn : Nat} (h9 : jn < 9) (h : v.toInt = ((2 * jn : Nat) : Int)) : (v + (1 : Int32)).toInt = ((2 * jn + 1 : Nat) : Int) := by
  have o : (1 : Int32).toInt = 1 := rfl
  have := XT.add32 (x := v) (y := 1) ⟨by omega, by omega⟩
  omega
theorem own_il2 {Z : State} {h : Heap} {t : Addr} {us : List Int32} {i j : Nat} {x y : Int32} (A : Ary Z h t .byte (((IL us).set i (.int x)).set j (.int y))) : Ary Z h t .byte (IL ((us.set i x).set j y)) := by
  have e : IL ((us.set i x).set j y) = ((IL us).set i (.int x)).set j (.int y) := by simp only [IL, List.map_set]
  rw [e]; exact A
theorem own_ofne {i N : Nat} (h : i < N) (hN : N < 100) : ¬ Int32.ofNat i = Int32.ofNat N := fun q => by
  have a := Int32.toInt_ofNat_of_lt (n := i) (by omega)
  have b := Int32.toInt_ofNat_of_lt (n := N) (by omega)
  rw [q] at a; omega
theorem own_jn {j : Int32} {jn : Nat} (hj : j.toInt = jn) : ¬ j < 0 := by
  rw [Int32.lt_iff_toInt_lt]; have o : (0 : Int32).toInt = 0 := rfl; omega
theorem own_jl {j : Int32} {jn m : Nat} (hj : j.toInt = jn) (h : jn < m) (hm : m < 2 ^ 31) : j < Int32.ofNat m := by
  rw [Int32.lt_iff_toInt_lt, Int32.toInt_ofNat_of_lt hm]; omega
def zer (n : Nat) : List Int32 := List.replicate n 0
def put (l : List Int32) (j : Nat) (x : Int32) : List Int32 := (l.set (2 * j) (lo x)).set (2 * j + 1) (hi x)
def decv (u : Int32) : Int32 := if u < (128 : Int32) then u.toUInt32.toUInt16.toUInt32.toInt32 else (65533 : Int32)
def DB (b x : Int32) : Prop := (¬ b < 0 ∧ gl b = x) ∨ (b < 0 ∧ x = (65533 : Int32))
def Sq0 : List Int32 → List Int32 → Prop
  | [], [] => True
  | u :: us, x :: xs => gl u = x ∧ Sq0 us xs
  | _, _ => False
def Sq1 : List Int32 → List Int32 → Prop
  | [], [] => True
  | u :: w :: us, x :: xs => gc u w = x ∧ Sq1 us xs
  | _, _ => False
theorem Sq0.len : ∀ {us xs : List Int32}, Sq0 us xs → us.length = xs.length
  | [], [], _ => rfl
  | _ :: _, _ :: _, h => by have := Sq0.len h.2; simp [this]
  | [], _ :: _, h => h.elim
  | _ :: _, [], h => h.elim
theorem Sq0.get : ∀ {us xs : List Int32} {i : Nat}, Sq0 us xs → i < xs.length → gl (us.getD i 0) = xs.getD i 0
  | _ :: _, _ :: _, 0, h, _ => h.1
  | _ :: _, _ :: _, i + 1, h, hi => by have := Sq0.get (i := i) h.2 (by simpa using hi); simpa using this
  | [], _ :: _, _, h, _ => h.elim
  | _, [], _, _, hi => absurd hi (Nat.not_lt_zero _)
theorem Sq1.len : ∀ {us xs : List Int32}, Sq1 us xs → us.length = 2 * xs.length
  | [], [], _ => rfl
  | _ :: _ :: _, _ :: _, h => by have := Sq1.len h.2; simp [this]; omega
  | [], _ :: _, h => h.elim
  | [_], _ :: _, h => h.elim
  | [_], [], h => h.elim
  | _ :: _ :: _, [], h => h.elim
theorem Sq1.get : ∀ {us xs : List Int32} {i : Nat}, Sq1 us xs → i < xs.length → gc (us.getD (2 * i) 0) (us.getD (2 * i + 1) 0) = xs.getD i 0
  | _ :: _ :: _, _ :: _, 0, h, _ => h.1
  | u :: w :: us, _ :: _, i + 1, h, hi => by
    have := Sq1.get (i := i) h.2 (by simpa using hi)
    have e : 2 * (i + 1) = 2 * i + 1 + 1 := by omega
    rw [e]
    simpa using this
  | [], _ :: _, _, h, _ => h.elim
  | [_], _ :: _, _, h, _ => h.elim
  | _, [], _, _, hi => absurd hi (Nat.not_lt_zero _)
theorem own_cf : Ch (65533 : Int32) := ⟨by decide, by decide⟩
theorem own_s0 (x : Int32) : x - (0 : Int32) = x := by simp
theorem own_ltne {x L : Int32} (h : x < L) : ¬ x = L := fun q => by rw [q, Int32.lt_iff_toInt_lt] at h; omega
theorem own_inc {v : Int32} {m : Nat} (h : v.toInt = (m : Int)) (hm : m < 9) : (v + (1 : Int32)).toInt = ((m + 1 : Nat) : Int) := by
  have o : (1 : Int32).toInt = 1 := rfl
  have := XT.add32 (x := v) (y := 1) ⟨by omega, by omega⟩
  omega
theorem own_pm {b : Int32} (h : ¬ b < 0) : ¬ b < (-64 : Int32) := by
  rw [Int32.lt_iff_toInt_lt] at h ⊢
  have o : (0 : Int32).toInt = 0 := rfl
  have o' : (-64 : Int32).toInt = -64 := rfl
  omega
theorem own_tk (us : List Int32) {M : Nat} : (List.replicate M (Value.int 0)).take 0 ++ ((IL us).drop 0).take M ++ (List.replicate M (Value.int 0)).drop (0 + M) = IL (us.take M) := by
  simp [IL, List.map_take]
theorem own_cp (us vs : List Int32) (d : Nat) : (IL us).take d ++ ((IL vs).drop 0).take vs.length ++ (IL us).drop (d + vs.length) = IL (us.take d ++ vs ++ us.drop (d + vs.length)) := by
  simp [IL, List.map_take, List.map_drop, List.take_of_length_le]
theorem own_nb {e v : Int32} (h : e.toInt8.toInt32 = v) : nar .byte v = v := by
  have a := c_i2b e
  have b := c_i2b v
  rw [h] at a
  apply Int32.toInt_inj.mp
  show (v.toInt8.toInt32).toInt = _
  omega
theorem own_255 (b : Int32) : (b &&& (255 : Int32)).toInt = b.toInt % 256 := c_mask b 255 8 (by decide) (by decide)
theorem own_b255 {b x : Int32} (h : gl b = x) : b &&& (255 : Int32) = x := by
  have q := own_255 b
  apply Int32.toInt_inj.mp
  rw [← h, gl, nc_at _ (by omega) (by omega)]
theorem own_chl {b x : Int32} (h : gl b = x) : Ch x := by
  have q := own_255 b
  rw [← own_b255 h]
  constructor <;> omega
theorem own_gcb {b x : Int32} (h : gl b = x) : gc (lo (b &&& (255 : Int32))) (hi (b &&& (255 : Int32))) = x := by
  rw [own_b255 h]; exact own_gc (own_chl h)
theorem own_g61 : gl (61 : Int32) = (61 : Int32) := by decide
theorem own_pn {b : Int32} (h : ¬ b < 0) (h' : b.toInt < 128) : (¬ (b &&& (192 : Int32)) = (128 : Int32)) ∧ (¬ ((b &&& (255 : Int32)) &&& (192 : Int32)) = (128 : Int32)) ∧ ∀ {x : Int32}, gl b = x → b.toUInt32.toUInt16.toUInt32.toInt32 = x := by
  rw [Int32.lt_iff_toInt_lt] at h
  have o : (0 : Int32).toInt = 0 := rfl
  have e : b = Int32.ofNat b.toInt.toNat := by
    have q : b.toInt = ((b.toInt.toNat : Nat) : Int) := by omega
    have r : b = Int32.ofInt b.toInt := (Int32.ofInt_toInt b).symm
    rw [r]; rw [show (Int32.ofInt b.toInt).toInt = b.toInt from by rw [Int32.ofInt_toInt]]; rw [q]; rfl
  have k : ∀ n : Fin 128, (¬ (Int32.ofNat n.val &&& (192 : Int32)) = (128 : Int32)) ∧ (¬ ((Int32.ofNat n.val &&& (255 : Int32)) &&& (192 : Int32)) = (128 : Int32)) ∧ Int32.ofNat n.val &&& (255 : Int32) = Int32.ofNat n.val := by decide +kernel
  have kk := k ⟨b.toInt.toNat, by omega⟩
  rw [← e] at kk
  refine ⟨kk.1, kk.2.1, fun {x} hx => ?_⟩
  rw [← own_b255 hx, kk.2.2]
  have c := c_i2c b
  apply Int32.toInt_inj.mp
  omega
theorem own_dl {u x : Int32} (h : u < (128 : Int32)) (hx : decv u = x) : u.toUInt32.toUInt16.toUInt32.toInt32 = x := by
  rw [← hx, decv, if_pos h]
theorem own_chd {u x : Int32} (hx : decv u = x) : Ch x := by
  rw [← hx, decv]
  split
  · exact own_ch rfl
  · exact own_cf
theorem own_fc {Z : State} {h : Heap} {a : Addr} {C n d : String} {v v' : Int32} (F : Fld Z h a C n d (.int v)) (e : v = v') : Fld Z h a C n d (.int v') := e ▸ F
theorem own_an {Z : State} {h : Heap} {t u : Addr} {ty ty' : FieldType} {vs us : List Value} (A : Ary Z h t ty vs) (B : Ary Z h u ty' us) (hne : vs.length ≠ us.length) : t ≠ u := fun q => by
  subst q
  obtain ⟨c, A, e1, -⟩ := A
  obtain ⟨c', A', e1', -⟩ := B
  cases A.1.symm.trans A'.1
  exact hne (by rw [← e1, ← e1'])
theorem own_n3 {e v : Int32} (h : (e &&& (3 : Int32)) % (3 : Int32) = v) : v = 0 ∨ v = 1 ∨ v = 2 := by
  have a : (e &&& (3 : Int32)).toInt = e.toInt % (2 ^ 2 : Nat) := c_mask e 3 2 (by decide) (by decide)
  have b := (c_irem (e &&& (3 : Int32)) 3 3 rfl).1 (by omega)
  rw [h] at b
  have o0 : (0 : Int32).toInt = 0 := rfl
  have o1 : (1 : Int32).toInt = 1 := rfl
  have o2 : (2 : Int32).toInt = 2 := rfl
  rcases (show v.toInt = 0 ∨ v.toInt = 1 ∨ v.toInt = 2 by omega) with q | q | q
  · exact Or.inl (Int32.toInt_inj.mp (q.trans o0.symm))
  · exact Or.inr (Or.inl (Int32.toInt_inj.mp (q.trans o1.symm)))
  · exact Or.inr (Or.inr (Int32.toInt_inj.mp (q.trans o2.symm)))
theorem own_m8 {e v : Int32} (h : e &&& (255 : Int32) = v) : 0 ≤ v.toInt ∧ v.toInt < 256 := by
  have := own_255 e; rw [h] at this; omega
theorem own_m8' (e : Int32) : 0 ≤ (e &&& (255 : Int32)).toInt ∧ (e &&& (255 : Int32)).toInt < 256 := by
  have := own_255 e; omega
theorem own_m7' (e : Int32) : 0 ≤ (e &&& (127 : Int32)).toInt ∧ (e &&& (127 : Int32)).toInt < 128 := by
  have : (e &&& (127 : Int32)).toInt = e.toInt % (2 ^ 7 : Nat) := c_mask e 127 7 (by decide) (by decide)
  omega
theorem own_db {u b x : Int32} (hu : 0 ≤ u.toInt ∧ u.toInt < 256) (hb : u.toInt8.toInt32 = b) (hx : decv u = x) : DB b x ∧ b.toInt < 128 ∧ (b < 0 ↔ ¬ u < (128 : Int32)) := by
  have i := c_i2b u
  rw [hb] at i
  have o : (0 : Int32).toInt = 0 := rfl
  have o1 : (128 : Int32).toInt = 128 := rfl
  have iff : b < 0 ↔ ¬ u < (128 : Int32) := by rw [Int32.lt_iff_toInt_lt, Int32.lt_iff_toInt_lt]; omega
  refine ⟨?_, by omega, iff⟩
  by_cases h : u < (128 : Int32)
  · left
    have hn : ¬ b < 0 := fun q => (iff.mp q) h
    refine ⟨hn, ?_⟩
    rw [Int32.lt_iff_toInt_lt] at h
    have q := own_255 b
    have cc := c_i2c u
    apply Int32.toInt_inj.mp
    rw [gl, nc_at _ (by omega) (by omega), ← hx, decv, if_pos (by rw [Int32.lt_iff_toInt_lt]; exact h)]
    omega
  · right
    exact ⟨iff.mpr h, by rw [← hx, decv, if_neg h]⟩
theorem own_c61 : Ch (61 : Int32) := ⟨by decide, by decide⟩
theorem own_r0 (x : Int32) : x >>> ((0 : Int32) &&& 31) = x := by
  have h := c_ishr x 0 0 (by decide)
  apply Int32.toInt_inj.mp
  omega
theorem own_r1 {n : Nat} (h : n < 9) : Int32.ofNat (2 * n) >>> ((1 : Int32) &&& 31) = Int32.ofNat n := by
  have a := c_ishr (Int32.ofNat (2 * n)) 1 1 (by decide)
  have b : (Int32.ofNat (2 * n)).toInt = ((2 * n : Nat) : Int) := len_ofNat (by omega)
  have c : (Int32.ofNat n).toInt = (n : Int) := len_ofNat (by omega)
  apply Int32.toInt_inj.mp
  omega
theorem Sq0.append : ∀ {us xs vs ys : List Int32}, Sq0 us xs → Sq0 vs ys → Sq0 (us ++ vs) (xs ++ ys)
  | [], [], _, _, _, h => h
  | _ :: _, _ :: _, _, _, h, h' => ⟨h.1, Sq0.append h.2 h'⟩
  | [], _ :: _, _, _, h, _ => h.elim
  | _ :: _, [], _, _, h, _ => h.elim
theorem Sq1.append : ∀ {us xs vs ys : List Int32}, Sq1 us xs → Sq1 vs ys → Sq1 (us ++ vs) (xs ++ ys)
  | [], [], _, _, _, h => h
  | _ :: _ :: _, _ :: _, _, _, h, h' => ⟨h.1, Sq1.append h.2 h'⟩
  | [], _ :: _, _, _, h, _ => h.elim
  | [_], _ :: _, _, _, h, _ => h.elim
  | [_], [], _, _, h, _ => h.elim
  | _ :: _ :: _, [], _, _, h, _ => h.elim
theorem own_putl (l : List Int32) (j : Nat) (x : Int32) : (put l j x).length = l.length := by simp [put]
theorem own_put {us xs : List Int32} {c : Nat} {x y : Int32} (hl : 2 * c + 1 < us.length) (hS : Sq1 (us.take (2 * c)) xs) (hg : gc (lo x) (hi x) = y) : Sq1 ((put us c x).take (2 * (c + 1))) (xs ++ [y]) := by
  have e : (put us c x).take (2 * (c + 1)) = us.take (2 * c) ++ [lo x, hi x] := by
    apply List.ext_getElem?
    intro i
    have hlen : (us.take (2 * c)).length = 2 * c := by rw [List.length_take]; omega
    by_cases h1 : i < 2 * c
    · rw [List.getElem?_take_of_lt (by omega), List.getElem?_append_left (by omega), List.getElem?_take_of_lt h1, put, List.getElem?_set_ne (by omega), List.getElem?_set_ne (by omega)]
    · by_cases h2 : i = 2 * c
      · subst h2
        rw [List.getElem?_take_of_lt (by omega), List.getElem?_append_right (by omega), hlen, put, List.getElem?_set_ne (by omega), List.getElem?_set_self (by omega)]
        simp
      · by_cases h3 : i = 2 * c + 1
        · subst h3
          rw [List.getElem?_take_of_lt (by omega), List.getElem?_append_right (by omega), hlen, put, List.getElem?_set_self (by rw [List.length_set]; omega), show 2 * c + 1 - 2 * c = 1 by omega]
          rfl
        · rw [List.getElem?_eq_none (by rw [List.length_take]; omega), List.getElem?_eq_none (by simp [hlen]; omega)]
  rw [e]
  exact hS.append ⟨hg, trivial⟩
theorem own_tg {us : List Int32} {n k : Nat} (h : k < n) : (us.take n).getD k 0 = us.getD k 0 := by
  simp only [List.getD_eq_getElem?_getD, List.getElem?_take_of_lt h]
theorem own_g0 {us xs : List Int32} {n k : Nat} (S : Sq0 (us.take n) xs) (hn : xs.length = n) (h : k < n) : gl (us.getD k 0) = xs.getD k 0 := by
  rw [← own_tg h]; exact S.get (by omega)
theorem own_cat0 {us xs vs ys r : List Int32} {n : Nat} (S : Sq0 (us.take n) xs) (hn : xs.length = n) (hl : n ≤ us.length) (S' : Sq0 vs ys) : Sq0 ((us.take n ++ vs ++ r).take (xs ++ ys).length) (xs ++ ys) := by
  have e : (us.take n ++ vs ++ r).take (xs ++ ys).length = us.take n ++ vs := by
    apply List.take_left'
    rw [List.length_append, List.length_append, List.length_take, S'.len]; omega
  rw [e]; exact S.append S'
theorem own_cat1 {us xs vs ys r : List Int32} {n : Nat} (S : Sq1 (us.take (2 * n)) xs) (hn : xs.length = n) (hl : 2 * n ≤ us.length) (S' : Sq1 vs ys) : Sq1 ((us.take (2 * n) ++ vs ++ r).take (2 * (xs ++ ys).length)) (xs ++ ys) := by
  have e : (us.take (2 * n) ++ vs ++ r).take (2 * (xs ++ ys).length) = us.take (2 * n) ++ vs := by
    apply List.take_left'
    rw [List.length_append, List.length_append, List.length_take, S'.len]; omega
  rw [e]; exact S.append S'
theorem own_sh0 (n : Nat) : Int32.ofNat n <<< ((0 : Int32) &&& 31) = Int32.ofNat n := by
  have h := c_ishl (Int32.ofNat n) 0 0 (by decide)
  have r1 := Int32.toInt_lt (Int32.ofNat n <<< ((0 : Int32) &&& 31))
  have r2 := Int32.le_toInt (Int32.ofNat n <<< ((0 : Int32) &&& 31))
  have r3 := Int32.toInt_lt (Int32.ofNat n)
  have r4 := Int32.le_toInt (Int32.ofNat n)
  apply Int32.toInt_inj.mp
  omega
theorem own_sh1 {n : Nat} (hn : n < 9) : Int32.ofNat n <<< ((1 : Int32) &&& 31) = Int32.ofNat (2 * n) := by
  have h := c_ishl (Int32.ofNat n) 1 1 (by decide)
  have b : (Int32.ofNat (2 * n)).toInt = ((2 * n : Nat) : Int) := len_ofNat (by omega)
  have c : (Int32.ofNat n).toInt = (n : Int) := len_ofNat (by omega)
  have r1 := Int32.toInt_lt (Int32.ofNat n <<< ((1 : Int32) &&& 31))
  have r2 := Int32.le_toInt (Int32.ofNat n <<< ((1 : Int32) &&& 31))
  apply Int32.toInt_inj.mp
  omega
theorem own_add (n m : Nat) : Int32.ofNat n + Int32.ofNat m = Int32.ofNat (n + m) := (Int32.ofNat_add n m).symm
theorem own_hm {n m : Nat} (h : n + m ≤ 9) : ¬ (0 : Int32) < (Int32.ofNat n + Int32.ofNat m) - (16 : Int32) := by
  rw [own_add]
  have c : (Int32.ofNat (n + m)).toInt = ((n + m : Nat) : Int) := len_ofNat (by omega)
  have s := c_isub (Int32.ofNat (n + m)) 16
  have o : (16 : Int32).toInt = 16 := rfl
  have o' : (0 : Int32).toInt = 0 := rfl
  have r1 := Int32.toInt_lt (Int32.ofNat (n + m) - (16 : Int32))
  have r2 := Int32.le_toInt (Int32.ofNat (n + m) - (16 : Int32))
  rw [Int32.lt_iff_toInt_lt]
  omega
theorem own_le2 {ys : List Int32} (h : ys.length ≤ 2) : ys = [] ∨ (∃ a, ys = [a]) ∨ ∃ a b, ys = [a, b] := by
  match ys, h with
  | [], _ => exact Or.inl rfl
  | [a], _ => exact Or.inr (Or.inl ⟨a, rfl⟩)
  | [a, b], _ => exact Or.inr (Or.inr ⟨a, b, rfl⟩)
theorem own_le3 {ys : List Int32} (h : ys.length ≤ 3) : ys = [] ∨ (∃ a, ys = [a]) ∨ (∃ a b, ys = [a, b]) ∨ ∃ a b c, ys = [a, b, c] := by
  match ys, h with
  | [], _ => exact Or.inl rfl
  | [a], _ => exact Or.inr (Or.inl ⟨a, rfl⟩)
  | [a, b], _ => exact Or.inr (Or.inr (Or.inl ⟨a, b, rfl⟩))
  | [a, b, c], _ => exact Or.inr (Or.inr (Or.inr ⟨a, b, c, rfl⟩))
theorem own_bd {n : Nat} (h : n ≤ 3) (k : Fin 3) : ¬ (((16 : Int32) ||| Int32.ofNat n) ||| Int32.ofNat k.val) < 0 ∧ ¬ ((16 : Int32) - Int32.ofNat n) < Int32.ofNat k.val := by
  have q : ∀ m : Fin 4, ∀ k : Fin 3, ¬ (((16 : Int32) ||| Int32.ofNat m.val) ||| Int32.ofNat k.val) < 0 ∧ ¬ ((16 : Int32) - Int32.ofNat m.val) < Int32.ofNat k.val := by decide +kernel
  exact q ⟨n, by omega⟩ k
theorem own_ylt {n c : Nat} (h : n < c) (hc : c < 1000) : Int32.ofNat n < Int32.ofNat c := by
  have a : (Int32.ofNat n).toInt = (n : Int) := len_ofNat (by omega)
  have b : (Int32.ofNat c).toInt = (c : Int) := len_ofNat (by omega)
  rw [Int32.lt_iff_toInt_lt]; omega
theorem own_y0 {n : Nat} (h : n < 1000) : ¬ Int32.ofNat n < (0 : Int32) := by
  have a : (Int32.ofNat n).toInt = (n : Int) := len_ofNat (by omega)
  have o : (0 : Int32).toInt = 0 := rfl
  rw [Int32.lt_iff_toInt_lt]; omega
/-- a String of the chars xs -/
def Str (Z : State) (h : Heap) (a t : Addr) (xs : List Int32) : Prop := Exa Z h a "java/lang/String" ∧ Fld Z h a "java/lang/String" "value" "[B" (.ref t) ∧ ((Fld Z h a "java/lang/String" "coder" "B" (.int 0) ∧ ∃ us, Ary Z h t .byte (IL us) ∧ Sq0 us xs) ∨ (Fld Z h a "java/lang/String" "coder" "B" (.int 1) ∧ ∃ us, Ary Z h t .byte (IL us) ∧ Sq1 us xs))
/-- a builder with the chars xs, its array val -/
def Sbl (Z : State) (h : Heap) (sb val : Addr) (xs : List Int32) : Prop := Exa Z h sb "java/lang/StringBuilder" ∧ Fld Z h sb "java/lang/AbstractStringBuilder" "value" "[B" (.ref val) ∧ Fld Z h sb "java/lang/AbstractStringBuilder" "count" "I" (.int (Int32.ofNat xs.length)) ∧ Fld Z h sb "java/lang/AbstractStringBuilder" "maybeLatin1" "Z" (.int 0) ∧ ((Fld Z h sb "java/lang/AbstractStringBuilder" "coder" "B" (.int 0) ∧ ∃ us, Ary Z h val .byte (IL us) ∧ us.length = 16 ∧ Sq0 (us.take xs.length) xs) ∨ (Fld Z h sb "java/lang/AbstractStringBuilder" "coder" "B" (.int 1) ∧ ∃ us, Ary Z h val .byte (IL us) ∧ us.length = 32 ∧ Sq1 (us.take (2 * xs.length)) xs))
theorem Str.keep {Z : State} {h h' : Heap} {a t : Addr} {xs : List Int32} {ws : List Addr} (S : Str Z h a t xs) (K : Keep h h' ws) (ha : a ∉ ws) (ht : t ∉ ws) : Str Z h' a t xs := by
  obtain ⟨E, F, D⟩ := S
  refine ⟨E.keep K, F.keep K ha, ?_⟩
  rcases D with ⟨C, us, A, S⟩ | ⟨C, us, A, S⟩
  · exact Or.inl ⟨C.keep K ha, us, A.keep K ht, S⟩
  · exact Or.inr ⟨C.keep K ha, us, A.keep K ht, S⟩
theorem Sbl.keep {Z : State} {h h' : Heap} {a t : Addr} {xs : List Int32} {ws : List Addr} (S : Sbl Z h a t xs) (K : Keep h h' ws) (ha : a ∉ ws) (ht : t ∉ ws) : Sbl Z h' a t xs := by
  obtain ⟨E, F, G, H, D⟩ := S
  refine ⟨E.keep K, F.keep K ha, G.keep K ha, H.keep K ha, ?_⟩
  rcases D with ⟨C, us, A, S⟩ | ⟨C, us, A, S⟩
  · exact Or.inl ⟨C.keep K ha, us, A.keep K ht, S⟩
  · exact Or.inr ⟨C.keep K ha, us, A.keep K ht, S⟩
theorem Sbl.lt {Z : State} {h : Heap} {a t : Addr} {xs : List Int32} (S : Sbl Z h a t xs) : t < h.size := by
  obtain ⟨-, -, -, -, D⟩ := S
  rcases D with ⟨C, us, A, -⟩ | ⟨C, us, A, -⟩ <;> exact A.lt
theorem Sbl.nn {Z : State} {h : Heap} {a t u : Addr} {xs : List Int32} (S : Sbl Z h a t xs) (B : Ary Z h u .byte (IL [])) : u ≠ t := by
  obtain ⟨-, -, -, -, D⟩ := S
  rcases D with ⟨C, us, A, e, -⟩ | ⟨C, us, A, e, -⟩ <;> exact own_an B A (by rw [IL.len, IL.len, e]; decide)
theorem own_ln {us vs : List Int32} {d : Nat} (h : d + vs.length ≤ us.length) : (us.take d ++ vs ++ us.drop (d + vs.length)).length = us.length := by
  rw [List.length_append, List.length_append, List.length_take, List.length_drop]; omega
theorem own_km {h h' : Heap} {a b : Addr} (K : Keep h h' [a]) : Keep h h' [a, b] := ⟨K.1, fun x c q r => K.2.1 x c q (fun m => r (by rw [List.mem_singleton] at m; simp [m])), K.2.2⟩
theorem own_si {s : State} {args : Array Value} {C n d : String} {v : Int32} (h : (Cond.eq (Term.static C n d) (Term.int v)).value args s none s [] = some true) (hi : (Cond.initializedFor C n d).before args s = true) : Sta s s.heap C n d (.int v) := by
  refine Sta.start (args := args) ?_ (Or.inl hi)
  cases hf : (Term.static C n d).eval args s none [] s with
  | none => simp [Cond.value, hf] at h
  | some w => cases w <;> simp [Cond.value, hf, Term.int_eval] at h ⊢; exact h
theorem own_se {s : State} {args : Array Value} {t t2 : Term} {a : Addr} (ev : t.eval args s none [] s = some (.ref a)) (h : (Cond.eq t t2).value args s none s [] = some true) : t2.eval args s none [] s = some (.ref a) := by
  cases hf : t2.eval args s none [] s with
  | none => simp [Cond.value, ev, hf] at h
  | some v => cases v <;> simp [Cond.value, ev, hf] at h ⊢; first | exact h | exact h.symm
abbrev YAs (Z : State) : Prop := Sta Z Z.heap "java/lang/StringUTF16" "$assertionsDisabled" "Z" (.int 1)
abbrev YHi (Z : State) : Prop := Sta Z Z.heap "java/lang/StringUTF16" "HI_BYTE_SHIFT" "I" (.int 0)
abbrev YLo (Z : State) : Prop := Sta Z Z.heap "java/lang/StringUTF16" "LO_BYTE_SHIFT" "I" (.int 8)
abbrev YCs (Z : State) (cs : Int32) : Prop := Sta Z Z.heap "java/lang/String" "COMPACT_STRINGS" "Z" (.int cs)
abbrev YFm (Z : State) : Prop := (Sta Z Z.heap "jdk/internal/util/Preconditions" "SIOOBE_FORMATTER" "Ljava/util/function/BiFunction;" .null) ∨ ∃ m, Sta Z Z.heap "jdk/internal/util/Preconditions" "SIOOBE_FORMATTER" "Ljava/util/function/BiFunction;" (.ref m)
abbrev YUt (Z : State) (m : Addr) : Prop := Sta Z Z.heap "sun/nio/cs/UTF_8" "INSTANCE" "Lsun/nio/cs/UTF_8;" (.ref m)
abbrev YU8 (Z : State) (m : Addr) : Prop := Sta Z Z.heap "java/nio/charset/StandardCharsets" "UTF_8" "Ljava/nio/charset/Charset;" (.ref m)
abbrev YBv (Z : State) (h : Heap) (a : Addr) (v : Value) : Prop := Fld Z h a "java/lang/AbstractStringBuilder" "value" "[B" v
abbrev YBc (Z : State) (h : Heap) (a : Addr) (v : Value) : Prop := Fld Z h a "java/lang/AbstractStringBuilder" "coder" "B" v
abbrev YBn (Z : State) (h : Heap) (a : Addr) (v : Value) : Prop := Fld Z h a "java/lang/AbstractStringBuilder" "count" "I" v
abbrev YBm (Z : State) (h : Heap) (a : Addr) (v : Value) : Prop := Fld Z h a "java/lang/AbstractStringBuilder" "maybeLatin1" "Z" v
abbrev YSv (Z : State) (h : Heap) (a : Addr) (v : Value) : Prop := Fld Z h a "java/lang/String" "value" "[B" v
abbrev YSc (Z : State) (h : Heap) (a : Addr) (v : Value) : Prop := Fld Z h a "java/lang/String" "coder" "B" v
abbrev YEs (Z : State) (h : Heap) (a : Addr) : Prop := Exa Z h a "java/lang/String"
abbrev YEb (Z : State) (h : Heap) (a : Addr) : Prop := Exa Z h a "java/lang/StringBuilder"
theorem lb {a b : Nat} (h : Nat.ble a b = true) : a ≤ b := Nat.le_of_ble_eq_true h
theorem d46_0 : decode jdk_52_method_4_code 0 = .ok (.getstatic 44, 3) := by decide +kernel
theorem d46_3 : decode jdk_52_method_4_code 3 = .ok (.ifCond .ne 25, 3) := by decide +kernel
theorem d46_28 : decode jdk_52_method_4_code 28 = .ok (.iload_n 1, 1) := by decide +kernel
theorem d46_29 : decode jdk_52_method_4_code 29 = .ok (.iconst 1, 1) := by decide +kernel
theorem d46_30 : decode jdk_52_method_4_code 30 = .ok (.ishl, 1) := by decide +kernel
theorem d46_31 : decode jdk_52_method_4_code 31 = .ok (.istore_n 1, 1) := by decide +kernel
theorem d46_32 : decode jdk_52_method_4_code 32 = .ok (.aload_n 0, 1) := by decide +kernel
theorem d46_33 : decode jdk_52_method_4_code 33 = .ok (.iload_n 1, 1) := by decide +kernel
theorem d46_34 : decode jdk_52_method_4_code 34 = .ok (.iinc 1 1, 3) := by decide +kernel
theorem d46_37 : decode jdk_52_method_4_code 37 = .ok (.iload_n 2, 1) := by decide +kernel
theorem d46_38 : decode jdk_52_method_4_code 38 = .ok (.getstatic 59, 3) := by decide +kernel
theorem d46_41 : decode jdk_52_method_4_code 41 = .ok (.ishr, 1) := by decide +kernel
theorem d46_42 : decode jdk_52_method_4_code 42 = .ok (.i2b, 1) := by decide +kernel
theorem d46_43 : decode jdk_52_method_4_code 43 = .ok (.bastore, 1) := by decide +kernel
theorem d46_44 : decode jdk_52_method_4_code 44 = .ok (.aload_n 0, 1) := by decide +kernel
theorem d46_45 : decode jdk_52_method_4_code 45 = .ok (.iload_n 1, 1) := by decide +kernel
theorem d46_46 : decode jdk_52_method_4_code 46 = .ok (.iload_n 2, 1) := by decide +kernel
theorem d46_47 : decode jdk_52_method_4_code 47 = .ok (.getstatic 63, 3) := by decide +kernel
theorem d46_50 : decode jdk_52_method_4_code 50 = .ok (.ishr, 1) := by decide +kernel
theorem d46_51 : decode jdk_52_method_4_code 51 = .ok (.i2b, 1) := by decide +kernel
theorem d46_52 : decode jdk_52_method_4_code 52 = .ok (.bastore, 1) := by decide +kernel
theorem d46_53 : decode jdk_52_method_4_code 53 = .ok (.return_, 1) := by decide +kernel
theorem pd46 : parseMethodDescriptor "([BII)V" = some ⟨[(.array .byte), .int, .int], none⟩ := by decide +kernel
theorem pn46 : plainFor (⟨"java/lang/StringUTF16", "putChar", "([BII)V"⟩ : MethodName) = true := by first | (refine plainFor_of_name ?_; simp [plainName, overriddenIn]; done) | (refine plainFor_of_name ?_; decide +kernel) | decide +kernel
abbrev B46 : Bd := ((⟨"java/lang/StringUTF16", "putChar", "([BII)V"⟩ : MethodName), jdk_52_method_4_code, 3, none, ({ frames := 0, cells := 0, slots := 0, locals := 0 } : Room), tables_1)
def Q46 (Z : State) (t : Addr) (us : List Int32) (jn : Nat) (x : Int32) (h0 : Heap) (v : Option Value) (h : Heap) : Prop := v = none ∧ Keep h0 h [t] ∧ Ary Z h t .byte (IL (put us jn x))
theorem c46 (Z : State) (hw : Wd Z tables_1) (h0 : Heap) (t : Addr) (j : Int32) (x : Int32) (us : List Int32) (jn : Nat) (hj : j.toInt = jn) (hj9 : jn < 9) (hAs : YAs Z) (hHi : YHi Z) (hLo : YLo Z) (hgt : Z.heap.size ≤ t) (hlt : 2 * jn + 1 < us.length) (hA : Ary Z h0 t .byte (IL us)) : Con Z B46 (List.toArray [.ref t, .int j, .int x]) h0 (Q46 Z t us jn x h0) := by
  refine Con.mk (Ls := #[.val (.ref t), .val (.int j), .val (.int x)]) hw pn46 (fun mid => by first | (simp [entryFrame, mkF, argsToLocals, Value.category, Jvm.Ow.Bd.ml, B46]; done) | rfl) (Go.old fun hle' => ?_)
  have hle := hle'.1
  refine Go.getS 3 rfl (v := .int (1 : Int32)) 245 d46_0 rfl hAs ?_
  refine Go.if_ne 28 6 d46_3 (by decide) rfl rfl (fun (b101 : ¬ (1 : Int32) = 0) => ?_) (fun (b101 : (1 : Int32) = 0) => ?_)
  · refine Go.iloadN 29 rfl d46_28 rfl ?_
    refine Go.iconst 30 rfl (1 : Int32) d46_29 rfl ?_
    refine Go.ishl 31 rfl d46_30 ?_
    refine Go.nameI fun v102 hv102 => ?_
    have e1 : v102.toInt = ((2 * jn : Nat) : Int) := own_dbl hj hj9 hv102
    have e2 : (v102 + (1 : Int32)).toInt = ((2 * jn + 1 : Nat) : Int) := own_dbl1 hj9 e1
    refine Go.istoreN 32 rfl d46_31 (Ls' := #[.val (.ref t), .val (.int v102), .val (.int x)]) rfl ?_
    refine Go.aloadN 33 rfl d46_32 rfl rfl ?_
    refine Go.iloadN 34 rfl d46_33 rfl ?_
    refine Go.iinc 37 rfl (1 : Int32) d46_34 rfl rfl (Ls' := #[.val (.ref t), .val (.int (v102 + (1 : Int32))), .val (.int x)]) rfl ?_
    refine Go.iloadN 38 rfl d46_37 rfl ?_
    refine Go.getS 41 rfl (v := .int (0 : Int32)) 246 d46_38 rfl hHi ?_
    refine Go.ishr 42 rfl d46_41 ?_
    refine Go.i2b 43 rfl d46_42 ?_
    refine Go.stB 44 rfl d46_43 hA (2 * jn) e1 (by rw [IL.len]; omega) hgt fun h103 K104 A105 => ?_
    have A106 : Ary Z h103 t .byte ((IL us).set (2 * jn) (.int (lo x))) := A105
    refine Go.aloadN 45 rfl d46_44 rfl rfl ?_
    refine Go.iloadN 46 rfl d46_45 rfl ?_
    refine Go.iloadN 47 rfl d46_46 rfl ?_
    refine Go.getS 50 rfl (v := .int (8 : Int32)) 247 d46_47 rfl hLo ?_
    refine Go.ishr 51 rfl d46_50 ?_
    refine Go.i2b 52 rfl d46_51 ?_
    refine Go.stB 53 rfl d46_52 A106 (2 * jn + 1) e2 (by rw [List.length_set, IL.len]; omega) hgt fun h107 K108 A109 => ?_
    have A110 : Ary Z h107 t .byte (((IL us).set (2 * jn) (.int (lo x))).set (2 * jn + 1) (.int (hi x))) := A109
    exact Go.retV d46_53 rfl (by decide) (by decide) ⟨rfl, (((Keep.refl h0 [t]).trans K104 (by simp)).trans K108 (by simp)), own_il2 A110⟩
  · exact absurd b101 (show ¬ (1 : Int32) = 0 from (by decide))
theorem d50_0 : decode jdk_52_method_5_code 0 = .ok (.getstatic 44, 3) := by decide +kernel
theorem d50_3 : decode jdk_52_method_5_code 3 = .ok (.ifCond .ne 25, 3) := by decide +kernel
theorem d50_28 : decode jdk_52_method_5_code 28 = .ok (.iload_n 1, 1) := by decide +kernel
theorem d50_29 : decode jdk_52_method_5_code 29 = .ok (.iconst 1, 1) := by decide +kernel
theorem d50_30 : decode jdk_52_method_5_code 30 = .ok (.ishl, 1) := by decide +kernel
theorem d50_31 : decode jdk_52_method_5_code 31 = .ok (.istore_n 1, 1) := by decide +kernel
theorem d50_32 : decode jdk_52_method_5_code 32 = .ok (.aload_n 0, 1) := by decide +kernel
theorem d50_33 : decode jdk_52_method_5_code 33 = .ok (.iload_n 1, 1) := by decide +kernel
theorem d50_34 : decode jdk_52_method_5_code 34 = .ok (.iinc 1 1, 3) := by decide +kernel
theorem d50_37 : decode jdk_52_method_5_code 37 = .ok (.baload, 1) := by decide +kernel
theorem d50_38 : decode jdk_52_method_5_code 38 = .ok (.sipush 255, 3) := by decide +kernel
theorem d50_41 : decode jdk_52_method_5_code 41 = .ok (.iand, 1) := by decide +kernel
theorem d50_42 : decode jdk_52_method_5_code 42 = .ok (.getstatic 59, 3) := by decide +kernel
theorem d50_45 : decode jdk_52_method_5_code 45 = .ok (.ishl, 1) := by decide +kernel
theorem d50_46 : decode jdk_52_method_5_code 46 = .ok (.aload_n 0, 1) := by decide +kernel
theorem d50_47 : decode jdk_52_method_5_code 47 = .ok (.iload_n 1, 1) := by decide +kernel
theorem d50_48 : decode jdk_52_method_5_code 48 = .ok (.baload, 1) := by decide +kernel
theorem d50_49 : decode jdk_52_method_5_code 49 = .ok (.sipush 255, 3) := by decide +kernel
theorem d50_52 : decode jdk_52_method_5_code 52 = .ok (.iand, 1) := by decide +kernel
theorem d50_53 : decode jdk_52_method_5_code 53 = .ok (.getstatic 63, 3) := by decide +kernel
theorem d50_56 : decode jdk_52_method_5_code 56 = .ok (.ishl, 1) := by decide +kernel
theorem d50_57 : decode jdk_52_method_5_code 57 = .ok (.ior, 1) := by decide +kernel
theorem d50_58 : decode jdk_52_method_5_code 58 = .ok (.i2c, 1) := by decide +kernel
theorem d50_59 : decode jdk_52_method_5_code 59 = .ok (.ireturn, 1) := by decide +kernel
theorem pd50 : parseMethodDescriptor "([BI)C" = some ⟨[(.array .byte), .int], some .char⟩ := by decide +kernel
theorem pn50 : plainFor (⟨"java/lang/StringUTF16", "getChar", "([BI)C"⟩ : MethodName) = true := by first | (refine plainFor_of_name ?_; simp [plainName, overriddenIn]; done) | (refine plainFor_of_name ?_; decide +kernel) | decide +kernel
abbrev B50 : Bd := ((⟨"java/lang/StringUTF16", "getChar", "([BI)C"⟩ : MethodName), jdk_52_method_5_code, 2, (some .char), ({ frames := 0, cells := 0, slots := 0, locals := 0 } : Room), tables_1)
def Q50 (us : List Int32) (jn : Nat) (h0 : Heap) (v : Option Value) (h : Heap) : Prop := v = some (.int (gc (us.getD (2 * jn) 0) (us.getD (2 * jn + 1) 0))) ∧ h0 = h
theorem c50 (Z : State) (hw : Wd Z tables_1) (h0 : Heap) (t : Addr) (j : Int32) (us : List Int32) (jn : Nat) (hj : j.toInt = jn) (hj9 : jn < 9) (hAs : YAs Z) (hHi : YHi Z) (hLo : YLo Z) (hlt : 2 * jn + 1 < us.length) (hA : Ary Z h0 t .byte (IL us)) : Con Z B50 (List.toArray [.ref t, .int j]) h0 (Q50 us jn h0) := by
  refine Con.mk (Ls := #[.val (.ref t), .val (.int j)]) hw pn50 (fun mid => by first | (simp [entryFrame, mkF, argsToLocals, Value.category, Jvm.Ow.Bd.ml, B50]; done) | rfl) (Go.old fun hle' => ?_)
  have hle := hle'.1
  refine Go.getS 3 rfl (v := .int (1 : Int32)) 245 d50_0 rfl hAs ?_
  refine Go.if_ne 28 6 d50_3 (by decide) rfl rfl (fun (b101 : ¬ (1 : Int32) = 0) => ?_) (fun (b101 : (1 : Int32) = 0) => ?_)
  · refine Go.iloadN 29 rfl d50_28 rfl ?_
    refine Go.iconst 30 rfl (1 : Int32) d50_29 rfl ?_
    refine Go.ishl 31 rfl d50_30 ?_
    refine Go.nameI fun v102 hv102 => ?_
    have e1 : v102.toInt = ((2 * jn : Nat) : Int) := own_dbl hj hj9 hv102
    have e2 : (v102 + (1 : Int32)).toInt = ((2 * jn + 1 : Nat) : Int) := own_dbl1 hj9 e1
    refine Go.istoreN 32 rfl d50_31 (Ls' := #[.val (.ref t), .val (.int v102)]) rfl ?_
    refine Go.aloadN 33 rfl d50_32 rfl rfl ?_
    refine Go.iloadN 34 rfl d50_33 rfl ?_
    refine Go.iinc 37 rfl (1 : Int32) d50_34 rfl rfl (Ls' := #[.val (.ref t), .val (.int (v102 + (1 : Int32)))]) rfl ?_
    refine Go.baload 38 rfl (us.getD (2 * jn) 0) d50_37 hA (2 * jn) e1 (IL.get (by omega)) ?_
    refine Go.sipush 41 rfl (255 : Int32) d50_38 rfl ?_
    refine Go.iand 42 rfl d50_41 ?_
    refine Go.getS 45 rfl (v := .int (0 : Int32)) 246 d50_42 rfl hHi ?_
    refine Go.ishl 46 rfl d50_45 ?_
    refine Go.aloadN 47 rfl d50_46 rfl rfl ?_
    refine Go.iloadN 48 rfl d50_47 rfl ?_
    refine Go.baload 49 rfl (us.getD (2 * jn + 1) 0) d50_48 hA (2 * jn + 1) e2 (IL.get hlt) ?_
    refine Go.sipush 52 rfl (255 : Int32) d50_49 rfl ?_
    refine Go.iand 53 rfl d50_52 ?_
    refine Go.getS 56 rfl (v := .int (8 : Int32)) 247 d50_53 rfl hLo ?_
    refine Go.ishl 57 rfl d50_56 ?_
    refine Go.ior 58 rfl d50_57 ?_
    refine Go.i2c 59 rfl d50_58 ?_
    exact Go.retN (t := .char) (z' := (gc (us.getD (2 * jn) 0) (us.getD (2 * jn + 1) 0))) d50_59 rfl (by decide) rfl (by decide) (by decide) ⟨rfl, rfl⟩
  · exact absurd b101 (show ¬ (1 : Int32) = 0 from (by decide))
theorem d38_0 : decode jdk_52_method_3_code 0 = .ok (.iload_n 0, 1) := by decide +kernel
theorem d38_1 : decode jdk_52_method_3_code 1 = .ok (.ifCond .ge 11, 3) := by decide +kernel
theorem d38_12 : decode jdk_52_method_3_code 12 = .ok (.iload_n 0, 1) := by decide +kernel
theorem d38_13 : decode jdk_52_method_3_code 13 = .ok (.ldc 20, 2) := by decide +kernel
theorem d38_15 : decode jdk_52_method_3_code 15 = .ok (.if_icmp .lt 40, 3) := by decide +kernel
theorem d38_55 : decode jdk_52_method_3_code 55 = .ok (.iload_n 0, 1) := by decide +kernel
theorem d38_56 : decode jdk_52_method_3_code 56 = .ok (.iconst 1, 1) := by decide +kernel
theorem d38_57 : decode jdk_52_method_3_code 57 = .ok (.ishl, 1) := by decide +kernel
theorem d38_58 : decode jdk_52_method_3_code 58 = .ok (.ireturn, 1) := by decide +kernel
theorem pd38 : parseMethodDescriptor "(I)I" = some ⟨[.int], some .int⟩ := by decide +kernel
theorem pn38 : plainFor (⟨"java/lang/StringUTF16", "newBytesLength", "(I)I"⟩ : MethodName) = true := by first | (refine plainFor_of_name ?_; simp [plainName, overriddenIn]; done) | (refine plainFor_of_name ?_; decide +kernel) | decide +kernel
abbrev B38 : Bd := ((⟨"java/lang/StringUTF16", "newBytesLength", "(I)I"⟩ : MethodName), jdk_52_method_3_code, 1, (some .int), ({ frames := 0, cells := 0, slots := 0, locals := 0 } : Room), tables_1)
def Q38n16 (h0 : Heap) (v : Option Value) (h : Heap) : Prop := v = some (.int (32 : Int32)) ∧ h0 = h
theorem c38n16 (Z : State) (hw : Wd Z tables_1) (h0 : Heap)    : Con Z B38 (List.toArray [.int (16 : Int32)]) h0 (Q38n16 h0) := by
  refine Con.mk (Ls := #[.val (.int (16 : Int32))]) hw pn38 (fun mid => by first | (simp [entryFrame, mkF, argsToLocals, Value.category, Jvm.Ow.Bd.ml, B38]; done) | rfl) (Go.old fun hle' => ?_)
  have hle := hle'.1
  refine Go.iloadN 1 rfl d38_0 rfl ?_
  refine Go.if_ge 12 4 d38_1 (by decide) rfl rfl (fun (b101 : ¬ (16 : Int32) < 0) => ?_) (fun (b101 : (16 : Int32) < 0) => ?_)
  · refine Go.iloadN 13 rfl d38_12 rfl ?_
    refine Go.ldcI 15 rfl (v := (1073741823 : Int32)) 219 d38_13 rfl ?_
    refine Go.icmp_lt 55 18 d38_15 (by decide) rfl rfl (fun (b102 : (16 : Int32) < (1073741823 : Int32)) => ?_) (fun (b102 : ¬ (16 : Int32) < (1073741823 : Int32)) => ?_)
    · refine Go.iloadN 56 rfl d38_55 rfl ?_
      refine Go.iconst 57 rfl (1 : Int32) d38_56 rfl ?_
      refine Go.ishl 58 rfl d38_57 ?_
      refine Go.eqI (w := (32 : Int32)) (by decide) ?_
      exact Go.retI d38_58 rfl (by decide) (by decide) ⟨rfl, rfl⟩
    · exact absurd (show (16 : Int32) < (1073741823 : Int32) from (by decide)) b102
  · exact absurd b101 (show ¬ (16 : Int32) < 0 from (by decide))
theorem d37_0 : decode jdk_52_method_2_code 0 = .ok (.iload_n 0, 1) := by decide +kernel
theorem d37_1 : decode jdk_52_method_2_code 1 = .ok (.invokestatic 11, 3) := by decide +kernel
theorem d37_4 : decode jdk_52_method_2_code 4 = .ok (.newarray .byte, 2) := by decide +kernel
theorem d37_6 : decode jdk_52_method_2_code 6 = .ok (.areturn, 1) := by decide +kernel
theorem pd37 : parseMethodDescriptor "(I)[B" = some ⟨[.int], some (.array .byte)⟩ := by decide +kernel
theorem pn37 : plainFor (⟨"java/lang/StringUTF16", "newBytesFor", "(I)[B"⟩ : MethodName) = true := by first | (refine plainFor_of_name ?_; simp [plainName, overriddenIn]; done) | (refine plainFor_of_name ?_; decide +kernel) | decide +kernel
abbrev B37 : Bd := ((⟨"java/lang/StringUTF16", "newBytesFor", "(I)[B"⟩ : MethodName), jdk_52_method_2_code, 1, (some (.array .byte)), ({ frames := 1, cells := 1, slots := 32, locals := 12 } : Room), tables_1)
def Q37n16 (Z : State) (h0 : Heap) (v : Option Value) (h : Heap) : Prop := ∃ t, v = some (.ref t) ∧ h0.size ≤ t ∧ Keep h0 h [] ∧ Ary Z h t .byte (IL (zer 32))
theorem c37n16 (Z : State) (hw : Wd Z tables_1) (h0 : Heap)    : Con Z B37 (List.toArray [.int (16 : Int32)]) h0 (Q37n16 Z h0) := by
  refine Con.mk (Ls := #[.val (.int (16 : Int32))]) hw pn37 (fun mid => by first | (simp [entryFrame, mkF, argsToLocals, Value.category, Jvm.Ow.Bd.ml, B37]; done) | rfl) (Go.old fun hle' => ?_)
  have hle := hle'.1
  refine Go.iloadN 1 rfl d37_0 rfl ?_
  refine Go.callS 4 rfl (C := B38) [.int (16 : Int32)] (rest := []) 216 217 214 218 (c38n16 Z hw h0) d37_1 rfl rfl rfl rfl (by decide) pd38 rfl rfl rfl (W := 0) (lb rfl) (by decide) (by decide) (by decide) (by decide) fun v101 h102 q103 => ?_
  obtain ⟨rfl, rfl⟩ := q103
  refine Go.newA 6 rfl 4 32 32 d37_4 rfl rfl (by decide) (by decide) (by decide) (by decide) fun h105 a104 g106 z107 K108 A109 E110 => ?_
  have A111 : Ary Z h105 a104 .byte [.int 0, .int 0, .int 0, .int 0, .int 0, .int 0, .int 0, .int 0, .int 0, .int 0, .int 0, .int 0, .int 0, .int 0, .int 0, .int 0, .int 0, .int 0, .int 0, .int 0, .int 0, .int 0, .int 0, .int 0, .int 0, .int 0, .int 0, .int 0, .int 0, .int 0, .int 0, .int 0] := A109
  exact Go.retA d37_6 rfl rfl rfl (by decide) (by decide) ⟨a104, rfl, Nat.le_of_eq g106.symm, ((Keep.refl h0 []).trans K108 all0), A111⟩
def Q38n2 (h0 : Heap) (v : Option Value) (h : Heap) : Prop := v = some (.int (4 : Int32)) ∧ h0 = h
theorem c38n2 (Z : State) (hw : Wd Z tables_1) (h0 : Heap)    : Con Z B38 (List.toArray [.int (2 : Int32)]) h0 (Q38n2 h0) := by
  refine Con.mk (Ls := #[.val (.int (2 : Int32))]) hw pn38 (fun mid => by first | (simp [entryFrame, mkF, argsToLocals, Value.category, Jvm.Ow.Bd.ml, B38]; done) | rfl) (Go.old fun hle' => ?_)
  have hle := hle'.1
  refine Go.iloadN 1 rfl d38_0 rfl ?_
  refine Go.if_ge 12 4 d38_1 (by decide) rfl rfl (fun (b101 : ¬ (2 : Int32) < 0) => ?_) (fun (b101 : (2 : Int32) < 0) => ?_)
  · refine Go.iloadN 13 rfl d38_12 rfl ?_
    refine Go.ldcI 15 rfl (v := (1073741823 : Int32)) 219 d38_13 rfl ?_
    refine Go.icmp_lt 55 18 d38_15 (by decide) rfl rfl (fun (b102 : (2 : Int32) < (1073741823 : Int32)) => ?_) (fun (b102 : ¬ (2 : Int32) < (1073741823 : Int32)) => ?_)
    · refine Go.iloadN 56 rfl d38_55 rfl ?_
      refine Go.iconst 57 rfl (1 : Int32) d38_56 rfl ?_
      refine Go.ishl 58 rfl d38_57 ?_
      refine Go.eqI (w := (4 : Int32)) (by decide) ?_
      exact Go.retI d38_58 rfl (by decide) (by decide) ⟨rfl, rfl⟩
    · exact absurd (show (2 : Int32) < (1073741823 : Int32) from (by decide)) b102
  · exact absurd b101 (show ¬ (2 : Int32) < 0 from (by decide))
def Q37n2 (Z : State) (h0 : Heap) (v : Option Value) (h : Heap) : Prop := ∃ t, v = some (.ref t) ∧ h0.size ≤ t ∧ Keep h0 h [] ∧ Ary Z h t .byte (IL (zer 4))
theorem c37n2 (Z : State) (hw : Wd Z tables_1) (h0 : Heap)    : Con Z B37 (List.toArray [.int (2 : Int32)]) h0 (Q37n2 Z h0) := by
  refine Con.mk (Ls := #[.val (.int (2 : Int32))]) hw pn37 (fun mid => by first | (simp [entryFrame, mkF, argsToLocals, Value.category, Jvm.Ow.Bd.ml, B37]; done) | rfl) (Go.old fun hle' => ?_)
  have hle := hle'.1
  refine Go.iloadN 1 rfl d37_0 rfl ?_
  refine Go.callS 4 rfl (C := B38) [.int (2 : Int32)] (rest := []) 216 217 214 218 (c38n2 Z hw h0) d37_1 rfl rfl rfl rfl (by decide) pd38 rfl rfl rfl (W := 0) (lb rfl) (by decide) (by decide) (by decide) (by decide) fun v101 h102 q103 => ?_
  obtain ⟨rfl, rfl⟩ := q103
  refine Go.newA 6 rfl 4 4 4 d37_4 rfl rfl (by decide) (by decide) (by decide) (by decide) fun h105 a104 g106 z107 K108 A109 E110 => ?_
  have A111 : Ary Z h105 a104 .byte [.int 0, .int 0, .int 0, .int 0] := A109
  exact Go.retA d37_6 rfl rfl rfl (by decide) (by decide) ⟨a104, rfl, Nat.le_of_eq g106.symm, ((Keep.refl h0 []).trans K108 all0), A111⟩
def Q38n1 (h0 : Heap) (v : Option Value) (h : Heap) : Prop := v = some (.int (2 : Int32)) ∧ h0 = h
theorem c38n1 (Z : State) (hw : Wd Z tables_1) (h0 : Heap)    : Con Z B38 (List.toArray [.int (1 : Int32)]) h0 (Q38n1 h0) := by
  refine Con.mk (Ls := #[.val (.int (1 : Int32))]) hw pn38 (fun mid => by first | (simp [entryFrame, mkF, argsToLocals, Value.category, Jvm.Ow.Bd.ml, B38]; done) | rfl) (Go.old fun hle' => ?_)
  have hle := hle'.1
  refine Go.iloadN 1 rfl d38_0 rfl ?_
  refine Go.if_ge 12 4 d38_1 (by decide) rfl rfl (fun (b101 : ¬ (1 : Int32) < 0) => ?_) (fun (b101 : (1 : Int32) < 0) => ?_)
  · refine Go.iloadN 13 rfl d38_12 rfl ?_
    refine Go.ldcI 15 rfl (v := (1073741823 : Int32)) 219 d38_13 rfl ?_
    refine Go.icmp_lt 55 18 d38_15 (by decide) rfl rfl (fun (b102 : (1 : Int32) < (1073741823 : Int32)) => ?_) (fun (b102 : ¬ (1 : Int32) < (1073741823 : Int32)) => ?_)
    · refine Go.iloadN 56 rfl d38_55 rfl ?_
      refine Go.iconst 57 rfl (1 : Int32) d38_56 rfl ?_
      refine Go.ishl 58 rfl d38_57 ?_
      refine Go.eqI (w := (2 : Int32)) (by decide) ?_
      exact Go.retI d38_58 rfl (by decide) (by decide) ⟨rfl, rfl⟩
    · exact absurd (show (1 : Int32) < (1073741823 : Int32) from (by decide)) b102
  · exact absurd b101 (show ¬ (1 : Int32) < 0 from (by decide))
def Q37n1 (Z : State) (h0 : Heap) (v : Option Value) (h : Heap) : Prop := ∃ t, v = some (.ref t) ∧ h0.size ≤ t ∧ Keep h0 h [] ∧ Ary Z h t .byte (IL (zer 2))
theorem c37n1 (Z : State) (hw : Wd Z tables_1) (h0 : Heap)    : Con Z B37 (List.toArray [.int (1 : Int32)]) h0 (Q37n1 Z h0) := by
  refine Con.mk (Ls := #[.val (.int (1 : Int32))]) hw pn37 (fun mid => by first | (simp [entryFrame, mkF, argsToLocals, Value.category, Jvm.Ow.Bd.ml, B37]; done) | rfl) (Go.old fun hle' => ?_)
  have hle := hle'.1
  refine Go.iloadN 1 rfl d37_0 rfl ?_
  refine Go.callS 4 rfl (C := B38) [.int (1 : Int32)] (rest := []) 216 217 214 218 (c38n1 Z hw h0) d37_1 rfl rfl rfl rfl (by decide) pd38 rfl rfl rfl (W := 0) (lb rfl) (by decide) (by decide) (by decide) (by decide) fun v101 h102 q103 => ?_
  obtain ⟨rfl, rfl⟩ := q103
  refine Go.newA 6 rfl 4 2 2 d37_4 rfl rfl (by decide) (by decide) (by decide) (by decide) fun h105 a104 g106 z107 K108 A109 E110 => ?_
  have A111 : Ary Z h105 a104 .byte [.int 0, .int 0] := A109
  exact Go.retA d37_6 rfl rfl rfl (by decide) (by decide) ⟨a104, rfl, Nat.le_of_eq g106.symm, ((Keep.refl h0 []).trans K108 all0), A111⟩
theorem d52_0 : decode jdk_42_method_29_code 0 = .ok (.iload_n 0, 1) := by decide +kernel
theorem d52_1 : decode jdk_42_method_29_code 1 = .ok (.sipush 192, 3) := by decide +kernel
theorem d52_4 : decode jdk_42_method_29_code 4 = .ok (.iand, 1) := by decide +kernel
theorem d52_5 : decode jdk_42_method_29_code 5 = .ok (.sipush 128, 3) := by decide +kernel
theorem d52_8 : decode jdk_42_method_29_code 8 = .ok (.if_icmp .eq 7, 3) := by decide +kernel
theorem d52_11 : decode jdk_42_method_29_code 11 = .ok (.iconst 1, 1) := by decide +kernel
theorem d52_12 : decode jdk_42_method_29_code 12 = .ok (.goto 4, 3) := by decide +kernel
theorem d52_16 : decode jdk_42_method_29_code 16 = .ok (.ireturn, 1) := by decide +kernel
theorem pd52 : parseMethodDescriptor "(I)Z" = some ⟨[.int], some .boolean⟩ := by decide +kernel
theorem pn52 : plainFor (⟨"java/lang/String", "isNotContinuation", "(I)Z"⟩ : MethodName) = true := by first | (refine plainFor_of_name ?_; simp [plainName, overriddenIn]; done) | (refine plainFor_of_name ?_; decide +kernel) | decide +kernel
abbrev B52 : Bd := ((⟨"java/lang/String", "isNotContinuation", "(I)Z"⟩ : MethodName), jdk_42_method_29_code, 1, (some .boolean), ({ frames := 0, cells := 0, slots := 0, locals := 0 } : Room), tables_1)
def Q52 (h0 : Heap) (v : Option Value) (h : Heap) : Prop := v = some (.int 1) ∧ h0 = h
theorem c52 (Z : State) (hw : Wd Z tables_1) (h0 : Heap) (p : Int32)  (h1 : ¬ (p &&& (192 : Int32)) = (128 : Int32)) : Con Z B52 (List.toArray [.int p]) h0 (Q52 h0) := by
  refine Con.mk (Ls := #[.val (.int p)]) hw pn52 (fun mid => by first | (simp [entryFrame, mkF, argsToLocals, Value.category, Jvm.Ow.Bd.ml, B52]; done) | rfl) (Go.old fun hle' => ?_)
  have hle := hle'.1
  refine Go.iloadN 1 rfl d52_0 rfl ?_
  refine Go.sipush 4 rfl (192 : Int32) d52_1 rfl ?_
  refine Go.iand 5 rfl d52_4 ?_
  refine Go.sipush 8 rfl (128 : Int32) d52_5 rfl ?_
  refine Go.icmp_eq 15 11 d52_8 (by decide) rfl rfl (fun (b101 : (p &&& (192 : Int32)) = (128 : Int32)) => ?_) (fun (b101 : ¬ (p &&& (192 : Int32)) = (128 : Int32)) => ?_)
  · exact absurd b101 (show ¬ (p &&& (192 : Int32)) = (128 : Int32) from h1)
  · refine Go.iconst 12 rfl (1 : Int32) d52_11 rfl ?_
    refine Go.goto 16 d52_12 (by decide) (by decide) ?_
    exact Go.retN (t := .boolean) (z' := 1) d52_16 rfl (by decide) (by decide) (by decide) (by decide) ⟨rfl, rfl⟩
theorem d51_0 : decode jdk_42_method_31_code 0 = .ok (.iload_n 0, 1) := by decide +kernel
theorem d51_1 : decode jdk_42_method_31_code 1 = .ok (.bipush (-32), 2) := by decide +kernel
theorem d51_3 : decode jdk_42_method_31_code 3 = .ok (.if_icmp .ne 14, 3) := by decide +kernel
theorem d51_6 : decode jdk_42_method_31_code 6 = .ok (.iload_n 1, 1) := by decide +kernel
theorem d51_7 : decode jdk_42_method_31_code 7 = .ok (.sipush 224, 3) := by decide +kernel
theorem d51_10 : decode jdk_42_method_31_code 10 = .ok (.iand, 1) := by decide +kernel
theorem d51_11 : decode jdk_42_method_31_code 11 = .ok (.sipush 128, 3) := by decide +kernel
theorem d51_14 : decode jdk_42_method_31_code 14 = .ok (.if_icmp .eq 14, 3) := by decide +kernel
theorem d51_17 : decode jdk_42_method_31_code 17 = .ok (.iload_n 1, 1) := by decide +kernel
theorem d51_18 : decode jdk_42_method_31_code 18 = .ok (.sipush 192, 3) := by decide +kernel
theorem d51_21 : decode jdk_42_method_31_code 21 = .ok (.iand, 1) := by decide +kernel
theorem d51_22 : decode jdk_42_method_31_code 22 = .ok (.sipush 128, 3) := by decide +kernel
theorem d51_25 : decode jdk_42_method_31_code 25 = .ok (.if_icmp .eq 7, 3) := by decide +kernel
theorem d51_28 : decode jdk_42_method_31_code 28 = .ok (.iconst 1, 1) := by decide +kernel
theorem d51_29 : decode jdk_42_method_31_code 29 = .ok (.goto 4, 3) := by decide +kernel
theorem d51_33 : decode jdk_42_method_31_code 33 = .ok (.ireturn, 1) := by decide +kernel
theorem pd51 : parseMethodDescriptor "(II)Z" = some ⟨[.int, .int], some .boolean⟩ := by decide +kernel
theorem pn51 : plainFor (⟨"java/lang/String", "isMalformed3_2", "(II)Z"⟩ : MethodName) = true := by first | (refine plainFor_of_name ?_; simp [plainName, overriddenIn]; done) | (refine plainFor_of_name ?_; decide +kernel) | decide +kernel
abbrev B51 : Bd := ((⟨"java/lang/String", "isMalformed3_2", "(II)Z"⟩ : MethodName), jdk_42_method_31_code, 2, (some .boolean), ({ frames := 0, cells := 0, slots := 0, locals := 0 } : Room), tables_1)
def Q51 (h0 : Heap) (v : Option Value) (h : Heap) : Prop := v = some (.int 1) ∧ h0 = h
theorem c51 (Z : State) (hw : Wd Z tables_1) (h0 : Heap) (p : Int32) (q : Int32)  (h1 : ¬ (q &&& (192 : Int32)) = (128 : Int32)) : Con Z B51 (List.toArray [.int p, .int q]) h0 (Q51 h0) := by
  refine Con.mk (Ls := #[.val (.int p), .val (.int q)]) hw pn51 (fun mid => by first | (simp [entryFrame, mkF, argsToLocals, Value.category, Jvm.Ow.Bd.ml, B51]; done) | rfl) (Go.old fun hle' => ?_)
  have hle := hle'.1
  refine Go.iloadN 1 rfl d51_0 rfl ?_
  refine Go.bipush 3 rfl (-32 : Int32) d51_1 rfl ?_
  refine Go.icmp_ne 17 6 d51_3 (by decide) rfl rfl (fun (b101 : ¬ p = (-32 : Int32)) => ?_) (fun (b101 : p = (-32 : Int32)) => ?_)
  · refine Go.iloadN 18 rfl d51_17 rfl ?_
    refine Go.sipush 21 rfl (192 : Int32) d51_18 rfl ?_
    refine Go.iand 22 rfl d51_21 ?_
    refine Go.sipush 25 rfl (128 : Int32) d51_22 rfl ?_
    refine Go.icmp_eq 32 28 d51_25 (by decide) rfl rfl (fun (b103 : (q &&& (192 : Int32)) = (128 : Int32)) => ?_) (fun (b103 : ¬ (q &&& (192 : Int32)) = (128 : Int32)) => ?_)
    · exact absurd b103 (show ¬ (q &&& (192 : Int32)) = (128 : Int32) from h1)
    · refine Go.iconst 29 rfl (1 : Int32) d51_28 rfl ?_
      refine Go.goto 33 d51_29 (by decide) (by decide) ?_
      exact Go.retN (t := .boolean) (z' := 1) d51_33 rfl (by decide) (by decide) (by decide) (by decide) ⟨rfl, rfl⟩
  · refine Go.iloadN 7 rfl d51_6 rfl ?_
    refine Go.sipush 10 rfl (224 : Int32) d51_7 rfl ?_
    refine Go.iand 11 rfl d51_10 ?_
    refine Go.sipush 14 rfl (128 : Int32) d51_11 rfl ?_
    refine Go.icmp_eq 28 17 d51_14 (by decide) rfl rfl (fun (b102 : (q &&& (224 : Int32)) = (128 : Int32)) => ?_) (fun (b102 : ¬ (q &&& (224 : Int32)) = (128 : Int32)) => ?_)
    · refine Go.iconst 29 rfl (1 : Int32) d51_28 rfl ?_
      refine Go.goto 33 d51_29 (by decide) (by decide) ?_
      exact Go.retN (t := .boolean) (z' := 1) d51_33 rfl (by decide) (by decide) (by decide) (by decide) ⟨rfl, rfl⟩
    · refine Go.iloadN 18 rfl d51_17 rfl ?_
      refine Go.sipush 21 rfl (192 : Int32) d51_18 rfl ?_
      refine Go.iand 22 rfl d51_21 ?_
      refine Go.sipush 25 rfl (128 : Int32) d51_22 rfl ?_
      refine Go.icmp_eq 32 28 d51_25 (by decide) rfl rfl (fun (b104 : (q &&& (192 : Int32)) = (128 : Int32)) => ?_) (fun (b104 : ¬ (q &&& (192 : Int32)) = (128 : Int32)) => ?_)
      · exact absurd b104 (show ¬ (q &&& (192 : Int32)) = (128 : Int32) from h1)
      · refine Go.iconst 29 rfl (1 : Int32) d51_28 rfl ?_
        refine Go.goto 33 d51_29 (by decide) (by decide) ?_
        exact Go.retN (t := .boolean) (z' := 1) d51_33 rfl (by decide) (by decide) (by decide) (by decide) ⟨rfl, rfl⟩
theorem d53_0 : decode jdk_42_method_33_code 0 = .ok (.iload_n 0, 1) := by decide +kernel
theorem d53_1 : decode jdk_42_method_33_code 1 = .ok (.sipush 240, 3) := by decide +kernel
theorem d53_4 : decode jdk_42_method_33_code 4 = .ok (.if_icmp .ne 17, 3) := by decide +kernel
theorem d53_7 : decode jdk_42_method_33_code 7 = .ok (.iload_n 1, 1) := by decide +kernel
theorem d53_8 : decode jdk_42_method_33_code 8 = .ok (.sipush 144, 3) := by decide +kernel
theorem d53_11 : decode jdk_42_method_33_code 11 = .ok (.if_icmp .lt 39, 3) := by decide +kernel
theorem d53_14 : decode jdk_42_method_33_code 14 = .ok (.iload_n 1, 1) := by decide +kernel
theorem d53_15 : decode jdk_42_method_33_code 15 = .ok (.sipush 191, 3) := by decide +kernel
theorem d53_18 : decode jdk_42_method_33_code 18 = .ok (.if_icmp .gt 32, 3) := by decide +kernel
theorem d53_21 : decode jdk_42_method_33_code 21 = .ok (.iload_n 0, 1) := by decide +kernel
theorem d53_22 : decode jdk_42_method_33_code 22 = .ok (.sipush 244, 3) := by decide +kernel
theorem d53_25 : decode jdk_42_method_33_code 25 = .ok (.if_icmp .ne 14, 3) := by decide +kernel
theorem d53_28 : decode jdk_42_method_33_code 28 = .ok (.iload_n 1, 1) := by decide +kernel
theorem d53_29 : decode jdk_42_method_33_code 29 = .ok (.sipush 240, 3) := by decide +kernel
theorem d53_32 : decode jdk_42_method_33_code 32 = .ok (.iand, 1) := by decide +kernel
theorem d53_33 : decode jdk_42_method_33_code 33 = .ok (.sipush 128, 3) := by decide +kernel
theorem d53_36 : decode jdk_42_method_33_code 36 = .ok (.if_icmp .ne 14, 3) := by decide +kernel
theorem d53_39 : decode jdk_42_method_33_code 39 = .ok (.iload_n 1, 1) := by decide +kernel
theorem d53_40 : decode jdk_42_method_33_code 40 = .ok (.sipush 192, 3) := by decide +kernel
theorem d53_43 : decode jdk_42_method_33_code 43 = .ok (.iand, 1) := by decide +kernel
theorem d53_44 : decode jdk_42_method_33_code 44 = .ok (.sipush 128, 3) := by decide +kernel
theorem d53_47 : decode jdk_42_method_33_code 47 = .ok (.if_icmp .eq 7, 3) := by decide +kernel
theorem d53_50 : decode jdk_42_method_33_code 50 = .ok (.iconst 1, 1) := by decide +kernel
theorem d53_51 : decode jdk_42_method_33_code 51 = .ok (.goto 4, 3) := by decide +kernel
theorem d53_55 : decode jdk_42_method_33_code 55 = .ok (.ireturn, 1) := by decide +kernel
theorem pd53 : parseMethodDescriptor "(II)Z" = some ⟨[.int, .int], some .boolean⟩ := by decide +kernel
theorem pn53 : plainFor (⟨"java/lang/String", "isMalformed4_2", "(II)Z"⟩ : MethodName) = true := by first | (refine plainFor_of_name ?_; simp [plainName, overriddenIn]; done) | (refine plainFor_of_name ?_; decide +kernel) | decide +kernel
abbrev B53 : Bd := ((⟨"java/lang/String", "isMalformed4_2", "(II)Z"⟩ : MethodName), jdk_42_method_33_code, 2, (some .boolean), ({ frames := 0, cells := 0, slots := 0, locals := 0 } : Room), tables_1)
def Q53 (h0 : Heap) (v : Option Value) (h : Heap) : Prop := v = some (.int 1) ∧ h0 = h
theorem c53 (Z : State) (hw : Wd Z tables_1) (h0 : Heap) (p : Int32) (q : Int32)  (h1 : ¬ (q &&& (192 : Int32)) = (128 : Int32)) : Con Z B53 (List.toArray [.int p, .int q]) h0 (Q53 h0) := by
  refine Con.mk (Ls := #[.val (.int p), .val (.int q)]) hw pn53 (fun mid => by first | (simp [entryFrame, mkF, argsToLocals, Value.category, Jvm.Ow.Bd.ml, B53]; done) | rfl) (Go.old fun hle' => ?_)
  have hle := hle'.1
  refine Go.iloadN 1 rfl d53_0 rfl ?_
  refine Go.sipush 4 rfl (240 : Int32) d53_1 rfl ?_
  refine Go.icmp_ne 21 7 d53_4 (by decide) rfl rfl (fun (b101 : ¬ p = (240 : Int32)) => ?_) (fun (b101 : p = (240 : Int32)) => ?_)
  · refine Go.iloadN 22 rfl d53_21 rfl ?_
    refine Go.sipush 25 rfl (244 : Int32) d53_22 rfl ?_
    refine Go.icmp_ne 39 28 d53_25 (by decide) rfl rfl (fun (b104 : ¬ p = (244 : Int32)) => ?_) (fun (b104 : p = (244 : Int32)) => ?_)
    · refine Go.iloadN 40 rfl d53_39 rfl ?_
      refine Go.sipush 43 rfl (192 : Int32) d53_40 rfl ?_
      refine Go.iand 44 rfl d53_43 ?_
      refine Go.sipush 47 rfl (128 : Int32) d53_44 rfl ?_
      refine Go.icmp_eq 54 50 d53_47 (by decide) rfl rfl (fun (b106 : (q &&& (192 : Int32)) = (128 : Int32)) => ?_) (fun (b106 : ¬ (q &&& (192 : Int32)) = (128 : Int32)) => ?_)
      · exact absurd b106 (show ¬ (q &&& (192 : Int32)) = (128 : Int32) from h1)
      · refine Go.iconst 51 rfl (1 : Int32) d53_50 rfl ?_
        refine Go.goto 55 d53_51 (by decide) (by decide) ?_
        exact Go.retN (t := .boolean) (z' := 1) d53_55 rfl (by decide) (by decide) (by decide) (by decide) ⟨rfl, rfl⟩
    · refine Go.iloadN 29 rfl d53_28 rfl ?_
      refine Go.sipush 32 rfl (240 : Int32) d53_29 rfl ?_
      refine Go.iand 33 rfl d53_32 ?_
      refine Go.sipush 36 rfl (128 : Int32) d53_33 rfl ?_
      refine Go.icmp_ne 50 39 d53_36 (by decide) rfl rfl (fun (b105 : ¬ (q &&& (240 : Int32)) = (128 : Int32)) => ?_) (fun (b105 : (q &&& (240 : Int32)) = (128 : Int32)) => ?_)
      · refine Go.iconst 51 rfl (1 : Int32) d53_50 rfl ?_
        refine Go.goto 55 d53_51 (by decide) (by decide) ?_
        exact Go.retN (t := .boolean) (z' := 1) d53_55 rfl (by decide) (by decide) (by decide) (by decide) ⟨rfl, rfl⟩
      · refine Go.iloadN 40 rfl d53_39 rfl ?_
        refine Go.sipush 43 rfl (192 : Int32) d53_40 rfl ?_
        refine Go.iand 44 rfl d53_43 ?_
        refine Go.sipush 47 rfl (128 : Int32) d53_44 rfl ?_
        refine Go.icmp_eq 54 50 d53_47 (by decide) rfl rfl (fun (b107 : (q &&& (192 : Int32)) = (128 : Int32)) => ?_) (fun (b107 : ¬ (q &&& (192 : Int32)) = (128 : Int32)) => ?_)
        · exact absurd b107 (show ¬ (q &&& (192 : Int32)) = (128 : Int32) from h1)
        · refine Go.iconst 51 rfl (1 : Int32) d53_50 rfl ?_
          refine Go.goto 55 d53_51 (by decide) (by decide) ?_
          exact Go.retN (t := .boolean) (z' := 1) d53_55 rfl (by decide) (by decide) (by decide) (by decide) ⟨rfl, rfl⟩
  · refine Go.iloadN 8 rfl d53_7 rfl ?_
    refine Go.sipush 11 rfl (144 : Int32) d53_8 rfl ?_
    refine Go.icmp_lt 50 14 d53_11 (by decide) rfl rfl (fun (b102 : q < (144 : Int32)) => ?_) (fun (b102 : ¬ q < (144 : Int32)) => ?_)
    · refine Go.iconst 51 rfl (1 : Int32) d53_50 rfl ?_
      refine Go.goto 55 d53_51 (by decide) (by decide) ?_
      exact Go.retN (t := .boolean) (z' := 1) d53_55 rfl (by decide) (by decide) (by decide) (by decide) ⟨rfl, rfl⟩
    · refine Go.iloadN 15 rfl d53_14 rfl ?_
      refine Go.sipush 18 rfl (191 : Int32) d53_15 rfl ?_
      refine Go.icmp_gt 50 21 d53_18 (by decide) rfl rfl (fun (b103 : (191 : Int32) < q) => ?_) (fun (b103 : ¬ (191 : Int32) < q) => ?_)
      · refine Go.iconst 51 rfl (1 : Int32) d53_50 rfl ?_
        refine Go.goto 55 d53_51 (by decide) (by decide) ?_
        exact Go.retN (t := .boolean) (z' := 1) d53_55 rfl (by decide) (by decide) (by decide) (by decide) ⟨rfl, rfl⟩
      · refine Go.iloadN 22 rfl d53_21 rfl ?_
        refine Go.sipush 25 rfl (244 : Int32) d53_22 rfl ?_
        refine Go.icmp_ne 39 28 d53_25 (by decide) rfl rfl (fun (b108 : ¬ p = (244 : Int32)) => ?_) (fun (b108 : p = (244 : Int32)) => ?_)
        · refine Go.iloadN 40 rfl d53_39 rfl ?_
          refine Go.sipush 43 rfl (192 : Int32) d53_40 rfl ?_
          refine Go.iand 44 rfl d53_43 ?_
          refine Go.sipush 47 rfl (128 : Int32) d53_44 rfl ?_
          refine Go.icmp_eq 54 50 d53_47 (by decide) rfl rfl (fun (b110 : (q &&& (192 : Int32)) = (128 : Int32)) => ?_) (fun (b110 : ¬ (q &&& (192 : Int32)) = (128 : Int32)) => ?_)
          · exact absurd b110 (show ¬ (q &&& (192 : Int32)) = (128 : Int32) from h1)
          · refine Go.iconst 51 rfl (1 : Int32) d53_50 rfl ?_
            refine Go.goto 55 d53_51 (by decide) (by decide) ?_
            exact Go.retN (t := .boolean) (z' := 1) d53_55 rfl (by decide) (by decide) (by decide) (by decide) ⟨rfl, rfl⟩
        · refine Go.iloadN 29 rfl d53_28 rfl ?_
          refine Go.sipush 32 rfl (240 : Int32) d53_29 rfl ?_
          refine Go.iand 33 rfl d53_32 ?_
          refine Go.sipush 36 rfl (128 : Int32) d53_33 rfl ?_
          refine Go.icmp_ne 50 39 d53_36 (by decide) rfl rfl (fun (b109 : ¬ (q &&& (240 : Int32)) = (128 : Int32)) => ?_) (fun (b109 : (q &&& (240 : Int32)) = (128 : Int32)) => ?_)
          · refine Go.iconst 51 rfl (1 : Int32) d53_50 rfl ?_
            refine Go.goto 55 d53_51 (by decide) (by decide) ?_
            exact Go.retN (t := .boolean) (z' := 1) d53_55 rfl (by decide) (by decide) (by decide) (by decide) ⟨rfl, rfl⟩
          · refine Go.iloadN 40 rfl d53_39 rfl ?_
            refine Go.sipush 43 rfl (192 : Int32) d53_40 rfl ?_
            refine Go.iand 44 rfl d53_43 ?_
            refine Go.sipush 47 rfl (128 : Int32) d53_44 rfl ?_
            refine Go.icmp_eq 54 50 d53_47 (by decide) rfl rfl (fun (b111 : (q &&& (192 : Int32)) = (128 : Int32)) => ?_) (fun (b111 : ¬ (q &&& (192 : Int32)) = (128 : Int32)) => ?_)
            · exact absurd b111 (show ¬ (q &&& (192 : Int32)) = (128 : Int32) from h1)
            · refine Go.iconst 51 rfl (1 : Int32) d53_50 rfl ?_
              refine Go.goto 55 d53_51 (by decide) (by decide) ?_
              exact Go.retN (t := .boolean) (z' := 1) d53_55 rfl (by decide) (by decide) (by decide) (by decide) ⟨rfl, rfl⟩
theorem d29_0 : decode jdk_29_method_69_code 0 = .ok (.iload_n 0, 1) := by decide +kernel
theorem d29_1 : decode jdk_29_method_69_code 1 = .ok (.iload_n 1, 1) := by decide +kernel
theorem d29_2 : decode jdk_29_method_69_code 2 = .ok (.if_icmp .gt 7, 3) := by decide +kernel
theorem d29_9 : decode jdk_29_method_69_code 9 = .ok (.iload_n 1, 1) := by decide +kernel
theorem d29_10 : decode jdk_29_method_69_code 10 = .ok (.ireturn, 1) := by decide +kernel
theorem pd29 : parseMethodDescriptor "(II)I" = some ⟨[.int, .int], some .int⟩ := by decide +kernel
theorem pn29 : plainFor (⟨"java/lang/Math", "min", "(II)I"⟩ : MethodName) = true := by first | (refine plainFor_of_name ?_; simp [plainName, overriddenIn]; done) | (refine plainFor_of_name ?_; decide +kernel) | decide +kernel
abbrev B29 : Bd := ((⟨"java/lang/Math", "min", "(II)I"⟩ : MethodName), jdk_29_method_69_code, 2, (some .int), ({ frames := 0, cells := 0, slots := 0, locals := 0 } : Room), tables_1)
def Q29 (x : Int32) (h0 : Heap) (v : Option Value) (h : Heap) : Prop := v = some (.int x) ∧ h0 = h
theorem c29 (Z : State) (hw : Wd Z tables_1) (h0 : Heap) (p : Int32) (x : Int32)  (h1 : x < p) : Con Z B29 (List.toArray [.int p, .int x]) h0 (Q29 x h0) := by
  refine Con.mk (Ls := #[.val (.int p), .val (.int x)]) hw pn29 (fun mid => by first | (simp [entryFrame, mkF, argsToLocals, Value.category, Jvm.Ow.Bd.ml, B29]; done) | rfl) (Go.old fun hle' => ?_)
  have hle := hle'.1
  refine Go.iloadN 1 rfl d29_0 rfl ?_
  refine Go.iloadN 2 rfl d29_1 rfl ?_
  refine Go.icmp_gt 9 5 d29_2 (by decide) rfl rfl (fun (b101 : x < p) => ?_) (fun (b101 : ¬ x < p) => ?_)
  · refine Go.iloadN 10 rfl d29_9 rfl ?_
    exact Go.retI d29_10 rfl (by decide) (by decide) ⟨rfl, rfl⟩
  · exact absurd (show x < p from h1) b101
theorem d28_0 : decode jdk_65_method_131_code 0 = .ok (.iload_n 1, 1) := by decide +kernel
theorem d28_1 : decode jdk_65_method_131_code 1 = .ok (.iload_n 0, 1) := by decide +kernel
theorem d28_2 : decode jdk_65_method_131_code 2 = .ok (.if_icmp .ge 35, 3) := by decide +kernel
theorem d28_37 : decode jdk_65_method_131_code 37 = .ok (.return_, 1) := by decide +kernel
theorem pd28 : parseMethodDescriptor "(II)V" = some ⟨[.int, .int], none⟩ := by decide +kernel
theorem pn28 : plainFor (⟨"java/util/Arrays", "checkLength", "(II)V"⟩ : MethodName) = true := by first | (refine plainFor_of_name ?_; simp [plainName, overriddenIn]; done) | (refine plainFor_of_name ?_; decide +kernel) | decide +kernel
abbrev B28 : Bd := ((⟨"java/util/Arrays", "checkLength", "(II)V"⟩ : MethodName), jdk_65_method_131_code, 2, none, ({ frames := 0, cells := 0, slots := 0, locals := 0 } : Room), tables_1)
def Q28 (h0 : Heap) (v : Option Value) (h : Heap) : Prop := v = none ∧ h0 = h
theorem c28 (Z : State) (hw : Wd Z tables_1) (h0 : Heap) (x : Int32)  (h1 : ¬ x < (0 : Int32)) : Con Z B28 (List.toArray [.int (0 : Int32), .int x]) h0 (Q28 h0) := by
  refine Con.mk (Ls := #[.val (.int (0 : Int32)), .val (.int x)]) hw pn28 (fun mid => by first | (simp [entryFrame, mkF, argsToLocals, Value.category, Jvm.Ow.Bd.ml, B28]; done) | rfl) (Go.old fun hle' => ?_)
  have hle := hle'.1
  refine Go.iloadN 1 rfl d28_0 rfl ?_
  refine Go.iloadN 2 rfl d28_1 rfl ?_
  refine Go.icmp_ge 37 5 d28_2 (by decide) rfl rfl (fun (b101 : ¬ x < (0 : Int32)) => ?_) (fun (b101 : x < (0 : Int32)) => ?_)
  · exact Go.retV d28_37 rfl (by decide) (by decide) ⟨rfl, rfl⟩
  · exact absurd b101 (show ¬ x < (0 : Int32) from h1)
theorem d44_0 : decode jdk_41_method_13_code 0 = .ok (.iload_n 2, 1) := by decide +kernel
theorem d44_1 : decode jdk_41_method_13_code 1 = .ok (.iload_n 0, 1) := by decide +kernel
theorem d44_2 : decode jdk_41_method_13_code 2 = .ok (.ior, 1) := by decide +kernel
theorem d44_3 : decode jdk_41_method_13_code 3 = .ok (.iload_n 1, 1) := by decide +kernel
theorem d44_4 : decode jdk_41_method_13_code 4 = .ok (.ior, 1) := by decide +kernel
theorem d44_5 : decode jdk_41_method_13_code 5 = .ok (.ifCond .lt 10, 3) := by decide +kernel
theorem d44_8 : decode jdk_41_method_13_code 8 = .ok (.iload_n 1, 1) := by decide +kernel
theorem d44_9 : decode jdk_41_method_13_code 9 = .ok (.iload_n 2, 1) := by decide +kernel
theorem d44_10 : decode jdk_41_method_13_code 10 = .ok (.iload_n 0, 1) := by decide +kernel
theorem d44_11 : decode jdk_41_method_13_code 11 = .ok (.isub, 1) := by decide +kernel
theorem d44_12 : decode jdk_41_method_13_code 12 = .ok (.if_icmp .le 11, 3) := by decide +kernel
theorem d44_23 : decode jdk_41_method_13_code 23 = .ok (.iload_n 0, 1) := by decide +kernel
theorem d44_24 : decode jdk_41_method_13_code 24 = .ok (.ireturn, 1) := by decide +kernel
theorem pd44 : parseMethodDescriptor "(IIILjava/util/function/BiFunction;)I" = some ⟨[.int, .int, .int, (.object "java/util/function/BiFunction")], some .int⟩ := by decide +kernel
theorem pn44 : plainFor (⟨"jdk/internal/util/Preconditions", "checkFromIndexSize", "(IIILjava/util/function/BiFunction;)I"⟩ : MethodName) = true := by first | (refine plainFor_of_name ?_; simp [plainName, overriddenIn]; done) | (refine plainFor_of_name ?_; decide +kernel) | decide +kernel
abbrev B44 : Bd := ((⟨"jdk/internal/util/Preconditions", "checkFromIndexSize", "(IIILjava/util/function/BiFunction;)I"⟩ : MethodName), jdk_41_method_13_code, 4, (some .int), ({ frames := 0, cells := 0, slots := 0, locals := 0 } : Room), tables_1)
def Q44m (o : Int32) (h0 : Heap) (v : Option Value) (h : Heap) : Prop := v = some (.int o) ∧ h0 = h
theorem c44m (Z : State) (hw : Wd Z tables_1) (h0 : Heap) (o : Int32) (n : Int32) (l : Int32) (m : Addr)  (h1 : ¬ ((l ||| o) ||| n) < 0) (h2 : ¬ (l - o) < n) : Con Z B44 (List.toArray [.int o, .int n, .int l, .ref m]) h0 (Q44m o h0) := by
  refine Con.mk (Ls := #[.val (.int o), .val (.int n), .val (.int l), .val (.ref m)]) hw pn44 (fun mid => by first | (simp [entryFrame, mkF, argsToLocals, Value.category, Jvm.Ow.Bd.ml, B44]; done) | rfl) (Go.old fun hle' => ?_)
  have hle := hle'.1
  refine Go.iloadN 1 rfl d44_0 rfl ?_
  refine Go.iloadN 2 rfl d44_1 rfl ?_
  refine Go.ior 3 rfl d44_2 ?_
  refine Go.iloadN 4 rfl d44_3 rfl ?_
  refine Go.ior 5 rfl d44_4 ?_
  refine Go.if_lt 15 8 d44_5 (by decide) rfl rfl (fun (b101 : ((l ||| o) ||| n) < 0) => ?_) (fun (b101 : ¬ ((l ||| o) ||| n) < 0) => ?_)
  · exact absurd b101 (show ¬ ((l ||| o) ||| n) < 0 from h1)
  · refine Go.iloadN 9 rfl d44_8 rfl ?_
    refine Go.iloadN 10 rfl d44_9 rfl ?_
    refine Go.iloadN 11 rfl d44_10 rfl ?_
    refine Go.isub 12 rfl d44_11 ?_
    refine Go.icmp_le 23 15 d44_12 (by decide) rfl rfl (fun (b102 : ¬ (l - o) < n) => ?_) (fun (b102 : (l - o) < n) => ?_)
    · refine Go.iloadN 24 rfl d44_23 rfl ?_
      exact Go.retI d44_24 rfl (by decide) (by decide) ⟨rfl, rfl⟩
    · exact absurd b102 (show ¬ (l - o) < n from h2)
def Q44u (o : Int32) (h0 : Heap) (v : Option Value) (h : Heap) : Prop := v = some (.int o) ∧ h0 = h
theorem c44u (Z : State) (hw : Wd Z tables_1) (h0 : Heap) (o : Int32) (n : Int32) (l : Int32)  (h1 : ¬ ((l ||| o) ||| n) < 0) (h2 : ¬ (l - o) < n) : Con Z B44 (List.toArray [.int o, .int n, .int l, .null]) h0 (Q44u o h0) := by
  refine Con.mk (Ls := #[.val (.int o), .val (.int n), .val (.int l), .val (.null)]) hw pn44 (fun mid => by first | (simp [entryFrame, mkF, argsToLocals, Value.category, Jvm.Ow.Bd.ml, B44]; done) | rfl) (Go.old fun hle' => ?_)
  have hle := hle'.1
  refine Go.iloadN 1 rfl d44_0 rfl ?_
  refine Go.iloadN 2 rfl d44_1 rfl ?_
  refine Go.ior 3 rfl d44_2 ?_
  refine Go.iloadN 4 rfl d44_3 rfl ?_
  refine Go.ior 5 rfl d44_4 ?_
  refine Go.if_lt 15 8 d44_5 (by decide) rfl rfl (fun (b101 : ((l ||| o) ||| n) < 0) => ?_) (fun (b101 : ¬ ((l ||| o) ||| n) < 0) => ?_)
  · exact absurd b101 (show ¬ ((l ||| o) ||| n) < 0 from h1)
  · refine Go.iloadN 9 rfl d44_8 rfl ?_
    refine Go.iloadN 10 rfl d44_9 rfl ?_
    refine Go.iloadN 11 rfl d44_10 rfl ?_
    refine Go.isub 12 rfl d44_11 ?_
    refine Go.icmp_le 23 15 d44_12 (by decide) rfl rfl (fun (b102 : ¬ (l - o) < n) => ?_) (fun (b102 : (l - o) < n) => ?_)
    · refine Go.iloadN 24 rfl d44_23 rfl ?_
      exact Go.retI d44_24 rfl (by decide) (by decide) ⟨rfl, rfl⟩
    · exact absurd b102 (show ¬ (l - o) < n from h2)
theorem d43_0 : decode jdk_42_method_157_code 0 = .ok (.iload_n 0, 1) := by decide +kernel
theorem d43_1 : decode jdk_42_method_157_code 1 = .ok (.iload_n 1, 1) := by decide +kernel
theorem d43_2 : decode jdk_42_method_157_code 2 = .ok (.iload_n 2, 1) := by decide +kernel
theorem d43_3 : decode jdk_42_method_157_code 3 = .ok (.getstatic 1053, 3) := by decide +kernel
theorem d43_6 : decode jdk_42_method_157_code 6 = .ok (.invokestatic 1065, 3) := by decide +kernel
theorem d43_9 : decode jdk_42_method_157_code 9 = .ok (.ireturn, 1) := by decide +kernel
theorem pd43 : parseMethodDescriptor "(III)I" = some ⟨[.int, .int, .int], some .int⟩ := by decide +kernel
theorem pn43 : plainFor (⟨"java/lang/String", "checkBoundsOffCount", "(III)I"⟩ : MethodName) = true := by first | (refine plainFor_of_name ?_; simp [plainName, overriddenIn]; done) | (refine plainFor_of_name ?_; decide +kernel) | decide +kernel
abbrev B43 : Bd := ((⟨"java/lang/String", "checkBoundsOffCount", "(III)I"⟩ : MethodName), jdk_42_method_157_code, 3, (some .int), ({ frames := 1, cells := 0, slots := 0, locals := 15 } : Room), tables_1)
def Q43 (o : Int32) (h0 : Heap) (v : Option Value) (h : Heap) : Prop := v = some (.int o) ∧ h0 = h
theorem c43 (Z : State) (hw : Wd Z tables_1) (h0 : Heap) (o : Int32) (n : Int32) (l : Int32)  (hfm : YFm Z) (h1 : ¬ ((l ||| o) ||| n) < 0) (h2 : ¬ (l - o) < n) : Con Z B43 (List.toArray [.int o, .int n, .int l]) h0 (Q43 o h0) := by
  refine Con.mk (Ls := #[.val (.int o), .val (.int n), .val (.int l)]) hw pn43 (fun mid => by first | (simp [entryFrame, mkF, argsToLocals, Value.category, Jvm.Ow.Bd.ml, B43]; done) | rfl) (Go.old fun hle' => ?_)
  have hle := hle'.1
  rcases hfm with hfm | ⟨m, hfm⟩
  · refine Go.iloadN 1 rfl d43_0 rfl ?_
    refine Go.iloadN 2 rfl d43_1 rfl ?_
    refine Go.iloadN 3 rfl d43_2 rfl ?_
    refine Go.getS 6 rfl (v := .null) 189 d43_3 rfl hfm ?_
    refine Go.callS 9 rfl (C := B44) [.int o, .int n, .int l, .null] (rest := []) 235 236 190 237 (c44u Z hw h0 o n l h1 h2) d43_6 rfl rfl rfl rfl (by decide) pd44 rfl rfl rfl (W := 0) (lb rfl) (by decide) (by decide) (by decide) (by decide) fun v101 h102 q103 => ?_
    obtain ⟨rfl, rfl⟩ := q103
    exact Go.retI d43_9 rfl (by decide) (by decide) ⟨rfl, rfl⟩
  · refine Go.iloadN 1 rfl d43_0 rfl ?_
    refine Go.iloadN 2 rfl d43_1 rfl ?_
    refine Go.iloadN 3 rfl d43_2 rfl ?_
    refine Go.getS 6 rfl (v := .ref m) 189 d43_3 rfl hfm ?_
    refine Go.callS 9 rfl (C := B44) [.int o, .int n, .int l, .ref m] (rest := []) 235 236 190 237 (c44m Z hw h0 o n l m h1 h2) d43_6 rfl rfl rfl rfl (by decide) pd44 rfl rfl rfl (W := 0) (lb rfl) (by decide) (by decide) (by decide) (by decide) fun v104 h105 q106 => ?_
    obtain ⟨rfl, rfl⟩ := q106
    exact Go.retI d43_9 rfl (by decide) (by decide) ⟨rfl, rfl⟩
theorem d42_0 : decode jdk_52_method_6_code 0 = .ok (.aload_n 0, 1) := by decide +kernel
theorem d42_1 : decode jdk_52_method_6_code 1 = .ok (.arraylength, 1) := by decide +kernel
theorem d42_2 : decode jdk_52_method_6_code 2 = .ok (.iconst 1, 1) := by decide +kernel
theorem d42_3 : decode jdk_52_method_6_code 3 = .ok (.ishr, 1) := by decide +kernel
theorem d42_4 : decode jdk_52_method_6_code 4 = .ok (.ireturn, 1) := by decide +kernel
theorem pd42 : parseMethodDescriptor "([B)I" = some ⟨[(.array .byte)], some .int⟩ := by decide +kernel
theorem pn42 : plainFor (⟨"java/lang/StringUTF16", "length", "([B)I"⟩ : MethodName) = true := by first | (refine plainFor_of_name ?_; simp [plainName, overriddenIn]; done) | (refine plainFor_of_name ?_; decide +kernel) | decide +kernel
abbrev B42 : Bd := ((⟨"java/lang/StringUTF16", "length", "([B)I"⟩ : MethodName), jdk_52_method_6_code, 1, (some .int), ({ frames := 0, cells := 0, slots := 0, locals := 0 } : Room), tables_1)
def Q42 (R : Int32) (h0 : Heap) (v : Option Value) (h : Heap) : Prop := v = some (.int R) ∧ h0 = h
theorem c42 (Z : State) (hw : Wd Z tables_1) (h0 : Heap) (t : Addr) (R : Int32) (vs : List Value) (L : Int32) (hL : L.toInt = vs.length) (hR : L >>> ((1 : Int32) &&& 31) = R) (hA : Ary Z h0 t .byte vs) : Con Z B42 (List.toArray [.ref t]) h0 (Q42 R h0) := by
  refine Con.mk (Ls := #[.val (.ref t)]) hw pn42 (fun mid => by first | (simp [entryFrame, mkF, argsToLocals, Value.category, Jvm.Ow.Bd.ml, B42]; done) | rfl) (Go.old fun hle' => ?_)
  have hle := hle'.1
  refine Go.aloadN 1 rfl d42_0 rfl rfl ?_
  refine Go.alen 2 rfl L d42_1 hA hL ?_
  refine Go.iconst 3 rfl (1 : Int32) d42_2 rfl ?_
  refine Go.ishr 4 rfl d42_3 ?_
  refine Go.eqI (w := R) hR ?_
  exact Go.retI d42_4 rfl (by decide) (by decide) ⟨rfl, rfl⟩
theorem d41_0 : decode jdk_52_method_94_code 0 = .ok (.iload_n 0, 1) := by decide +kernel
theorem d41_1 : decode jdk_52_method_94_code 1 = .ok (.iload_n 1, 1) := by decide +kernel
theorem d41_2 : decode jdk_52_method_94_code 2 = .ok (.aload_n 2, 1) := by decide +kernel
theorem d41_3 : decode jdk_52_method_94_code 3 = .ok (.invokestatic 48, 3) := by decide +kernel
theorem d41_6 : decode jdk_52_method_94_code 6 = .ok (.invokestatic 419, 3) := by decide +kernel
theorem d41_9 : decode jdk_52_method_94_code 9 = .ok (.pop, 1) := by decide +kernel
theorem d41_10 : decode jdk_52_method_94_code 10 = .ok (.return_, 1) := by decide +kernel
theorem pd41 : parseMethodDescriptor "(II[B)V" = some ⟨[.int, .int, (.array .byte)], none⟩ := by decide +kernel
theorem pn41 : plainFor (⟨"java/lang/StringUTF16", "checkBoundsOffCount", "(II[B)V"⟩ : MethodName) = true := by first | (refine plainFor_of_name ?_; simp [plainName, overriddenIn]; done) | (refine plainFor_of_name ?_; decide +kernel) | decide +kernel
abbrev B41 : Bd := ((⟨"java/lang/StringUTF16", "checkBoundsOffCount", "(II[B)V"⟩ : MethodName), jdk_52_method_94_code, 3, none, ({ frames := 2, cells := 0, slots := 0, locals := 29 } : Room), tables_1)
def Q41 (h0 : Heap) (v : Option Value) (h : Heap) : Prop := v = none ∧ h0 = h
theorem c41 (Z : State) (hw : Wd Z tables_1) (h0 : Heap) (o : Int32) (n : Int32) (t : Addr)  (vs : List Value) (L : Int32) (l : Int32) (hL : L.toInt = vs.length) (hR : L >>> ((1 : Int32) &&& 31) = l) (hA : Ary Z h0 t .byte vs) (hfm : YFm Z) (h1 : ¬ ((l ||| o) ||| n) < 0) (h2 : ¬ (l - o) < n) : Con Z B41 (List.toArray [.int o, .int n, .ref t]) h0 (Q41 h0) := by
  refine Con.mk (Ls := #[.val (.int o), .val (.int n), .val (.ref t)]) hw pn41 (fun mid => by first | (simp [entryFrame, mkF, argsToLocals, Value.category, Jvm.Ow.Bd.ml, B41]; done) | rfl) (Go.old fun hle' => ?_)
  have hle := hle'.1
  refine Go.iloadN 1 rfl d41_0 rfl ?_
  refine Go.iloadN 2 rfl d41_1 rfl ?_
  refine Go.aloadN 3 rfl d41_2 rfl rfl ?_
  refine Go.callS 6 rfl (C := B42) [.ref t] (rest := [.int n, .int o]) 229 230 214 231 (c42 Z hw h0 t l vs L hL hR hA) d41_3 rfl rfl rfl rfl (by decide) pd42 rfl rfl rfl (W := 2) (lb rfl) (by decide) (by decide) (by decide) (by decide) fun v101 h102 q103 => ?_
  obtain ⟨rfl, rfl⟩ := q103
  refine Go.callS 9 rfl (C := B43) [.int o, .int n, .int l] (rest := []) 232 233 20 234 (c43 Z hw h0 o n l hfm h1 h2) d41_6 rfl rfl rfl rfl (by decide) pd43 rfl rfl rfl (W := 0) (lb rfl) (by decide) (by decide) (by decide) (by decide) fun v104 h105 q106 => ?_
  obtain ⟨rfl, rfl⟩ := q106
  refine Go.pop 10 rfl d41_9 rfl ?_
  exact Go.retV d41_10 rfl (by decide) (by decide) ⟨rfl, rfl⟩
theorem d40_0 : decode jdk_52_method_86_code 0 = .ok (.iload_n 3, 1) := by decide +kernel
theorem d40_1 : decode jdk_52_method_86_code 1 = .ok (.iload 4, 2) := by decide +kernel
theorem d40_3 : decode jdk_52_method_86_code 3 = .ok (.aload_n 2, 1) := by decide +kernel
theorem d40_4 : decode jdk_52_method_86_code 4 = .ok (.invokestatic 173, 3) := by decide +kernel
theorem d40_7 : decode jdk_52_method_86_code 7 = .ok (.iconst 0, 1) := by decide +kernel
theorem d40_8 : decode jdk_52_method_86_code 8 = .ok (.istore 5, 2) := by decide +kernel
theorem d40_10 : decode jdk_52_method_86_code 10 = .ok (.iload 5, 2) := by decide +kernel
theorem d40_12 : decode jdk_52_method_86_code 12 = .ok (.iload 4, 2) := by decide +kernel
theorem d40_14 : decode jdk_52_method_86_code 14 = .ok (.if_icmp .ge 27, 3) := by decide +kernel
theorem d40_17 : decode jdk_52_method_86_code 17 = .ok (.aload_n 2, 1) := by decide +kernel
theorem d40_18 : decode jdk_52_method_86_code 18 = .ok (.iload_n 3, 1) := by decide +kernel
theorem d40_19 : decode jdk_52_method_86_code 19 = .ok (.iinc 3 1, 3) := by decide +kernel
theorem d40_22 : decode jdk_52_method_86_code 22 = .ok (.aload_n 0, 1) := by decide +kernel
theorem d40_23 : decode jdk_52_method_86_code 23 = .ok (.iload_n 1, 1) := by decide +kernel
theorem d40_24 : decode jdk_52_method_86_code 24 = .ok (.iinc 1 1, 3) := by decide +kernel
theorem d40_27 : decode jdk_52_method_86_code 27 = .ok (.baload, 1) := by decide +kernel
theorem d40_28 : decode jdk_52_method_86_code 28 = .ok (.sipush 255, 3) := by decide +kernel
theorem d40_31 : decode jdk_52_method_86_code 31 = .ok (.iand, 1) := by decide +kernel
theorem d40_32 : decode jdk_52_method_86_code 32 = .ok (.invokestatic 111, 3) := by decide +kernel
theorem d40_35 : decode jdk_52_method_86_code 35 = .ok (.iinc 5 1, 3) := by decide +kernel
theorem d40_38 : decode jdk_52_method_86_code 38 = .ok (.goto (-28), 3) := by decide +kernel
theorem d40_41 : decode jdk_52_method_86_code 41 = .ok (.return_, 1) := by decide +kernel
theorem pd40 : parseMethodDescriptor "([BI[BII)V" = some ⟨[(.array .byte), .int, (.array .byte), .int, .int], none⟩ := by decide +kernel
theorem pn40 : plainFor (⟨"java/lang/StringUTF16", "inflate", "([BI[BII)V"⟩ : MethodName) = true := by first | (refine plainFor_of_name ?_; simp [plainName, overriddenIn]; done) | (refine plainFor_of_name ?_; decide +kernel) | decide +kernel
abbrev B40 : Bd := ((⟨"java/lang/StringUTF16", "inflate", "([BI[BII)V"⟩ : MethodName), jdk_52_method_86_code, 6, none, ({ frames := 3, cells := 0, slots := 0, locals := 43 } : Room), tables_1)
def Q40n3 (Z : State) (t : Addr) (us : List Int32) (vd : List Int32) (on : Nat) (h0 : Heap) (v : Option Value) (h : Heap) : Prop := v = none ∧ Keep h0 h [t] ∧ Ary Z h t .byte (IL (put (put (put vd (on + 0) (us.getD 0 0 &&& (255 : Int32))) (on + 1) (us.getD 1 0 &&& (255 : Int32))) (on + 2) (us.getD 2 0 &&& (255 : Int32))))
theorem c40n3 (Z : State) (hw : Wd Z tables_1) (h0 : Heap) (u : Addr) (t : Addr) (o : Int32) (us : List Int32) (vd : List Int32) (on : Nat) (ho : o.toInt = on) (ho6 : on + 3 < 9) (L : Int32) (l : Int32) (hL : L.toInt = (IL vd).length) (hR : L >>> ((1 : Int32) &&& 31) = l) (hlen : 2 * (on + 3) ≤ vd.length) (hul : 3 ≤ us.length) (hfm : YFm Z) (h1 : ¬ ((l ||| o) ||| (3 : Int32)) < 0) (h2 : ¬ (l - o) < (3 : Int32)) (hAs : YAs Z) (hHi : YHi Z) (hLo : YLo Z) (hA : Ary Z h0 u .byte (IL us)) (hB : Ary Z h0 t .byte (IL vd)) (hgt : Z.heap.size ≤ t) (hne : u ≠ t) : Con Z B40 (List.toArray [.ref u, .int (0 : Int32), .ref t, .int o, .int (3 : Int32)]) h0 (Q40n3 Z t us vd on h0) := by
  refine Con.mk (Ls := #[.val (.ref u), .val (.int (0 : Int32)), .val (.ref t), .val (.int o), .val (.int (3 : Int32)), .unset]) hw pn40 (fun mid => by first | (simp [entryFrame, mkF, argsToLocals, Value.category, Jvm.Ow.Bd.ml, B40]; done) | rfl) (Go.old fun hle' => ?_)
  have hle := hle'.1
  refine Go.iloadN 1 rfl d40_0 rfl ?_
  refine Go.iload 3 rfl d40_1 rfl ?_
  refine Go.aloadN 4 rfl d40_3 rfl rfl ?_
  refine Go.callS 7 rfl (C := B41) [.int o, .int (3 : Int32), .ref t] (rest := []) 226 227 214 228 (c41 Z hw h0 o (3 : Int32) t (IL vd) L l hL hR hB hfm h1 h2) d40_4 rfl rfl rfl rfl (by decide) pd41 rfl rfl rfl (W := 0) (lb rfl) (by decide) (by decide) (by decide) (by decide) fun v101 h102 q103 => ?_
  obtain ⟨rfl, rfl⟩ := q103
  refine Go.iconst 8 rfl (0 : Int32) d40_7 rfl ?_
  refine Go.istore 10 rfl d40_8 (Ls' := #[.val (.ref u), .val (.int (0 : Int32)), .val (.ref t), .val (.int o), .val (.int (3 : Int32)), .val (.int (0 : Int32))]) rfl ?_
  have q0 := ho
  refine Go.iload 12 rfl d40_10 rfl ?_
  refine Go.iload 14 rfl d40_12 rfl ?_
  refine Go.icmp_ge 41 17 d40_14 (by decide) rfl rfl (fun (b104 : ¬ (0 : Int32) < (3 : Int32)) => ?_) (fun (b104 : (0 : Int32) < (3 : Int32)) => ?_)
  · exact absurd (show (0 : Int32) < (3 : Int32) from (by decide)) b104
  · refine Go.aloadN 18 rfl d40_17 rfl rfl ?_
    refine Go.iloadN 19 rfl d40_18 rfl ?_
    refine Go.iinc 22 rfl (1 : Int32) d40_19 rfl rfl (Ls' := #[.val (.ref u), .val (.int (0 : Int32)), .val (.ref t), .val (.int (o + (1 : Int32))), .val (.int (3 : Int32)), .val (.int (0 : Int32))]) rfl ?_
    refine Go.aloadN 23 rfl d40_22 rfl rfl ?_
    refine Go.iloadN 24 rfl d40_23 rfl ?_
    refine Go.iinc 27 rfl (1 : Int32) d40_24 rfl rfl (Ls' := #[.val (.ref u), .val (.int ((0 : Int32) + (1 : Int32))), .val (.ref t), .val (.int (o + (1 : Int32))), .val (.int (3 : Int32)), .val (.int (0 : Int32))]) rfl ?_
    refine Go.baload 28 rfl (us.getD 0 0) d40_27 hA 0 rfl (IL.get (by omega)) ?_
    refine Go.sipush 31 rfl (255 : Int32) d40_28 rfl ?_
    refine Go.iand 32 rfl d40_31 ?_
    refine Go.callS 35 rfl (C := B46) [.ref t, .int o, .int ((us.getD 0 0) &&& (255 : Int32))] (rest := []) 256 243 214 244 (c46 Z hw h0 t o (us.getD 0 0 &&& (255 : Int32)) vd (on + 0) q0 (by omega) hAs hHi hLo hgt (by first | omega | (simp only [own_putl]; omega)) hB) d40_32 rfl rfl rfl rfl (by decide) pd46 rfl rfl rfl (W := 0) (lb rfl) (by decide) (by decide) (by decide) (by decide) fun v105 h106 q107 => ?_
    obtain ⟨rfl, Kz0, Az0⟩ := q107
    refine Go.iinc 38 rfl (1 : Int32) d40_35 rfl rfl (Ls' := #[.val (.ref u), .val (.int ((0 : Int32) + (1 : Int32))), .val (.ref t), .val (.int (o + (1 : Int32))), .val (.int (3 : Int32)), .val (.int ((0 : Int32) + (1 : Int32)))]) rfl ?_
    refine Go.goto 10 d40_38 (by decide) (by decide) ?_
    have q1 : (o + (1 : Int32)).toInt = ((on + 1 : Nat) : Int) := own_inc q0 (by omega)
    refine Go.iload 12 rfl d40_10 rfl ?_
    refine Go.iload 14 rfl d40_12 rfl ?_
    refine Go.icmp_ge 41 17 d40_14 (by decide) rfl rfl (fun (b108 : ¬ ((0 : Int32) + (1 : Int32)) < (3 : Int32)) => ?_) (fun (b108 : ((0 : Int32) + (1 : Int32)) < (3 : Int32)) => ?_)
    · exact absurd (show ((0 : Int32) + (1 : Int32)) < (3 : Int32) from (by decide)) b108
    · refine Go.aloadN 18 rfl d40_17 rfl rfl ?_
      refine Go.iloadN 19 rfl d40_18 rfl ?_
      refine Go.iinc 22 rfl (1 : Int32) d40_19 rfl rfl (Ls' := #[.val (.ref u), .val (.int ((0 : Int32) + (1 : Int32))), .val (.ref t), .val (.int ((o + (1 : Int32)) + (1 : Int32))), .val (.int (3 : Int32)), .val (.int ((0 : Int32) + (1 : Int32)))]) rfl ?_
      refine Go.aloadN 23 rfl d40_22 rfl rfl ?_
      refine Go.iloadN 24 rfl d40_23 rfl ?_
      refine Go.iinc 27 rfl (1 : Int32) d40_24 rfl rfl (Ls' := #[.val (.ref u), .val (.int (((0 : Int32) + (1 : Int32)) + (1 : Int32))), .val (.ref t), .val (.int ((o + (1 : Int32)) + (1 : Int32))), .val (.int (3 : Int32)), .val (.int ((0 : Int32) + (1 : Int32)))]) rfl ?_
      have F109 : Ary Z h106 u .byte (IL us) := (hA.keep Kz0 (ninS hne nin0))
      refine Go.baload 28 rfl (us.getD 1 0) d40_27 F109 1 rfl (IL.get (by omega)) ?_
      refine Go.sipush 31 rfl (255 : Int32) d40_28 rfl ?_
      refine Go.iand 32 rfl d40_31 ?_
      refine Go.callS 35 rfl (C := B46) [.ref t, .int (o + (1 : Int32)), .int ((us.getD 1 0) &&& (255 : Int32))] (rest := []) 256 243 214 244 (c46 Z hw h106 t (o + (1 : Int32)) (us.getD 1 0 &&& (255 : Int32)) (put vd (on + 0) (us.getD 0 0 &&& (255 : Int32))) (on + 1) q1 (by omega) hAs hHi hLo hgt (by first | omega | (simp only [own_putl]; omega)) Az0) d40_32 rfl rfl rfl rfl (by decide) pd46 rfl rfl rfl (W := 0) (lb rfl) (by decide) (by decide) (by decide) (by decide) fun v110 h111 q112 => ?_
      obtain ⟨rfl, Kz1, Az1⟩ := q112
      refine Go.iinc 38 rfl (1 : Int32) d40_35 rfl rfl (Ls' := #[.val (.ref u), .val (.int (((0 : Int32) + (1 : Int32)) + (1 : Int32))), .val (.ref t), .val (.int ((o + (1 : Int32)) + (1 : Int32))), .val (.int (3 : Int32)), .val (.int (((0 : Int32) + (1 : Int32)) + (1 : Int32)))]) rfl ?_
      refine Go.goto 10 d40_38 (by decide) (by decide) ?_
      have q2 : ((o + (1 : Int32)) + (1 : Int32)).toInt = ((on + 2 : Nat) : Int) := own_inc q1 (by omega)
      refine Go.iload 12 rfl d40_10 rfl ?_
      refine Go.iload 14 rfl d40_12 rfl ?_
      refine Go.icmp_ge 41 17 d40_14 (by decide) rfl rfl (fun (b113 : ¬ (((0 : Int32) + (1 : Int32)) + (1 : Int32)) < (3 : Int32)) => ?_) (fun (b113 : (((0 : Int32) + (1 : Int32)) + (1 : Int32)) < (3 : Int32)) => ?_)
      · exact absurd (show (((0 : Int32) + (1 : Int32)) + (1 : Int32)) < (3 : Int32) from (by decide)) b113
      · refine Go.aloadN 18 rfl d40_17 rfl rfl ?_
        refine Go.iloadN 19 rfl d40_18 rfl ?_
        refine Go.iinc 22 rfl (1 : Int32) d40_19 rfl rfl (Ls' := #[.val (.ref u), .val (.int (((0 : Int32) + (1 : Int32)) + (1 : Int32))), .val (.ref t), .val (.int (((o + (1 : Int32)) + (1 : Int32)) + (1 : Int32))), .val (.int (3 : Int32)), .val (.int (((0 : Int32) + (1 : Int32)) + (1 : Int32)))]) rfl ?_
        refine Go.aloadN 23 rfl d40_22 rfl rfl ?_
        refine Go.iloadN 24 rfl d40_23 rfl ?_
        refine Go.iinc 27 rfl (1 : Int32) d40_24 rfl rfl (Ls' := #[.val (.ref u), .val (.int ((((0 : Int32) + (1 : Int32)) + (1 : Int32)) + (1 : Int32))), .val (.ref t), .val (.int (((o + (1 : Int32)) + (1 : Int32)) + (1 : Int32))), .val (.int (3 : Int32)), .val (.int (((0 : Int32) + (1 : Int32)) + (1 : Int32)))]) rfl ?_
        have F114 : Ary Z h111 u .byte (IL us) := (F109.keep Kz1 (ninS hne nin0))
        refine Go.baload 28 rfl (us.getD 2 0) d40_27 F114 2 rfl (IL.get (by omega)) ?_
        refine Go.sipush 31 rfl (255 : Int32) d40_28 rfl ?_
        refine Go.iand 32 rfl d40_31 ?_
        refine Go.callS 35 rfl (C := B46) [.ref t, .int ((o + (1 : Int32)) + (1 : Int32)), .int ((us.getD 2 0) &&& (255 : Int32))] (rest := []) 256 243 214 244 (c46 Z hw h111 t ((o + (1 : Int32)) + (1 : Int32)) (us.getD 2 0 &&& (255 : Int32)) (put (put vd (on + 0) (us.getD 0 0 &&& (255 : Int32))) (on + 1) (us.getD 1 0 &&& (255 : Int32))) (on + 2) q2 (by omega) hAs hHi hLo hgt (by first | omega | (simp only [own_putl]; omega)) Az1) d40_32 rfl rfl rfl rfl (by decide) pd46 rfl rfl rfl (W := 0) (lb rfl) (by decide) (by decide) (by decide) (by decide) fun v115 h116 q117 => ?_
        obtain ⟨rfl, Kz2, Az2⟩ := q117
        refine Go.iinc 38 rfl (1 : Int32) d40_35 rfl rfl (Ls' := #[.val (.ref u), .val (.int ((((0 : Int32) + (1 : Int32)) + (1 : Int32)) + (1 : Int32))), .val (.ref t), .val (.int (((o + (1 : Int32)) + (1 : Int32)) + (1 : Int32))), .val (.int (3 : Int32)), .val (.int ((((0 : Int32) + (1 : Int32)) + (1 : Int32)) + (1 : Int32)))]) rfl ?_
        refine Go.goto 10 d40_38 (by decide) (by decide) ?_
        have q3 : (((o + (1 : Int32)) + (1 : Int32)) + (1 : Int32)).toInt = ((on + 3 : Nat) : Int) := own_inc q2 (by omega)
        refine Go.iload 12 rfl d40_10 rfl ?_
        refine Go.iload 14 rfl d40_12 rfl ?_
        refine Go.icmp_ge 41 17 d40_14 (by decide) rfl rfl (fun (b118 : ¬ ((((0 : Int32) + (1 : Int32)) + (1 : Int32)) + (1 : Int32)) < (3 : Int32)) => ?_) (fun (b118 : ((((0 : Int32) + (1 : Int32)) + (1 : Int32)) + (1 : Int32)) < (3 : Int32)) => ?_)
        · have kc119 : Keep h0 h116 [t] := ((((Keep.refl h0 [t]).trans Kz0 (by simp)).trans Kz1 (by simp)).trans Kz2 (by simp))
          exact Go.retV d40_41 rfl (by decide) (by decide) ⟨rfl, kc119, Az2⟩
        · exact absurd b118 (show ¬ ((((0 : Int32) + (1 : Int32)) + (1 : Int32)) + (1 : Int32)) < (3 : Int32) from (by decide))
theorem d39_0 : decode jdk_43_method_50_code 0 = .ok (.aload_n 0, 1) := by decide +kernel
theorem d39_1 : decode jdk_43_method_50_code 1 = .ok (.iload_n 1, 1) := by decide +kernel
theorem d39_2 : decode jdk_43_method_50_code 2 = .ok (.aload_n 2, 1) := by decide +kernel
theorem d39_3 : decode jdk_43_method_50_code 3 = .ok (.iload_n 3, 1) := by decide +kernel
theorem d39_4 : decode jdk_43_method_50_code 4 = .ok (.iload 4, 2) := by decide +kernel
theorem d39_6 : decode jdk_43_method_50_code 6 = .ok (.invokestatic 240, 3) := by decide +kernel
theorem d39_9 : decode jdk_43_method_50_code 9 = .ok (.return_, 1) := by decide +kernel
theorem pd39 : parseMethodDescriptor "([BI[BII)V" = some ⟨[(.array .byte), .int, (.array .byte), .int, .int], none⟩ := by decide +kernel
theorem pn39 : plainFor (⟨"java/lang/StringLatin1", "inflate", "([BI[BII)V"⟩ : MethodName) = true := by first | (refine plainFor_of_name ?_; simp [plainName, overriddenIn]; done) | (refine plainFor_of_name ?_; decide +kernel) | decide +kernel
abbrev B39 : Bd := ((⟨"java/lang/StringLatin1", "inflate", "([BI[BII)V"⟩ : MethodName), jdk_43_method_50_code, 5, none, ({ frames := 4, cells := 0, slots := 0, locals := 60 } : Room), tables_1)
def Q39n3 (Z : State) (t : Addr) (us : List Int32) (vd : List Int32) (on : Nat) (h0 : Heap) (v : Option Value) (h : Heap) : Prop := v = none ∧ Keep h0 h [t] ∧ Ary Z h t .byte (IL (put (put (put vd (on + 0) (us.getD 0 0 &&& (255 : Int32))) (on + 1) (us.getD 1 0 &&& (255 : Int32))) (on + 2) (us.getD 2 0 &&& (255 : Int32))))
theorem c39n3 (Z : State) (hw : Wd Z tables_1) (h0 : Heap) (u : Addr) (t : Addr) (o : Int32) (us : List Int32) (vd : List Int32) (on : Nat) (ho : o.toInt = on) (ho6 : on + 3 < 9) (L : Int32) (l : Int32) (hL : L.toInt = (IL vd).length) (hR : L >>> ((1 : Int32) &&& 31) = l) (hlen : 2 * (on + 3) ≤ vd.length) (hul : 3 ≤ us.length) (hfm : YFm Z) (h1 : ¬ ((l ||| o) ||| (3 : Int32)) < 0) (h2 : ¬ (l - o) < (3 : Int32)) (hAs : YAs Z) (hHi : YHi Z) (hLo : YLo Z) (hA : Ary Z h0 u .byte (IL us)) (hB : Ary Z h0 t .byte (IL vd)) (hgt : Z.heap.size ≤ t) (hne : u ≠ t) : Con Z B39 (List.toArray [.ref u, .int (0 : Int32), .ref t, .int o, .int (3 : Int32)]) h0 (Q39n3 Z t us vd on h0) := by
  refine Con.mk (Ls := #[.val (.ref u), .val (.int (0 : Int32)), .val (.ref t), .val (.int o), .val (.int (3 : Int32))]) hw pn39 (fun mid => by first | (simp [entryFrame, mkF, argsToLocals, Value.category, Jvm.Ow.Bd.ml, B39]; done) | rfl) (Go.old fun hle' => ?_)
  have hle := hle'.1
  refine Go.aloadN 1 rfl d39_0 rfl rfl ?_
  refine Go.iloadN 2 rfl d39_1 rfl ?_
  refine Go.aloadN 3 rfl d39_2 rfl rfl ?_
  refine Go.iloadN 4 rfl d39_3 rfl ?_
  refine Go.iload 6 rfl d39_4 rfl ?_
  refine Go.callS 9 rfl (C := B40) [.ref u, .int (0 : Int32), .ref t, .int o, .int (3 : Int32)] (rest := []) 223 224 214 225 (c40n3 Z hw h0 u t o us vd on ho ho6 L l hL hR hlen hul hfm h1 h2 hAs hHi hLo hA hB hgt hne) d39_6 rfl rfl rfl rfl (by decide) pd40 rfl rfl rfl (W := 0) (lb rfl) (by decide) (by decide) (by decide) (by decide) fun v101 h102 q103 => ?_
  obtain ⟨rfl, K, A⟩ := q103
  exact Go.retV d39_9 rfl (by decide) (by decide) ⟨rfl, K, A⟩
def Q40n2 (Z : State) (t : Addr) (us : List Int32) (vd : List Int32) (on : Nat) (h0 : Heap) (v : Option Value) (h : Heap) : Prop := v = none ∧ Keep h0 h [t] ∧ Ary Z h t .byte (IL (put (put vd (on + 0) (us.getD 0 0 &&& (255 : Int32))) (on + 1) (us.getD 1 0 &&& (255 : Int32))))
theorem c40n2 (Z : State) (hw : Wd Z tables_1) (h0 : Heap) (u : Addr) (t : Addr) (o : Int32) (us : List Int32) (vd : List Int32) (on : Nat) (ho : o.toInt = on) (ho6 : on + 2 < 9) (L : Int32) (l : Int32) (hL : L.toInt = (IL vd).length) (hR : L >>> ((1 : Int32) &&& 31) = l) (hlen : 2 * (on + 2) ≤ vd.length) (hul : 2 ≤ us.length) (hfm : YFm Z) (h1 : ¬ ((l ||| o) ||| (2 : Int32)) < 0) (h2 : ¬ (l - o) < (2 : Int32)) (hAs : YAs Z) (hHi : YHi Z) (hLo : YLo Z) (hA : Ary Z h0 u .byte (IL us)) (hB : Ary Z h0 t .byte (IL vd)) (hgt : Z.heap.size ≤ t) (hne : u ≠ t) : Con Z B40 (List.toArray [.ref u, .int (0 : Int32), .ref t, .int o, .int (2 : Int32)]) h0 (Q40n2 Z t us vd on h0) := by
  refine Con.mk (Ls := #[.val (.ref u), .val (.int (0 : Int32)), .val (.ref t), .val (.int o), .val (.int (2 : Int32)), .unset]) hw pn40 (fun mid => by first | (simp [entryFrame, mkF, argsToLocals, Value.category, Jvm.Ow.Bd.ml, B40]; done) | rfl) (Go.old fun hle' => ?_)
  have hle := hle'.1
  refine Go.iloadN 1 rfl d40_0 rfl ?_
  refine Go.iload 3 rfl d40_1 rfl ?_
  refine Go.aloadN 4 rfl d40_3 rfl rfl ?_
  refine Go.callS 7 rfl (C := B41) [.int o, .int (2 : Int32), .ref t] (rest := []) 226 227 214 228 (c41 Z hw h0 o (2 : Int32) t (IL vd) L l hL hR hB hfm h1 h2) d40_4 rfl rfl rfl rfl (by decide) pd41 rfl rfl rfl (W := 0) (lb rfl) (by decide) (by decide) (by decide) (by decide) fun v101 h102 q103 => ?_
  obtain ⟨rfl, rfl⟩ := q103
  refine Go.iconst 8 rfl (0 : Int32) d40_7 rfl ?_
  refine Go.istore 10 rfl d40_8 (Ls' := #[.val (.ref u), .val (.int (0 : Int32)), .val (.ref t), .val (.int o), .val (.int (2 : Int32)), .val (.int (0 : Int32))]) rfl ?_
  have q0 := ho
  refine Go.iload 12 rfl d40_10 rfl ?_
  refine Go.iload 14 rfl d40_12 rfl ?_
  refine Go.icmp_ge 41 17 d40_14 (by decide) rfl rfl (fun (b104 : ¬ (0 : Int32) < (2 : Int32)) => ?_) (fun (b104 : (0 : Int32) < (2 : Int32)) => ?_)
  · exact absurd (show (0 : Int32) < (2 : Int32) from (by decide)) b104
  · refine Go.aloadN 18 rfl d40_17 rfl rfl ?_
    refine Go.iloadN 19 rfl d40_18 rfl ?_
    refine Go.iinc 22 rfl (1 : Int32) d40_19 rfl rfl (Ls' := #[.val (.ref u), .val (.int (0 : Int32)), .val (.ref t), .val (.int (o + (1 : Int32))), .val (.int (2 : Int32)), .val (.int (0 : Int32))]) rfl ?_
    refine Go.aloadN 23 rfl d40_22 rfl rfl ?_
    refine Go.iloadN 24 rfl d40_23 rfl ?_
    refine Go.iinc 27 rfl (1 : Int32) d40_24 rfl rfl (Ls' := #[.val (.ref u), .val (.int ((0 : Int32) + (1 : Int32))), .val (.ref t), .val (.int (o + (1 : Int32))), .val (.int (2 : Int32)), .val (.int (0 : Int32))]) rfl ?_
    refine Go.baload 28 rfl (us.getD 0 0) d40_27 hA 0 rfl (IL.get (by omega)) ?_
    refine Go.sipush 31 rfl (255 : Int32) d40_28 rfl ?_
    refine Go.iand 32 rfl d40_31 ?_
    refine Go.callS 35 rfl (C := B46) [.ref t, .int o, .int ((us.getD 0 0) &&& (255 : Int32))] (rest := []) 256 243 214 244 (c46 Z hw h0 t o (us.getD 0 0 &&& (255 : Int32)) vd (on + 0) q0 (by omega) hAs hHi hLo hgt (by first | omega | (simp only [own_putl]; omega)) hB) d40_32 rfl rfl rfl rfl (by decide) pd46 rfl rfl rfl (W := 0) (lb rfl) (by decide) (by decide) (by decide) (by decide) fun v105 h106 q107 => ?_
    obtain ⟨rfl, Kz0, Az0⟩ := q107
    refine Go.iinc 38 rfl (1 : Int32) d40_35 rfl rfl (Ls' := #[.val (.ref u), .val (.int ((0 : Int32) + (1 : Int32))), .val (.ref t), .val (.int (o + (1 : Int32))), .val (.int (2 : Int32)), .val (.int ((0 : Int32) + (1 : Int32)))]) rfl ?_
    refine Go.goto 10 d40_38 (by decide) (by decide) ?_
    have q1 : (o + (1 : Int32)).toInt = ((on + 1 : Nat) : Int) := own_inc q0 (by omega)
    refine Go.iload 12 rfl d40_10 rfl ?_
    refine Go.iload 14 rfl d40_12 rfl ?_
    refine Go.icmp_ge 41 17 d40_14 (by decide) rfl rfl (fun (b108 : ¬ ((0 : Int32) + (1 : Int32)) < (2 : Int32)) => ?_) (fun (b108 : ((0 : Int32) + (1 : Int32)) < (2 : Int32)) => ?_)
    · exact absurd (show ((0 : Int32) + (1 : Int32)) < (2 : Int32) from (by decide)) b108
    · refine Go.aloadN 18 rfl d40_17 rfl rfl ?_
      refine Go.iloadN 19 rfl d40_18 rfl ?_
      refine Go.iinc 22 rfl (1 : Int32) d40_19 rfl rfl (Ls' := #[.val (.ref u), .val (.int ((0 : Int32) + (1 : Int32))), .val (.ref t), .val (.int ((o + (1 : Int32)) + (1 : Int32))), .val (.int (2 : Int32)), .val (.int ((0 : Int32) + (1 : Int32)))]) rfl ?_
      refine Go.aloadN 23 rfl d40_22 rfl rfl ?_
      refine Go.iloadN 24 rfl d40_23 rfl ?_
      refine Go.iinc 27 rfl (1 : Int32) d40_24 rfl rfl (Ls' := #[.val (.ref u), .val (.int (((0 : Int32) + (1 : Int32)) + (1 : Int32))), .val (.ref t), .val (.int ((o + (1 : Int32)) + (1 : Int32))), .val (.int (2 : Int32)), .val (.int ((0 : Int32) + (1 : Int32)))]) rfl ?_
      have F109 : Ary Z h106 u .byte (IL us) := (hA.keep Kz0 (ninS hne nin0))
      refine Go.baload 28 rfl (us.getD 1 0) d40_27 F109 1 rfl (IL.get (by omega)) ?_
      refine Go.sipush 31 rfl (255 : Int32) d40_28 rfl ?_
      refine Go.iand 32 rfl d40_31 ?_
      refine Go.callS 35 rfl (C := B46) [.ref t, .int (o + (1 : Int32)), .int ((us.getD 1 0) &&& (255 : Int32))] (rest := []) 256 243 214 244 (c46 Z hw h106 t (o + (1 : Int32)) (us.getD 1 0 &&& (255 : Int32)) (put vd (on + 0) (us.getD 0 0 &&& (255 : Int32))) (on + 1) q1 (by omega) hAs hHi hLo hgt (by first | omega | (simp only [own_putl]; omega)) Az0) d40_32 rfl rfl rfl rfl (by decide) pd46 rfl rfl rfl (W := 0) (lb rfl) (by decide) (by decide) (by decide) (by decide) fun v110 h111 q112 => ?_
      obtain ⟨rfl, Kz1, Az1⟩ := q112
      refine Go.iinc 38 rfl (1 : Int32) d40_35 rfl rfl (Ls' := #[.val (.ref u), .val (.int (((0 : Int32) + (1 : Int32)) + (1 : Int32))), .val (.ref t), .val (.int ((o + (1 : Int32)) + (1 : Int32))), .val (.int (2 : Int32)), .val (.int (((0 : Int32) + (1 : Int32)) + (1 : Int32)))]) rfl ?_
      refine Go.goto 10 d40_38 (by decide) (by decide) ?_
      have q2 : ((o + (1 : Int32)) + (1 : Int32)).toInt = ((on + 2 : Nat) : Int) := own_inc q1 (by omega)
      refine Go.iload 12 rfl d40_10 rfl ?_
      refine Go.iload 14 rfl d40_12 rfl ?_
      refine Go.icmp_ge 41 17 d40_14 (by decide) rfl rfl (fun (b113 : ¬ (((0 : Int32) + (1 : Int32)) + (1 : Int32)) < (2 : Int32)) => ?_) (fun (b113 : (((0 : Int32) + (1 : Int32)) + (1 : Int32)) < (2 : Int32)) => ?_)
      · exact Go.retV d40_41 rfl (by decide) (by decide) ⟨rfl, (((Keep.refl h0 [t]).trans Kz0 (by simp)).trans Kz1 (by simp)), Az1⟩
      · exact absurd b113 (show ¬ (((0 : Int32) + (1 : Int32)) + (1 : Int32)) < (2 : Int32) from (by decide))
def Q39n2 (Z : State) (t : Addr) (us : List Int32) (vd : List Int32) (on : Nat) (h0 : Heap) (v : Option Value) (h : Heap) : Prop := v = none ∧ Keep h0 h [t] ∧ Ary Z h t .byte (IL (put (put vd (on + 0) (us.getD 0 0 &&& (255 : Int32))) (on + 1) (us.getD 1 0 &&& (255 : Int32))))
theorem c39n2 (Z : State) (hw : Wd Z tables_1) (h0 : Heap) (u : Addr) (t : Addr) (o : Int32) (us : List Int32) (vd : List Int32) (on : Nat) (ho : o.toInt = on) (ho6 : on + 2 < 9) (L : Int32) (l : Int32) (hL : L.toInt = (IL vd).length) (hR : L >>> ((1 : Int32) &&& 31) = l) (hlen : 2 * (on + 2) ≤ vd.length) (hul : 2 ≤ us.length) (hfm : YFm Z) (h1 : ¬ ((l ||| o) ||| (2 : Int32)) < 0) (h2 : ¬ (l - o) < (2 : Int32)) (hAs : YAs Z) (hHi : YHi Z) (hLo : YLo Z) (hA : Ary Z h0 u .byte (IL us)) (hB : Ary Z h0 t .byte (IL vd)) (hgt : Z.heap.size ≤ t) (hne : u ≠ t) : Con Z B39 (List.toArray [.ref u, .int (0 : Int32), .ref t, .int o, .int (2 : Int32)]) h0 (Q39n2 Z t us vd on h0) := by
  refine Con.mk (Ls := #[.val (.ref u), .val (.int (0 : Int32)), .val (.ref t), .val (.int o), .val (.int (2 : Int32))]) hw pn39 (fun mid => by first | (simp [entryFrame, mkF, argsToLocals, Value.category, Jvm.Ow.Bd.ml, B39]; done) | rfl) (Go.old fun hle' => ?_)
  have hle := hle'.1
  refine Go.aloadN 1 rfl d39_0 rfl rfl ?_
  refine Go.iloadN 2 rfl d39_1 rfl ?_
  refine Go.aloadN 3 rfl d39_2 rfl rfl ?_
  refine Go.iloadN 4 rfl d39_3 rfl ?_
  refine Go.iload 6 rfl d39_4 rfl ?_
  refine Go.callS 9 rfl (C := B40) [.ref u, .int (0 : Int32), .ref t, .int o, .int (2 : Int32)] (rest := []) 223 224 214 225 (c40n2 Z hw h0 u t o us vd on ho ho6 L l hL hR hlen hul hfm h1 h2 hAs hHi hLo hA hB hgt hne) d39_6 rfl rfl rfl rfl (by decide) pd40 rfl rfl rfl (W := 0) (lb rfl) (by decide) (by decide) (by decide) (by decide) fun v101 h102 q103 => ?_
  obtain ⟨rfl, K, A⟩ := q103
  exact Go.retV d39_9 rfl (by decide) (by decide) ⟨rfl, K, A⟩
def Q40n1 (Z : State) (t : Addr) (us : List Int32) (vd : List Int32) (on : Nat) (h0 : Heap) (v : Option Value) (h : Heap) : Prop := v = none ∧ Keep h0 h [t] ∧ Ary Z h t .byte (IL (put vd (on + 0) (us.getD 0 0 &&& (255 : Int32))))
theorem c40n1 (Z : State) (hw : Wd Z tables_1) (h0 : Heap) (u : Addr) (t : Addr) (o : Int32) (us : List Int32) (vd : List Int32) (on : Nat) (ho : o.toInt = on) (ho6 : on + 1 < 9) (L : Int32) (l : Int32) (hL : L.toInt = (IL vd).length) (hR : L >>> ((1 : Int32) &&& 31) = l) (hlen : 2 * (on + 1) ≤ vd.length) (hul : 1 ≤ us.length) (hfm : YFm Z) (h1 : ¬ ((l ||| o) ||| (1 : Int32)) < 0) (h2 : ¬ (l - o) < (1 : Int32)) (hAs : YAs Z) (hHi : YHi Z) (hLo : YLo Z) (hA : Ary Z h0 u .byte (IL us)) (hB : Ary Z h0 t .byte (IL vd)) (hgt : Z.heap.size ≤ t) (hne : u ≠ t) : Con Z B40 (List.toArray [.ref u, .int (0 : Int32), .ref t, .int o, .int (1 : Int32)]) h0 (Q40n1 Z t us vd on h0) := by
  refine Con.mk (Ls := #[.val (.ref u), .val (.int (0 : Int32)), .val (.ref t), .val (.int o), .val (.int (1 : Int32)), .unset]) hw pn40 (fun mid => by first | (simp [entryFrame, mkF, argsToLocals, Value.category, Jvm.Ow.Bd.ml, B40]; done) | rfl) (Go.old fun hle' => ?_)
  have hle := hle'.1
  refine Go.iloadN 1 rfl d40_0 rfl ?_
  refine Go.iload 3 rfl d40_1 rfl ?_
  refine Go.aloadN 4 rfl d40_3 rfl rfl ?_
  refine Go.callS 7 rfl (C := B41) [.int o, .int (1 : Int32), .ref t] (rest := []) 226 227 214 228 (c41 Z hw h0 o (1 : Int32) t (IL vd) L l hL hR hB hfm h1 h2) d40_4 rfl rfl rfl rfl (by decide) pd41 rfl rfl rfl (W := 0) (lb rfl) (by decide) (by decide) (by decide) (by decide) fun v101 h102 q103 => ?_
  obtain ⟨rfl, rfl⟩ := q103
  refine Go.iconst 8 rfl (0 : Int32) d40_7 rfl ?_
  refine Go.istore 10 rfl d40_8 (Ls' := #[.val (.ref u), .val (.int (0 : Int32)), .val (.ref t), .val (.int o), .val (.int (1 : Int32)), .val (.int (0 : Int32))]) rfl ?_
  have q0 := ho
  refine Go.iload 12 rfl d40_10 rfl ?_
  refine Go.iload 14 rfl d40_12 rfl ?_
  refine Go.icmp_ge 41 17 d40_14 (by decide) rfl rfl (fun (b104 : ¬ (0 : Int32) < (1 : Int32)) => ?_) (fun (b104 : (0 : Int32) < (1 : Int32)) => ?_)
  · exact absurd (show (0 : Int32) < (1 : Int32) from (by decide)) b104
  · refine Go.aloadN 18 rfl d40_17 rfl rfl ?_
    refine Go.iloadN 19 rfl d40_18 rfl ?_
    refine Go.iinc 22 rfl (1 : Int32) d40_19 rfl rfl (Ls' := #[.val (.ref u), .val (.int (0 : Int32)), .val (.ref t), .val (.int (o + (1 : Int32))), .val (.int (1 : Int32)), .val (.int (0 : Int32))]) rfl ?_
    refine Go.aloadN 23 rfl d40_22 rfl rfl ?_
    refine Go.iloadN 24 rfl d40_23 rfl ?_
    refine Go.iinc 27 rfl (1 : Int32) d40_24 rfl rfl (Ls' := #[.val (.ref u), .val (.int ((0 : Int32) + (1 : Int32))), .val (.ref t), .val (.int (o + (1 : Int32))), .val (.int (1 : Int32)), .val (.int (0 : Int32))]) rfl ?_
    refine Go.baload 28 rfl (us.getD 0 0) d40_27 hA 0 rfl (IL.get (by omega)) ?_
    refine Go.sipush 31 rfl (255 : Int32) d40_28 rfl ?_
    refine Go.iand 32 rfl d40_31 ?_
    refine Go.callS 35 rfl (C := B46) [.ref t, .int o, .int ((us.getD 0 0) &&& (255 : Int32))] (rest := []) 256 243 214 244 (c46 Z hw h0 t o (us.getD 0 0 &&& (255 : Int32)) vd (on + 0) q0 (by omega) hAs hHi hLo hgt (by first | omega | (simp only [own_putl]; omega)) hB) d40_32 rfl rfl rfl rfl (by decide) pd46 rfl rfl rfl (W := 0) (lb rfl) (by decide) (by decide) (by decide) (by decide) fun v105 h106 q107 => ?_
    obtain ⟨rfl, Kz0, Az0⟩ := q107
    refine Go.iinc 38 rfl (1 : Int32) d40_35 rfl rfl (Ls' := #[.val (.ref u), .val (.int ((0 : Int32) + (1 : Int32))), .val (.ref t), .val (.int (o + (1 : Int32))), .val (.int (1 : Int32)), .val (.int ((0 : Int32) + (1 : Int32)))]) rfl ?_
    refine Go.goto 10 d40_38 (by decide) (by decide) ?_
    have q1 : (o + (1 : Int32)).toInt = ((on + 1 : Nat) : Int) := own_inc q0 (by omega)
    refine Go.iload 12 rfl d40_10 rfl ?_
    refine Go.iload 14 rfl d40_12 rfl ?_
    refine Go.icmp_ge 41 17 d40_14 (by decide) rfl rfl (fun (b108 : ¬ ((0 : Int32) + (1 : Int32)) < (1 : Int32)) => ?_) (fun (b108 : ((0 : Int32) + (1 : Int32)) < (1 : Int32)) => ?_)
    · exact Go.retV d40_41 rfl (by decide) (by decide) ⟨rfl, ((Keep.refl h0 [t]).trans Kz0 (by simp)), Az0⟩
    · exact absurd b108 (show ¬ ((0 : Int32) + (1 : Int32)) < (1 : Int32) from (by decide))
def Q39n1 (Z : State) (t : Addr) (us : List Int32) (vd : List Int32) (on : Nat) (h0 : Heap) (v : Option Value) (h : Heap) : Prop := v = none ∧ Keep h0 h [t] ∧ Ary Z h t .byte (IL (put vd (on + 0) (us.getD 0 0 &&& (255 : Int32))))
theorem c39n1 (Z : State) (hw : Wd Z tables_1) (h0 : Heap) (u : Addr) (t : Addr) (o : Int32) (us : List Int32) (vd : List Int32) (on : Nat) (ho : o.toInt = on) (ho6 : on + 1 < 9) (L : Int32) (l : Int32) (hL : L.toInt = (IL vd).length) (hR : L >>> ((1 : Int32) &&& 31) = l) (hlen : 2 * (on + 1) ≤ vd.length) (hul : 1 ≤ us.length) (hfm : YFm Z) (h1 : ¬ ((l ||| o) ||| (1 : Int32)) < 0) (h2 : ¬ (l - o) < (1 : Int32)) (hAs : YAs Z) (hHi : YHi Z) (hLo : YLo Z) (hA : Ary Z h0 u .byte (IL us)) (hB : Ary Z h0 t .byte (IL vd)) (hgt : Z.heap.size ≤ t) (hne : u ≠ t) : Con Z B39 (List.toArray [.ref u, .int (0 : Int32), .ref t, .int o, .int (1 : Int32)]) h0 (Q39n1 Z t us vd on h0) := by
  refine Con.mk (Ls := #[.val (.ref u), .val (.int (0 : Int32)), .val (.ref t), .val (.int o), .val (.int (1 : Int32))]) hw pn39 (fun mid => by first | (simp [entryFrame, mkF, argsToLocals, Value.category, Jvm.Ow.Bd.ml, B39]; done) | rfl) (Go.old fun hle' => ?_)
  have hle := hle'.1
  refine Go.aloadN 1 rfl d39_0 rfl rfl ?_
  refine Go.iloadN 2 rfl d39_1 rfl ?_
  refine Go.aloadN 3 rfl d39_2 rfl rfl ?_
  refine Go.iloadN 4 rfl d39_3 rfl ?_
  refine Go.iload 6 rfl d39_4 rfl ?_
  refine Go.callS 9 rfl (C := B40) [.ref u, .int (0 : Int32), .ref t, .int o, .int (1 : Int32)] (rest := []) 223 224 214 225 (c40n1 Z hw h0 u t o us vd on ho ho6 L l hL hR hlen hul hfm h1 h2 hAs hHi hLo hA hB hgt hne) d39_6 rfl rfl rfl rfl (by decide) pd40 rfl rfl rfl (W := 0) (lb rfl) (by decide) (by decide) (by decide) (by decide) fun v101 h102 q103 => ?_
  obtain ⟨rfl, K, A⟩ := q103
  exact Go.retV d39_9 rfl (by decide) (by decide) ⟨rfl, K, A⟩
def Q40n0 (Z : State) (t : Addr) (us : List Int32) (vd : List Int32) (on : Nat) (h0 : Heap) (v : Option Value) (h : Heap) : Prop := v = none ∧ Keep h0 h [t] ∧ Ary Z h t .byte (IL (vd))
theorem c40n0 (Z : State) (hw : Wd Z tables_1) (h0 : Heap) (u : Addr) (t : Addr) (o : Int32) (us : List Int32) (vd : List Int32) (on : Nat) (ho : o.toInt = on) (ho6 : on + 0 < 9) (L : Int32) (l : Int32) (hL : L.toInt = (IL vd).length) (hR : L >>> ((1 : Int32) &&& 31) = l) (hlen : 2 * (on + 0) ≤ vd.length) (hul : 0 ≤ us.length) (hfm : YFm Z) (h1 : ¬ ((l ||| o) ||| (0 : Int32)) < 0) (h2 : ¬ (l - o) < (0 : Int32)) (hAs : YAs Z) (hHi : YHi Z) (hLo : YLo Z) (hA : Ary Z h0 u .byte (IL us)) (hB : Ary Z h0 t .byte (IL vd)) (hgt : Z.heap.size ≤ t) (hne : u ≠ t) : Con Z B40 (List.toArray [.ref u, .int (0 : Int32), .ref t, .int o, .int (0 : Int32)]) h0 (Q40n0 Z t us vd on h0) := by
  refine Con.mk (Ls := #[.val (.ref u), .val (.int (0 : Int32)), .val (.ref t), .val (.int o), .val (.int (0 : Int32)), .unset]) hw pn40 (fun mid => by first | (simp [entryFrame, mkF, argsToLocals, Value.category, Jvm.Ow.Bd.ml, B40]; done) | rfl) (Go.old fun hle' => ?_)
  have hle := hle'.1
  refine Go.iloadN 1 rfl d40_0 rfl ?_
  refine Go.iload 3 rfl d40_1 rfl ?_
  refine Go.aloadN 4 rfl d40_3 rfl rfl ?_
  refine Go.callS 7 rfl (C := B41) [.int o, .int (0 : Int32), .ref t] (rest := []) 226 227 214 228 (c41 Z hw h0 o (0 : Int32) t (IL vd) L l hL hR hB hfm h1 h2) d40_4 rfl rfl rfl rfl (by decide) pd41 rfl rfl rfl (W := 0) (lb rfl) (by decide) (by decide) (by decide) (by decide) fun v101 h102 q103 => ?_
  obtain ⟨rfl, rfl⟩ := q103
  refine Go.iconst 8 rfl (0 : Int32) d40_7 rfl ?_
  refine Go.istore 10 rfl d40_8 (Ls' := #[.val (.ref u), .val (.int (0 : Int32)), .val (.ref t), .val (.int o), .val (.int (0 : Int32)), .val (.int (0 : Int32))]) rfl ?_
  have q0 := ho
  refine Go.iload 12 rfl d40_10 rfl ?_
  refine Go.iload 14 rfl d40_12 rfl ?_
  refine Go.icmp_ge 41 17 d40_14 (by decide) rfl rfl (fun (b104 : ¬ (0 : Int32) < (0 : Int32)) => ?_) (fun (b104 : (0 : Int32) < (0 : Int32)) => ?_)
  · exact Go.retV d40_41 rfl (by decide) (by decide) ⟨rfl, (Keep.refl h0 [t]), hB⟩
  · exact absurd b104 (show ¬ (0 : Int32) < (0 : Int32) from (by decide))
def Q39n0 (Z : State) (t : Addr) (us : List Int32) (vd : List Int32) (on : Nat) (h0 : Heap) (v : Option Value) (h : Heap) : Prop := v = none ∧ Keep h0 h [t] ∧ Ary Z h t .byte (IL (vd))
theorem c39n0 (Z : State) (hw : Wd Z tables_1) (h0 : Heap) (u : Addr) (t : Addr) (o : Int32) (us : List Int32) (vd : List Int32) (on : Nat) (ho : o.toInt = on) (ho6 : on + 0 < 9) (L : Int32) (l : Int32) (hL : L.toInt = (IL vd).length) (hR : L >>> ((1 : Int32) &&& 31) = l) (hlen : 2 * (on + 0) ≤ vd.length) (hul : 0 ≤ us.length) (hfm : YFm Z) (h1 : ¬ ((l ||| o) ||| (0 : Int32)) < 0) (h2 : ¬ (l - o) < (0 : Int32)) (hAs : YAs Z) (hHi : YHi Z) (hLo : YLo Z) (hA : Ary Z h0 u .byte (IL us)) (hB : Ary Z h0 t .byte (IL vd)) (hgt : Z.heap.size ≤ t) (hne : u ≠ t) : Con Z B39 (List.toArray [.ref u, .int (0 : Int32), .ref t, .int o, .int (0 : Int32)]) h0 (Q39n0 Z t us vd on h0) := by
  refine Con.mk (Ls := #[.val (.ref u), .val (.int (0 : Int32)), .val (.ref t), .val (.int o), .val (.int (0 : Int32))]) hw pn39 (fun mid => by first | (simp [entryFrame, mkF, argsToLocals, Value.category, Jvm.Ow.Bd.ml, B39]; done) | rfl) (Go.old fun hle' => ?_)
  have hle := hle'.1
  refine Go.aloadN 1 rfl d39_0 rfl rfl ?_
  refine Go.iloadN 2 rfl d39_1 rfl ?_
  refine Go.aloadN 3 rfl d39_2 rfl rfl ?_
  refine Go.iloadN 4 rfl d39_3 rfl ?_
  refine Go.iload 6 rfl d39_4 rfl ?_
  refine Go.callS 9 rfl (C := B40) [.ref u, .int (0 : Int32), .ref t, .int o, .int (0 : Int32)] (rest := []) 223 224 214 225 (c40n0 Z hw h0 u t o us vd on ho ho6 L l hL hR hlen hul hfm h1 h2 hAs hHi hLo hA hB hgt hne) d39_6 rfl rfl rfl rfl (by decide) pd40 rfl rfl rfl (W := 0) (lb rfl) (by decide) (by decide) (by decide) (by decide) fun v101 h102 q103 => ?_
  obtain ⟨rfl, K, A⟩ := q103
  exact Go.retV d39_9 rfl (by decide) (by decide) ⟨rfl, K, A⟩
theorem d35_0 : decode jdk_123_method_3_code 0 = .ok (.iload_n 1, 1) := by decide +kernel
theorem d35_1 : decode jdk_123_method_3_code 1 = .ok (.iload_n 2, 1) := by decide +kernel
theorem d35_2 : decode jdk_123_method_3_code 2 = .ok (.iadd, 1) := by decide +kernel
theorem d35_3 : decode jdk_123_method_3_code 3 = .ok (.istore_n 3, 1) := by decide +kernel
theorem d35_4 : decode jdk_123_method_3_code 4 = .ok (.iload_n 1, 1) := by decide +kernel
theorem d35_5 : decode jdk_123_method_3_code 5 = .ok (.istore 4, 2) := by decide +kernel
theorem d35_7 : decode jdk_123_method_3_code 7 = .ok (.iload 4, 2) := by decide +kernel
theorem d35_9 : decode jdk_123_method_3_code 9 = .ok (.iload_n 3, 1) := by decide +kernel
theorem d35_10 : decode jdk_123_method_3_code 10 = .ok (.if_icmp .ge 21, 3) := by decide +kernel
theorem d35_13 : decode jdk_123_method_3_code 13 = .ok (.aload_n 0, 1) := by decide +kernel
theorem d35_14 : decode jdk_123_method_3_code 14 = .ok (.iload 4, 2) := by decide +kernel
theorem d35_16 : decode jdk_123_method_3_code 16 = .ok (.baload, 1) := by decide +kernel
theorem d35_17 : decode jdk_123_method_3_code 17 = .ok (.ifCond .ge 8, 3) := by decide +kernel
theorem d35_20 : decode jdk_123_method_3_code 20 = .ok (.iload 4, 2) := by decide +kernel
theorem d35_22 : decode jdk_123_method_3_code 22 = .ok (.iload_n 1, 1) := by decide +kernel
theorem d35_23 : decode jdk_123_method_3_code 23 = .ok (.isub, 1) := by decide +kernel
theorem d35_24 : decode jdk_123_method_3_code 24 = .ok (.ireturn, 1) := by decide +kernel
theorem d35_25 : decode jdk_123_method_3_code 25 = .ok (.iinc 4 1, 3) := by decide +kernel
theorem d35_28 : decode jdk_123_method_3_code 28 = .ok (.goto (-21), 3) := by decide +kernel
theorem d35_31 : decode jdk_123_method_3_code 31 = .ok (.iload_n 2, 1) := by decide +kernel
theorem d35_32 : decode jdk_123_method_3_code 32 = .ok (.ireturn, 1) := by decide +kernel
theorem pd35 : parseMethodDescriptor "([BII)I" = some ⟨[(.array .byte), .int, .int], some .int⟩ := by decide +kernel
theorem pn35 : plainFor (⟨"java/lang/StringCoding", "countPositives", "([BII)I"⟩ : MethodName) = true := by first | (refine plainFor_of_name ?_; simp [plainName, overriddenIn]; done) | (refine plainFor_of_name ?_; decide +kernel) | decide +kernel
abbrev B35 : Bd := ((⟨"java/lang/StringCoding", "countPositives", "([BII)I"⟩ : MethodName), jdk_123_method_3_code, 5, (some .int), ({ frames := 0, cells := 0, slots := 0, locals := 0 } : Room), tables_1)
def Q352a (h0 : Heap) (v : Option Value) (h : Heap) : Prop := v = some (.int 2) ∧ h0 = h
theorem c352a (Z : State) (hw : Wd Z tables_1) (h0 : Heap) (s : Addr)  (b0 : Int32) (b1 : Int32) (g0 : ¬ b0 < 0) (g1 : ¬ b1 < 0) (hA : Ary Z h0 s .byte [.int b0, .int b1]) : Con Z B35 (List.toArray [.ref s, .int (0 : Int32), .int (2 : Int32)]) h0 (Q352a h0) := by
  refine Con.mk (Ls := #[.val (.ref s), .val (.int (0 : Int32)), .val (.int (2 : Int32)), .unset, .unset]) hw pn35 (fun mid => by first | (simp [entryFrame, mkF, argsToLocals, Value.category, Jvm.Ow.Bd.ml, B35]; done) | rfl) (Go.old fun hle' => ?_)
  have hle := hle'.1
  refine Go.iloadN 1 rfl d35_0 rfl ?_
  refine Go.iloadN 2 rfl d35_1 rfl ?_
  refine Go.iadd 3 rfl d35_2 ?_
  refine Go.eqI (w := (2 : Int32)) (by decide) ?_
  refine Go.istoreN 4 rfl d35_3 (Ls' := #[.val (.ref s), .val (.int (0 : Int32)), .val (.int (2 : Int32)), .val (.int (2 : Int32)), .unset]) rfl ?_
  refine Go.iloadN 5 rfl d35_4 rfl ?_
  refine Go.istore 7 rfl d35_5 (Ls' := #[.val (.ref s), .val (.int (0 : Int32)), .val (.int (2 : Int32)), .val (.int (2 : Int32)), .val (.int (0 : Int32))]) rfl ?_
  refine Go.iload 9 rfl d35_7 rfl ?_
  refine Go.iloadN 10 rfl d35_9 rfl ?_
  refine Go.icmp_ge 31 13 d35_10 (by decide) rfl rfl (fun (b101 : ¬ (0 : Int32) < (2 : Int32)) => ?_) (fun (b101 : (0 : Int32) < (2 : Int32)) => ?_)
  · exact absurd (show (0 : Int32) < (2 : Int32) from (by decide)) b101
  · refine Go.aloadN 14 rfl d35_13 rfl rfl ?_
    refine Go.iload 16 rfl d35_14 rfl ?_
    refine Go.baload 17 rfl b0 d35_16 hA 0 rfl rfl ?_
    refine Go.if_ge 25 20 d35_17 (by decide) rfl rfl (fun (b102 : ¬ b0 < 0) => ?_) (fun (b102 : b0 < 0) => ?_)
    · refine Go.iinc 28 rfl (1 : Int32) d35_25 rfl rfl (Ls' := #[.val (.ref s), .val (.int (0 : Int32)), .val (.int (2 : Int32)), .val (.int (2 : Int32)), .val (.int ((0 : Int32) + (1 : Int32)))]) rfl ?_
      refine Go.goto 7 d35_28 (by decide) (by decide) ?_
      refine Go.iload 9 rfl d35_7 rfl ?_
      refine Go.iloadN 10 rfl d35_9 rfl ?_
      refine Go.icmp_ge 31 13 d35_10 (by decide) rfl rfl (fun (b103 : ¬ ((0 : Int32) + (1 : Int32)) < (2 : Int32)) => ?_) (fun (b103 : ((0 : Int32) + (1 : Int32)) < (2 : Int32)) => ?_)
      · exact absurd (show ((0 : Int32) + (1 : Int32)) < (2 : Int32) from (by decide)) b103
      · refine Go.aloadN 14 rfl d35_13 rfl rfl ?_
        refine Go.iload 16 rfl d35_14 rfl ?_
        refine Go.baload 17 rfl b1 d35_16 hA 1 rfl rfl ?_
        refine Go.if_ge 25 20 d35_17 (by decide) rfl rfl (fun (b104 : ¬ b1 < 0) => ?_) (fun (b104 : b1 < 0) => ?_)
        · refine Go.iinc 28 rfl (1 : Int32) d35_25 rfl rfl (Ls' := #[.val (.ref s), .val (.int (0 : Int32)), .val (.int (2 : Int32)), .val (.int (2 : Int32)), .val (.int (((0 : Int32) + (1 : Int32)) + (1 : Int32)))]) rfl ?_
          refine Go.goto 7 d35_28 (by decide) (by decide) ?_
          refine Go.iload 9 rfl d35_7 rfl ?_
          refine Go.iloadN 10 rfl d35_9 rfl ?_
          refine Go.icmp_ge 31 13 d35_10 (by decide) rfl rfl (fun (b105 : ¬ (((0 : Int32) + (1 : Int32)) + (1 : Int32)) < (2 : Int32)) => ?_) (fun (b105 : (((0 : Int32) + (1 : Int32)) + (1 : Int32)) < (2 : Int32)) => ?_)
          · refine Go.iloadN 32 rfl d35_31 rfl ?_
            exact Go.retI d35_32 rfl (by decide) (by decide) ⟨rfl, rfl⟩
          · exact absurd b105 (show ¬ (((0 : Int32) + (1 : Int32)) + (1 : Int32)) < (2 : Int32) from (by decide))
        · exact absurd b104 (show ¬ b1 < 0 from g1)
    · exact absurd b102 (show ¬ b0 < 0 from g0)
def Q352b (h0 : Heap) (v : Option Value) (h : Heap) : Prop := v = some (.int 1) ∧ h0 = h
theorem c352b (Z : State) (hw : Wd Z tables_1) (h0 : Heap) (s : Addr)  (b0 : Int32) (b1 : Int32) (g0 : ¬ b0 < 0) (g1 : b1 < 0) (hA : Ary Z h0 s .byte [.int b0, .int b1]) : Con Z B35 (List.toArray [.ref s, .int (0 : Int32), .int (2 : Int32)]) h0 (Q352b h0) := by
  refine Con.mk (Ls := #[.val (.ref s), .val (.int (0 : Int32)), .val (.int (2 : Int32)), .unset, .unset]) hw pn35 (fun mid => by first | (simp [entryFrame, mkF, argsToLocals, Value.category, Jvm.Ow.Bd.ml, B35]; done) | rfl) (Go.old fun hle' => ?_)
  have hle := hle'.1
  refine Go.iloadN 1 rfl d35_0 rfl ?_
  refine Go.iloadN 2 rfl d35_1 rfl ?_
  refine Go.iadd 3 rfl d35_2 ?_
  refine Go.eqI (w := (2 : Int32)) (by decide) ?_
  refine Go.istoreN 4 rfl d35_3 (Ls' := #[.val (.ref s), .val (.int (0 : Int32)), .val (.int (2 : Int32)), .val (.int (2 : Int32)), .unset]) rfl ?_
  refine Go.iloadN 5 rfl d35_4 rfl ?_
  refine Go.istore 7 rfl d35_5 (Ls' := #[.val (.ref s), .val (.int (0 : Int32)), .val (.int (2 : Int32)), .val (.int (2 : Int32)), .val (.int (0 : Int32))]) rfl ?_
  refine Go.iload 9 rfl d35_7 rfl ?_
  refine Go.iloadN 10 rfl d35_9 rfl ?_
  refine Go.icmp_ge 31 13 d35_10 (by decide) rfl rfl (fun (b101 : ¬ (0 : Int32) < (2 : Int32)) => ?_) (fun (b101 : (0 : Int32) < (2 : Int32)) => ?_)
  · exact absurd (show (0 : Int32) < (2 : Int32) from (by decide)) b101
  · refine Go.aloadN 14 rfl d35_13 rfl rfl ?_
    refine Go.iload 16 rfl d35_14 rfl ?_
    refine Go.baload 17 rfl b0 d35_16 hA 0 rfl rfl ?_
    refine Go.if_ge 25 20 d35_17 (by decide) rfl rfl (fun (b102 : ¬ b0 < 0) => ?_) (fun (b102 : b0 < 0) => ?_)
    · refine Go.iinc 28 rfl (1 : Int32) d35_25 rfl rfl (Ls' := #[.val (.ref s), .val (.int (0 : Int32)), .val (.int (2 : Int32)), .val (.int (2 : Int32)), .val (.int ((0 : Int32) + (1 : Int32)))]) rfl ?_
      refine Go.goto 7 d35_28 (by decide) (by decide) ?_
      refine Go.iload 9 rfl d35_7 rfl ?_
      refine Go.iloadN 10 rfl d35_9 rfl ?_
      refine Go.icmp_ge 31 13 d35_10 (by decide) rfl rfl (fun (b103 : ¬ ((0 : Int32) + (1 : Int32)) < (2 : Int32)) => ?_) (fun (b103 : ((0 : Int32) + (1 : Int32)) < (2 : Int32)) => ?_)
      · exact absurd (show ((0 : Int32) + (1 : Int32)) < (2 : Int32) from (by decide)) b103
      · refine Go.aloadN 14 rfl d35_13 rfl rfl ?_
        refine Go.iload 16 rfl d35_14 rfl ?_
        refine Go.baload 17 rfl b1 d35_16 hA 1 rfl rfl ?_
        refine Go.if_ge 25 20 d35_17 (by decide) rfl rfl (fun (b104 : ¬ b1 < 0) => ?_) (fun (b104 : b1 < 0) => ?_)
        · exact absurd (show b1 < 0 from g1) b104
        · refine Go.iload 22 rfl d35_20 rfl ?_
          refine Go.iloadN 23 rfl d35_22 rfl ?_
          refine Go.isub 24 rfl d35_23 ?_
          refine Go.eqI (w := (1 : Int32)) (by decide) ?_
          exact Go.retI d35_24 rfl (by decide) (by decide) ⟨rfl, rfl⟩
    · exact absurd b102 (show ¬ b0 < 0 from g0)
def Q352c (h0 : Heap) (v : Option Value) (h : Heap) : Prop := v = some (.int 0) ∧ h0 = h
theorem c352c (Z : State) (hw : Wd Z tables_1) (h0 : Heap) (s : Addr)  (b0 : Int32) (b1 : Int32) (g0 : b0 < 0) (hA : Ary Z h0 s .byte [.int b0, .int b1]) : Con Z B35 (List.toArray [.ref s, .int (0 : Int32), .int (2 : Int32)]) h0 (Q352c h0) := by
  refine Con.mk (Ls := #[.val (.ref s), .val (.int (0 : Int32)), .val (.int (2 : Int32)), .unset, .unset]) hw pn35 (fun mid => by first | (simp [entryFrame, mkF, argsToLocals, Value.category, Jvm.Ow.Bd.ml, B35]; done) | rfl) (Go.old fun hle' => ?_)
  have hle := hle'.1
  refine Go.iloadN 1 rfl d35_0 rfl ?_
  refine Go.iloadN 2 rfl d35_1 rfl ?_
  refine Go.iadd 3 rfl d35_2 ?_
  refine Go.eqI (w := (2 : Int32)) (by decide) ?_
  refine Go.istoreN 4 rfl d35_3 (Ls' := #[.val (.ref s), .val (.int (0 : Int32)), .val (.int (2 : Int32)), .val (.int (2 : Int32)), .unset]) rfl ?_
  refine Go.iloadN 5 rfl d35_4 rfl ?_
  refine Go.istore 7 rfl d35_5 (Ls' := #[.val (.ref s), .val (.int (0 : Int32)), .val (.int (2 : Int32)), .val (.int (2 : Int32)), .val (.int (0 : Int32))]) rfl ?_
  refine Go.iload 9 rfl d35_7 rfl ?_
  refine Go.iloadN 10 rfl d35_9 rfl ?_
  refine Go.icmp_ge 31 13 d35_10 (by decide) rfl rfl (fun (b101 : ¬ (0 : Int32) < (2 : Int32)) => ?_) (fun (b101 : (0 : Int32) < (2 : Int32)) => ?_)
  · exact absurd (show (0 : Int32) < (2 : Int32) from (by decide)) b101
  · refine Go.aloadN 14 rfl d35_13 rfl rfl ?_
    refine Go.iload 16 rfl d35_14 rfl ?_
    refine Go.baload 17 rfl b0 d35_16 hA 0 rfl rfl ?_
    refine Go.if_ge 25 20 d35_17 (by decide) rfl rfl (fun (b102 : ¬ b0 < 0) => ?_) (fun (b102 : b0 < 0) => ?_)
    · exact absurd (show b0 < 0 from g0) b102
    · refine Go.iload 22 rfl d35_20 rfl ?_
      refine Go.iloadN 23 rfl d35_22 rfl ?_
      refine Go.isub 24 rfl d35_23 ?_
      refine Go.eqI (w := (0 : Int32)) (by decide) ?_
      exact Go.retI d35_24 rfl (by decide) (by decide) ⟨rfl, rfl⟩
def Q351a (h0 : Heap) (v : Option Value) (h : Heap) : Prop := v = some (.int 1) ∧ h0 = h
theorem c351a (Z : State) (hw : Wd Z tables_1) (h0 : Heap) (s : Addr)  (b0 : Int32) (g0 : ¬ b0 < 0) (hA : Ary Z h0 s .byte [.int b0]) : Con Z B35 (List.toArray [.ref s, .int (0 : Int32), .int (1 : Int32)]) h0 (Q351a h0) := by
  refine Con.mk (Ls := #[.val (.ref s), .val (.int (0 : Int32)), .val (.int (1 : Int32)), .unset, .unset]) hw pn35 (fun mid => by first | (simp [entryFrame, mkF, argsToLocals, Value.category, Jvm.Ow.Bd.ml, B35]; done) | rfl) (Go.old fun hle' => ?_)
  have hle := hle'.1
  refine Go.iloadN 1 rfl d35_0 rfl ?_
  refine Go.iloadN 2 rfl d35_1 rfl ?_
  refine Go.iadd 3 rfl d35_2 ?_
  refine Go.eqI (w := (1 : Int32)) (by decide) ?_
  refine Go.istoreN 4 rfl d35_3 (Ls' := #[.val (.ref s), .val (.int (0 : Int32)), .val (.int (1 : Int32)), .val (.int (1 : Int32)), .unset]) rfl ?_
  refine Go.iloadN 5 rfl d35_4 rfl ?_
  refine Go.istore 7 rfl d35_5 (Ls' := #[.val (.ref s), .val (.int (0 : Int32)), .val (.int (1 : Int32)), .val (.int (1 : Int32)), .val (.int (0 : Int32))]) rfl ?_
  refine Go.iload 9 rfl d35_7 rfl ?_
  refine Go.iloadN 10 rfl d35_9 rfl ?_
  refine Go.icmp_ge 31 13 d35_10 (by decide) rfl rfl (fun (b101 : ¬ (0 : Int32) < (1 : Int32)) => ?_) (fun (b101 : (0 : Int32) < (1 : Int32)) => ?_)
  · exact absurd (show (0 : Int32) < (1 : Int32) from (by decide)) b101
  · refine Go.aloadN 14 rfl d35_13 rfl rfl ?_
    refine Go.iload 16 rfl d35_14 rfl ?_
    refine Go.baload 17 rfl b0 d35_16 hA 0 rfl rfl ?_
    refine Go.if_ge 25 20 d35_17 (by decide) rfl rfl (fun (b102 : ¬ b0 < 0) => ?_) (fun (b102 : b0 < 0) => ?_)
    · refine Go.iinc 28 rfl (1 : Int32) d35_25 rfl rfl (Ls' := #[.val (.ref s), .val (.int (0 : Int32)), .val (.int (1 : Int32)), .val (.int (1 : Int32)), .val (.int ((0 : Int32) + (1 : Int32)))]) rfl ?_
      refine Go.goto 7 d35_28 (by decide) (by decide) ?_
      refine Go.iload 9 rfl d35_7 rfl ?_
      refine Go.iloadN 10 rfl d35_9 rfl ?_
      refine Go.icmp_ge 31 13 d35_10 (by decide) rfl rfl (fun (b103 : ¬ ((0 : Int32) + (1 : Int32)) < (1 : Int32)) => ?_) (fun (b103 : ((0 : Int32) + (1 : Int32)) < (1 : Int32)) => ?_)
      · refine Go.iloadN 32 rfl d35_31 rfl ?_
        exact Go.retI d35_32 rfl (by decide) (by decide) ⟨rfl, rfl⟩
      · exact absurd b103 (show ¬ ((0 : Int32) + (1 : Int32)) < (1 : Int32) from (by decide))
    · exact absurd b102 (show ¬ b0 < 0 from g0)
def Q351c (h0 : Heap) (v : Option Value) (h : Heap) : Prop := v = some (.int 0) ∧ h0 = h
theorem c351c (Z : State) (hw : Wd Z tables_1) (h0 : Heap) (s : Addr)  (b0 : Int32) (g0 : b0 < 0) (hA : Ary Z h0 s .byte [.int b0]) : Con Z B35 (List.toArray [.ref s, .int (0 : Int32), .int (1 : Int32)]) h0 (Q351c h0) := by
  refine Con.mk (Ls := #[.val (.ref s), .val (.int (0 : Int32)), .val (.int (1 : Int32)), .unset, .unset]) hw pn35 (fun mid => by first | (simp [entryFrame, mkF, argsToLocals, Value.category, Jvm.Ow.Bd.ml, B35]; done) | rfl) (Go.old fun hle' => ?_)
  have hle := hle'.1
  refine Go.iloadN 1 rfl d35_0 rfl ?_
  refine Go.iloadN 2 rfl d35_1 rfl ?_
  refine Go.iadd 3 rfl d35_2 ?_
  refine Go.eqI (w := (1 : Int32)) (by decide) ?_
  refine Go.istoreN 4 rfl d35_3 (Ls' := #[.val (.ref s), .val (.int (0 : Int32)), .val (.int (1 : Int32)), .val (.int (1 : Int32)), .unset]) rfl ?_
  refine Go.iloadN 5 rfl d35_4 rfl ?_
  refine Go.istore 7 rfl d35_5 (Ls' := #[.val (.ref s), .val (.int (0 : Int32)), .val (.int (1 : Int32)), .val (.int (1 : Int32)), .val (.int (0 : Int32))]) rfl ?_
  refine Go.iload 9 rfl d35_7 rfl ?_
  refine Go.iloadN 10 rfl d35_9 rfl ?_
  refine Go.icmp_ge 31 13 d35_10 (by decide) rfl rfl (fun (b101 : ¬ (0 : Int32) < (1 : Int32)) => ?_) (fun (b101 : (0 : Int32) < (1 : Int32)) => ?_)
  · exact absurd (show (0 : Int32) < (1 : Int32) from (by decide)) b101
  · refine Go.aloadN 14 rfl d35_13 rfl rfl ?_
    refine Go.iload 16 rfl d35_14 rfl ?_
    refine Go.baload 17 rfl b0 d35_16 hA 0 rfl rfl ?_
    refine Go.if_ge 25 20 d35_17 (by decide) rfl rfl (fun (b102 : ¬ b0 < 0) => ?_) (fun (b102 : b0 < 0) => ?_)
    · exact absurd (show b0 < 0 from g0) b102
    · refine Go.iload 22 rfl d35_20 rfl ?_
      refine Go.iloadN 23 rfl d35_22 rfl ?_
      refine Go.isub 24 rfl d35_23 ?_
      refine Go.eqI (w := (0 : Int32)) (by decide) ?_
      exact Go.retI d35_24 rfl (by decide) (by decide) ⟨rfl, rfl⟩
theorem d27_0 : decode jdk_65_method_133_code 0 = .ok (.iload_n 1, 1) := by decide +kernel
theorem d27_1 : decode jdk_65_method_133_code 1 = .ok (.iload_n 2, 1) := by decide +kernel
theorem d27_2 : decode jdk_65_method_133_code 2 = .ok (.invokestatic 343, 3) := by decide +kernel
theorem d27_5 : decode jdk_65_method_133_code 5 = .ok (.iload_n 2, 1) := by decide +kernel
theorem d27_6 : decode jdk_65_method_133_code 6 = .ok (.iload_n 1, 1) := by decide +kernel
theorem d27_7 : decode jdk_65_method_133_code 7 = .ok (.isub, 1) := by decide +kernel
theorem d27_8 : decode jdk_65_method_133_code 8 = .ok (.istore_n 3, 1) := by decide +kernel
theorem d27_9 : decode jdk_65_method_133_code 9 = .ok (.iload_n 3, 1) := by decide +kernel
theorem d27_10 : decode jdk_65_method_133_code 10 = .ok (.newarray .byte, 2) := by decide +kernel
theorem d27_12 : decode jdk_65_method_133_code 12 = .ok (.astore 4, 2) := by decide +kernel
theorem d27_14 : decode jdk_65_method_133_code 14 = .ok (.aload_n 0, 1) := by decide +kernel
theorem d27_15 : decode jdk_65_method_133_code 15 = .ok (.iload_n 1, 1) := by decide +kernel
theorem d27_16 : decode jdk_65_method_133_code 16 = .ok (.aload 4, 2) := by decide +kernel
theorem d27_18 : decode jdk_65_method_133_code 18 = .ok (.iconst 0, 1) := by decide +kernel
theorem d27_19 : decode jdk_65_method_133_code 19 = .ok (.aload_n 0, 1) := by decide +kernel
theorem d27_20 : decode jdk_65_method_133_code 20 = .ok (.arraylength, 1) := by decide +kernel
theorem d27_21 : decode jdk_65_method_133_code 21 = .ok (.iload_n 1, 1) := by decide +kernel
theorem d27_22 : decode jdk_65_method_133_code 22 = .ok (.isub, 1) := by decide +kernel
theorem d27_23 : decode jdk_65_method_133_code 23 = .ok (.iload_n 3, 1) := by decide +kernel
theorem d27_24 : decode jdk_65_method_133_code 24 = .ok (.invokestatic 304, 3) := by decide +kernel
theorem d27_27 : decode jdk_65_method_133_code 27 = .ok (.invokestatic 150, 3) := by decide +kernel
theorem d27_30 : decode jdk_65_method_133_code 30 = .ok (.aload 4, 2) := by decide +kernel
theorem d27_32 : decode jdk_65_method_133_code 32 = .ok (.areturn, 1) := by decide +kernel
theorem pd27 : parseMethodDescriptor "([BII)[B" = some ⟨[(.array .byte), .int, .int], some (.array .byte)⟩ := by decide +kernel
theorem pn27 : plainFor (⟨"java/util/Arrays", "copyOfRangeByte", "([BII)[B"⟩ : MethodName) = true := by first | (refine plainFor_of_name ?_; simp [plainName, overriddenIn]; done) | (refine plainFor_of_name ?_; decide +kernel) | decide +kernel
abbrev B27 : Bd := ((⟨"java/util/Arrays", "copyOfRangeByte", "([BII)[B"⟩ : MethodName), jdk_65_method_133_code, 5, (some (.array .byte)), ({ frames := 1, cells := 1, slots := 10, locals := 18 } : Room), tables_1)
def Q27 (Z : State) (us : List Int32) (xn : Nat) (h0 : Heap) (v : Option Value) (h : Heap) : Prop := ∃ t, v = some (.ref t) ∧ h0.size ≤ t ∧ Keep h0 h [] ∧ Ary Z h t .byte (IL (us.take xn))
theorem c27 (Z : State) (hw : Wd Z tables_1) (h0 : Heap) (s : Addr) (x : Int32) (us : List Int32) (xn : Nat) (hx : x.toInt = xn) (hx9 : xn ≤ 10) (L : Int32) (hL : L.toInt = (IL us).length) (hlt : x < L) (hxl : xn ≤ us.length) (h0x : ¬ x < (0 : Int32)) (hA : Ary Z h0 s .byte (IL us)) : Con Z B27 (List.toArray [.ref s, .int (0 : Int32), .int x]) h0 (Q27 Z us xn h0) := by
  refine Con.mk (Ls := #[.val (.ref s), .val (.int (0 : Int32)), .val (.int x), .unset, .unset]) hw pn27 (fun mid => by first | (simp [entryFrame, mkF, argsToLocals, Value.category, Jvm.Ow.Bd.ml, B27]; done) | rfl) (Go.old fun hle' => ?_)
  have hle := hle'.1
  refine Go.iloadN 1 rfl d27_0 rfl ?_
  refine Go.iloadN 2 rfl d27_1 rfl ?_
  refine Go.callS 5 rfl (C := B28) [.int (0 : Int32), .int x] (rest := []) 163 164 158 165 (c28 Z hw h0 x h0x) d27_2 rfl rfl rfl rfl (by decide) pd28 rfl rfl rfl (W := 0) (lb rfl) (by decide) (by decide) (by decide) (by decide) fun v101 h102 q103 => ?_
  obtain ⟨rfl, rfl⟩ := q103
  refine Go.iloadN 6 rfl d27_5 rfl ?_
  refine Go.iloadN 7 rfl d27_6 rfl ?_
  refine Go.isub 8 rfl d27_7 ?_
  refine Go.eqI (w := x) (own_s0 _) ?_
  refine Go.istoreN 9 rfl d27_8 (Ls' := #[.val (.ref s), .val (.int (0 : Int32)), .val (.int x), .val (.int x), .unset]) rfl ?_
  refine Go.iloadN 10 rfl d27_9 rfl ?_
  refine Go.newA 12 rfl 4 10 xn d27_10 rfl hx hx9 (by decide) (by decide) (by decide) fun h105 a104 g106 z107 K108 A109 E110 => ?_
  have A111 : Ary Z h105 a104 .byte (List.replicate xn (.int 0)) := A109
  refine Go.astore 14 rfl d27_12 rfl (Ls' := #[.val (.ref s), .val (.int (0 : Int32)), .val (.int x), .val (.int x), .val (.ref a104)]) rfl ?_
  refine Go.aloadN 15 rfl d27_14 rfl rfl ?_
  refine Go.iloadN 16 rfl d27_15 rfl ?_
  refine Go.aload 18 rfl d27_16 rfl rfl ?_
  refine Go.iconst 19 rfl (0 : Int32) d27_18 rfl ?_
  refine Go.aloadN 20 rfl d27_19 rfl rfl ?_
  have F112 : Ary Z h105 s .byte (IL us) := (hA.keep K108 nin0)
  refine Go.alen 21 rfl L d27_20 F112 hL ?_
  refine Go.iloadN 22 rfl d27_21 rfl ?_
  refine Go.isub 23 rfl d27_22 ?_
  refine Go.eqI (w := L) (own_s0 _) ?_
  refine Go.iloadN 24 rfl d27_23 rfl ?_
  refine Go.callS 27 rfl (C := B29) [.int L, .int x] (rest := [.int (0 : Int32), .ref a104, .int (0 : Int32), .ref s]) 166 167 168 169 (c29 Z hw h105 L x hlt) d27_24 rfl rfl rfl rfl (by decide) pd29 rfl rfl rfl (W := 4) (lb rfl) (by decide) (by decide) (by decide) (by decide) fun v113 h114 q115 => ?_
  obtain ⟨rfl, rfl⟩ := q115
  refine Go.acopy 30 rfl (IL (us.take xn)) 170 124 122 123 d27_27 rfl rfl rfl rfl rfl F112 A111 0 0 xn rfl rfl hx (by rw [IL.len]; omega) (by simp) (own_tk us) z107 rfl (by decide) (W := 0) (lb rfl) (by decide) fun h116 K117 A118 => ?_
  refine Go.aload 32 rfl d27_30 rfl rfl ?_
  exact Go.retA d27_32 rfl rfl rfl (by decide) (by decide) ⟨a104, rfl, Nat.le_of_eq g106.symm, (((Keep.refl h0 []).trans K108 all0).trans K117 (allS (Or.inr (Nat.le_of_eq g106.symm)) all0)), A118⟩
theorem d26_0 : decode jdk_65_method_132_code 0 = .ok (.iload_n 1, 1) := by decide +kernel
theorem d26_1 : decode jdk_65_method_132_code 1 = .ok (.ifCond .ne 9, 3) := by decide +kernel
theorem d26_4 : decode jdk_65_method_132_code 4 = .ok (.iload_n 2, 1) := by decide +kernel
theorem d26_5 : decode jdk_65_method_132_code 5 = .ok (.aload_n 0, 1) := by decide +kernel
theorem d26_6 : decode jdk_65_method_132_code 6 = .ok (.arraylength, 1) := by decide +kernel
theorem d26_7 : decode jdk_65_method_132_code 7 = .ok (.if_icmp .eq 10, 3) := by decide +kernel
theorem d26_10 : decode jdk_65_method_132_code 10 = .ok (.aload_n 0, 1) := by decide +kernel
theorem d26_11 : decode jdk_65_method_132_code 11 = .ok (.iload_n 1, 1) := by decide +kernel
theorem d26_12 : decode jdk_65_method_132_code 12 = .ok (.iload_n 2, 1) := by decide +kernel
theorem d26_13 : decode jdk_65_method_132_code 13 = .ok (.invokestatic 339, 3) := by decide +kernel
theorem d26_16 : decode jdk_65_method_132_code 16 = .ok (.areturn, 1) := by decide +kernel
theorem d26_17 : decode jdk_65_method_132_code 17 = .ok (.aload_n 0, 1) := by decide +kernel
theorem d26_18 : decode jdk_65_method_132_code 18 = .ok (.invokevirtual 310, 3) := by decide +kernel
theorem d26_21 : decode jdk_65_method_132_code 21 = .ok (.checkcast 311, 3) := by decide +kernel
theorem d26_24 : decode jdk_65_method_132_code 24 = .ok (.areturn, 1) := by decide +kernel
theorem pd26 : parseMethodDescriptor "([BII)[B" = some ⟨[(.array .byte), .int, .int], some (.array .byte)⟩ := by decide +kernel
theorem pn26 : plainFor (⟨"java/util/Arrays", "copyOfRange", "([BII)[B"⟩ : MethodName) = true := by first | (refine plainFor_of_name ?_; simp [plainName, overriddenIn]; done) | (refine plainFor_of_name ?_; decide +kernel) | decide +kernel
abbrev B26 : Bd := ((⟨"java/util/Arrays", "copyOfRange", "([BII)[B"⟩ : MethodName), jdk_65_method_132_code, 3, (some (.array .byte)), ({ frames := 2, cells := 1, slots := 10, locals := 34 } : Room), tables_1)
def Q26p (Z : State) (us : List Int32) (xn : Nat) (h0 : Heap) (v : Option Value) (h : Heap) : Prop := ∃ t, v = some (.ref t) ∧ h0.size ≤ t ∧ Keep h0 h [] ∧ Ary Z h t .byte (IL (us.take xn))
theorem c26p (Z : State) (hw : Wd Z tables_1) (h0 : Heap) (s : Addr) (x : Int32) (us : List Int32) (xn : Nat) (hx : x.toInt = xn) (hx9 : xn ≤ 10) (L : Int32) (hL : L.toInt = (IL us).length) (hlt : x < L) (hxl : xn ≤ us.length) (h0x : ¬ x < (0 : Int32)) (hA : Ary Z h0 s .byte (IL us)) : Con Z B26 (List.toArray [.ref s, .int (0 : Int32), .int x]) h0 (Q26p Z us xn h0) := by
  refine Con.mk (Ls := #[.val (.ref s), .val (.int (0 : Int32)), .val (.int x)]) hw pn26 (fun mid => by first | (simp [entryFrame, mkF, argsToLocals, Value.category, Jvm.Ow.Bd.ml, B26]; done) | rfl) (Go.old fun hle' => ?_)
  have hle := hle'.1
  refine Go.iloadN 1 rfl d26_0 rfl ?_
  refine Go.if_ne 10 4 d26_1 (by decide) rfl rfl (fun (b101 : ¬ (0 : Int32) = 0) => ?_) (fun (b101 : (0 : Int32) = 0) => ?_)
  · exact absurd (show (0 : Int32) = 0 from (by decide)) b101
  · refine Go.iloadN 5 rfl d26_4 rfl ?_
    refine Go.aloadN 6 rfl d26_5 rfl rfl ?_
    refine Go.alen 7 rfl L d26_6 hA hL ?_
    refine Go.icmp_eq 17 10 d26_7 (by decide) rfl rfl (fun (b102 : x = L) => ?_) (fun (b102 : ¬ x = L) => ?_)
    · exact absurd b102 (show ¬ x = L from (own_ltne hlt))
    · refine Go.aloadN 11 rfl d26_10 rfl rfl ?_
      refine Go.iloadN 12 rfl d26_11 rfl ?_
      refine Go.iloadN 13 rfl d26_12 rfl ?_
      refine Go.callS 16 rfl (C := B27) [.ref s, .int (0 : Int32), .int x] (rest := []) 160 161 158 162 (c27 Z hw h0 s x us xn hx hx9 L hL hlt hxl h0x hA) d26_13 rfl rfl rfl rfl (by decide) pd27 rfl rfl rfl (W := 0) (lb rfl) (by decide) (by decide) (by decide) (by decide) fun v103 h104 q105 => ?_
      obtain ⟨t, rfl, g, K, A⟩ := q105
      exact Go.retA d26_16 rfl rfl rfl (by decide) (by decide) ⟨t, rfl, g, K, A⟩
def Q26w (Z : State) (vs : List Value) (h0 : Heap) (v : Option Value) (h : Heap) : Prop := ∃ t, v = some (.ref t) ∧ h0.size ≤ t ∧ Keep h0 h [] ∧ Ary Z h t .byte vs
theorem c26w (Z : State) (hw : Wd Z tables_1) (h0 : Heap) (s : Addr) (x : Int32) (vs : List Value) (hl : x.toInt = vs.length) (hv : vs.length ≤ 5) (hA : Ary Z h0 s .byte vs) (hE : Exa Z h0 s "[B") : Con Z B26 (List.toArray [.ref s, .int (0 : Int32), .int x]) h0 (Q26w Z vs h0) := by
  refine Con.mk (Ls := #[.val (.ref s), .val (.int (0 : Int32)), .val (.int x)]) hw pn26 (fun mid => by first | (simp [entryFrame, mkF, argsToLocals, Value.category, Jvm.Ow.Bd.ml, B26]; done) | rfl) (Go.old fun hle' => ?_)
  have hle := hle'.1
  refine Go.iloadN 1 rfl d26_0 rfl ?_
  refine Go.if_ne 10 4 d26_1 (by decide) rfl rfl (fun (b101 : ¬ (0 : Int32) = 0) => ?_) (fun (b101 : (0 : Int32) = 0) => ?_)
  · exact absurd (show (0 : Int32) = 0 from (by decide)) b101
  · refine Go.iloadN 5 rfl d26_4 rfl ?_
    refine Go.aloadN 6 rfl d26_5 rfl rfl ?_
    refine Go.alen 7 rfl x d26_6 hA hl ?_
    refine Go.icmp_eq 17 10 d26_7 (by decide) rfl rfl (fun (b102 : x = x) => ?_) (fun (b102 : ¬ x = x) => ?_)
    · refine Go.aloadN 18 rfl d26_17 rfl rfl ?_
      refine Go.clone 21 rfl 5 200 201 205 203 204 206 d26_18 rfl rfl rfl rfl rfl rfl hA hE rfl (by decide) (W := 0) (lb rfl) (by decide) hv (by decide) (by decide) fun h104 a103 g105 z106 K107 A108 E109 => ?_
      refine Go.castY 24 rfl 207 d26_21 rfl (Ins.self E109) ?_
      exact Go.retA d26_24 rfl rfl rfl (by decide) (by decide) ⟨a103, rfl, Nat.le_of_eq g105.symm, ((Keep.refl h0 []).trans K107 all0), A108⟩
    · exact absurd (show x = x from rfl) b102
theorem d45_0 : decode jdk_42_method_38_code 0 = .ok (.iload_n 1, 1) := by decide +kernel
theorem d45_1 : decode jdk_42_method_38_code 1 = .ok (.iload_n 2, 1) := by decide +kernel
theorem d45_2 : decode jdk_42_method_38_code 2 = .ok (.if_icmp .ge 619, 3) := by decide +kernel
theorem d45_5 : decode jdk_42_method_38_code 5 = .ok (.aload_n 0, 1) := by decide +kernel
theorem d45_6 : decode jdk_42_method_38_code 6 = .ok (.iload_n 1, 1) := by decide +kernel
theorem d45_7 : decode jdk_42_method_38_code 7 = .ok (.iinc 1 1, 3) := by decide +kernel
theorem d45_10 : decode jdk_42_method_38_code 10 = .ok (.baload, 1) := by decide +kernel
theorem d45_11 : decode jdk_42_method_38_code 11 = .ok (.istore 6, 2) := by decide +kernel
theorem d45_13 : decode jdk_42_method_38_code 13 = .ok (.iload 6, 2) := by decide +kernel
theorem d45_15 : decode jdk_42_method_38_code 15 = .ok (.ifCond .lt 18, 3) := by decide +kernel
theorem d45_18 : decode jdk_42_method_38_code 18 = .ok (.aload_n 3, 1) := by decide +kernel
theorem d45_19 : decode jdk_42_method_38_code 19 = .ok (.iload 4, 2) := by decide +kernel
theorem d45_21 : decode jdk_42_method_38_code 21 = .ok (.iinc 4 1, 3) := by decide +kernel
theorem d45_24 : decode jdk_42_method_38_code 24 = .ok (.iload 6, 2) := by decide +kernel
theorem d45_26 : decode jdk_42_method_38_code 26 = .ok (.i2c, 1) := by decide +kernel
theorem d45_27 : decode jdk_42_method_38_code 27 = .ok (.invokestatic 64, 3) := by decide +kernel
theorem d45_30 : decode jdk_42_method_38_code 30 = .ok (.goto 588, 3) := by decide +kernel
theorem d45_33 : decode jdk_42_method_38_code 33 = .ok (.iload 6, 2) := by decide +kernel
theorem d45_35 : decode jdk_42_method_38_code 35 = .ok (.iconst 5, 1) := by decide +kernel
theorem d45_36 : decode jdk_42_method_38_code 36 = .ok (.ishr, 1) := by decide +kernel
theorem d45_37 : decode jdk_42_method_38_code 37 = .ok (.bipush (-2), 2) := by decide +kernel
theorem d45_39 : decode jdk_42_method_38_code 39 = .ok (.if_icmp .ne 104, 3) := by decide +kernel
theorem d45_42 : decode jdk_42_method_38_code 42 = .ok (.iload 6, 2) := by decide +kernel
theorem d45_44 : decode jdk_42_method_38_code 44 = .ok (.bipush 30, 2) := by decide +kernel
theorem d45_46 : decode jdk_42_method_38_code 46 = .ok (.iand, 1) := by decide +kernel
theorem d45_47 : decode jdk_42_method_38_code 47 = .ok (.ifCond .eq 96, 3) := by decide +kernel
theorem d45_50 : decode jdk_42_method_38_code 50 = .ok (.iload_n 1, 1) := by decide +kernel
theorem d45_51 : decode jdk_42_method_38_code 51 = .ok (.iload_n 2, 1) := by decide +kernel
theorem d45_52 : decode jdk_42_method_38_code 52 = .ok (.if_icmp .ge 67, 3) := by decide +kernel
theorem d45_55 : decode jdk_42_method_38_code 55 = .ok (.aload_n 0, 1) := by decide +kernel
theorem d45_56 : decode jdk_42_method_38_code 56 = .ok (.iload_n 1, 1) := by decide +kernel
theorem d45_57 : decode jdk_42_method_38_code 57 = .ok (.iinc 1 1, 3) := by decide +kernel
theorem d45_60 : decode jdk_42_method_38_code 60 = .ok (.baload, 1) := by decide +kernel
theorem d45_61 : decode jdk_42_method_38_code 61 = .ok (.istore 7, 2) := by decide +kernel
theorem d45_63 : decode jdk_42_method_38_code 63 = .ok (.iload 7, 2) := by decide +kernel
theorem d45_65 : decode jdk_42_method_38_code 65 = .ok (.invokestatic 385, 3) := by decide +kernel
theorem d45_68 : decode jdk_42_method_38_code 68 = .ok (.ifCond .eq 32, 3) := by decide +kernel
theorem d45_71 : decode jdk_42_method_38_code 71 = .ok (.iload 5, 2) := by decide +kernel
theorem d45_73 : decode jdk_42_method_38_code 73 = .ok (.ifCond .ne 10, 3) := by decide +kernel
theorem d45_83 : decode jdk_42_method_38_code 83 = .ok (.aload_n 3, 1) := by decide +kernel
theorem d45_84 : decode jdk_42_method_38_code 84 = .ok (.iload 4, 2) := by decide +kernel
theorem d45_86 : decode jdk_42_method_38_code 86 = .ok (.iinc 4 1, 3) := by decide +kernel
theorem d45_89 : decode jdk_42_method_38_code 89 = .ok (.ldc 132, 2) := by decide +kernel
theorem d45_91 : decode jdk_42_method_38_code 91 = .ok (.invokestatic 64, 3) := by decide +kernel
theorem d45_94 : decode jdk_42_method_38_code 94 = .ok (.iinc 1 (-1), 3) := by decide +kernel
theorem d45_97 : decode jdk_42_method_38_code 97 = .ok (.goto (-97), 3) := by decide +kernel
theorem d45_119 : decode jdk_42_method_38_code 119 = .ok (.iload 5, 2) := by decide +kernel
theorem d45_121 : decode jdk_42_method_38_code 121 = .ok (.ifCond .ne 8, 3) := by decide +kernel
theorem d45_129 : decode jdk_42_method_38_code 129 = .ok (.aload_n 3, 1) := by decide +kernel
theorem d45_130 : decode jdk_42_method_38_code 130 = .ok (.iload 4, 2) := by decide +kernel
theorem d45_132 : decode jdk_42_method_38_code 132 = .ok (.iinc 4 1, 3) := by decide +kernel
theorem d45_135 : decode jdk_42_method_38_code 135 = .ok (.ldc 132, 2) := by decide +kernel
theorem d45_137 : decode jdk_42_method_38_code 137 = .ok (.invokestatic 64, 3) := by decide +kernel
theorem d45_140 : decode jdk_42_method_38_code 140 = .ok (.goto 481, 3) := by decide +kernel
theorem d45_143 : decode jdk_42_method_38_code 143 = .ok (.iload 6, 2) := by decide +kernel
theorem d45_145 : decode jdk_42_method_38_code 145 = .ok (.iconst 4, 1) := by decide +kernel
theorem d45_146 : decode jdk_42_method_38_code 146 = .ok (.ishr, 1) := by decide +kernel
theorem d45_147 : decode jdk_42_method_38_code 147 = .ok (.bipush (-2), 2) := by decide +kernel
theorem d45_149 : decode jdk_42_method_38_code 149 = .ok (.if_icmp .ne 200, 3) := by decide +kernel
theorem d45_152 : decode jdk_42_method_38_code 152 = .ok (.iload_n 1, 1) := by decide +kernel
theorem d45_153 : decode jdk_42_method_38_code 153 = .ok (.iconst 1, 1) := by decide +kernel
theorem d45_154 : decode jdk_42_method_38_code 154 = .ok (.iadd, 1) := by decide +kernel
theorem d45_155 : decode jdk_42_method_38_code 155 = .ok (.iload_n 2, 1) := by decide +kernel
theorem d45_156 : decode jdk_42_method_38_code 156 = .ok (.if_icmp .ge 127, 3) := by decide +kernel
theorem d45_283 : decode jdk_42_method_38_code 283 = .ok (.iload_n 1, 1) := by decide +kernel
theorem d45_284 : decode jdk_42_method_38_code 284 = .ok (.iload_n 2, 1) := by decide +kernel
theorem d45_285 : decode jdk_42_method_38_code 285 = .ok (.if_icmp .ge 40, 3) := by decide +kernel
theorem d45_288 : decode jdk_42_method_38_code 288 = .ok (.iload 6, 2) := by decide +kernel
theorem d45_290 : decode jdk_42_method_38_code 290 = .ok (.aload_n 0, 1) := by decide +kernel
theorem d45_291 : decode jdk_42_method_38_code 291 = .ok (.iload_n 1, 1) := by decide +kernel
theorem d45_292 : decode jdk_42_method_38_code 292 = .ok (.baload, 1) := by decide +kernel
theorem d45_293 : decode jdk_42_method_38_code 293 = .ok (.invokestatic 407, 3) := by decide +kernel
theorem d45_296 : decode jdk_42_method_38_code 296 = .ok (.ifCond .eq 29, 3) := by decide +kernel
theorem d45_299 : decode jdk_42_method_38_code 299 = .ok (.iload 5, 2) := by decide +kernel
theorem d45_301 : decode jdk_42_method_38_code 301 = .ok (.ifCond .ne 10, 3) := by decide +kernel
theorem d45_311 : decode jdk_42_method_38_code 311 = .ok (.aload_n 3, 1) := by decide +kernel
theorem d45_312 : decode jdk_42_method_38_code 312 = .ok (.iload 4, 2) := by decide +kernel
theorem d45_314 : decode jdk_42_method_38_code 314 = .ok (.iinc 4 1, 3) := by decide +kernel
theorem d45_317 : decode jdk_42_method_38_code 317 = .ok (.ldc 132, 2) := by decide +kernel
theorem d45_319 : decode jdk_42_method_38_code 319 = .ok (.invokestatic 64, 3) := by decide +kernel
theorem d45_322 : decode jdk_42_method_38_code 322 = .ok (.goto (-322), 3) := by decide +kernel
theorem d45_325 : decode jdk_42_method_38_code 325 = .ok (.iload 5, 2) := by decide +kernel
theorem d45_327 : decode jdk_42_method_38_code 327 = .ok (.ifCond .ne 8, 3) := by decide +kernel
theorem d45_335 : decode jdk_42_method_38_code 335 = .ok (.aload_n 3, 1) := by decide +kernel
theorem d45_336 : decode jdk_42_method_38_code 336 = .ok (.iload 4, 2) := by decide +kernel
theorem d45_338 : decode jdk_42_method_38_code 338 = .ok (.iinc 4 1, 3) := by decide +kernel
theorem d45_341 : decode jdk_42_method_38_code 341 = .ok (.ldc 132, 2) := by decide +kernel
theorem d45_343 : decode jdk_42_method_38_code 343 = .ok (.invokestatic 64, 3) := by decide +kernel
theorem d45_346 : decode jdk_42_method_38_code 346 = .ok (.goto 275, 3) := by decide +kernel
theorem d45_349 : decode jdk_42_method_38_code 349 = .ok (.iload 6, 2) := by decide +kernel
theorem d45_351 : decode jdk_42_method_38_code 351 = .ok (.iconst 3, 1) := by decide +kernel
theorem d45_352 : decode jdk_42_method_38_code 352 = .ok (.ishr, 1) := by decide +kernel
theorem d45_353 : decode jdk_42_method_38_code 353 = .ok (.bipush (-2), 2) := by decide +kernel
theorem d45_355 : decode jdk_42_method_38_code 355 = .ok (.if_icmp .ne 240, 3) := by decide +kernel
theorem d45_358 : decode jdk_42_method_38_code 358 = .ok (.iload_n 1, 1) := by decide +kernel
theorem d45_359 : decode jdk_42_method_38_code 359 = .ok (.iconst 2, 1) := by decide +kernel
theorem d45_360 : decode jdk_42_method_38_code 360 = .ok (.iadd, 1) := by decide +kernel
theorem d45_361 : decode jdk_42_method_38_code 361 = .ok (.iload_n 2, 1) := by decide +kernel
theorem d45_362 : decode jdk_42_method_38_code 362 = .ok (.if_icmp .ge 128, 3) := by decide +kernel
theorem d45_490 : decode jdk_42_method_38_code 490 = .ok (.iload 6, 2) := by decide +kernel
theorem d45_492 : decode jdk_42_method_38_code 492 = .ok (.sipush 255, 3) := by decide +kernel
theorem d45_495 : decode jdk_42_method_38_code 495 = .ok (.iand, 1) := by decide +kernel
theorem d45_496 : decode jdk_42_method_38_code 496 = .ok (.istore 6, 2) := by decide +kernel
theorem d45_498 : decode jdk_42_method_38_code 498 = .ok (.iload 6, 2) := by decide +kernel
theorem d45_500 : decode jdk_42_method_38_code 500 = .ok (.sipush 244, 3) := by decide +kernel
theorem d45_503 : decode jdk_42_method_38_code 503 = .ok (.if_icmp .gt 23, 3) := by decide +kernel
theorem d45_506 : decode jdk_42_method_38_code 506 = .ok (.iload_n 1, 1) := by decide +kernel
theorem d45_507 : decode jdk_42_method_38_code 507 = .ok (.iload_n 2, 1) := by decide +kernel
theorem d45_508 : decode jdk_42_method_38_code 508 = .ok (.if_icmp .ge 44, 3) := by decide +kernel
theorem d45_511 : decode jdk_42_method_38_code 511 = .ok (.iload 6, 2) := by decide +kernel
theorem d45_513 : decode jdk_42_method_38_code 513 = .ok (.aload_n 0, 1) := by decide +kernel
theorem d45_514 : decode jdk_42_method_38_code 514 = .ok (.iload_n 1, 1) := by decide +kernel
theorem d45_515 : decode jdk_42_method_38_code 515 = .ok (.baload, 1) := by decide +kernel
theorem d45_516 : decode jdk_42_method_38_code 516 = .ok (.sipush 255, 3) := by decide +kernel
theorem d45_519 : decode jdk_42_method_38_code 519 = .ok (.iand, 1) := by decide +kernel
theorem d45_520 : decode jdk_42_method_38_code 520 = .ok (.invokestatic 431, 3) := by decide +kernel
theorem d45_523 : decode jdk_42_method_38_code 523 = .ok (.ifCond .eq 29, 3) := by decide +kernel
theorem d45_526 : decode jdk_42_method_38_code 526 = .ok (.iload 5, 2) := by decide +kernel
theorem d45_528 : decode jdk_42_method_38_code 528 = .ok (.ifCond .ne 10, 3) := by decide +kernel
theorem d45_538 : decode jdk_42_method_38_code 538 = .ok (.aload_n 3, 1) := by decide +kernel
theorem d45_539 : decode jdk_42_method_38_code 539 = .ok (.iload 4, 2) := by decide +kernel
theorem d45_541 : decode jdk_42_method_38_code 541 = .ok (.iinc 4 1, 3) := by decide +kernel
theorem d45_544 : decode jdk_42_method_38_code 544 = .ok (.ldc 132, 2) := by decide +kernel
theorem d45_546 : decode jdk_42_method_38_code 546 = .ok (.invokestatic 64, 3) := by decide +kernel
theorem d45_549 : decode jdk_42_method_38_code 549 = .ok (.goto (-549), 3) := by decide +kernel
theorem d45_552 : decode jdk_42_method_38_code 552 = .ok (.iload 5, 2) := by decide +kernel
theorem d45_554 : decode jdk_42_method_38_code 554 = .ok (.ifCond .ne 10, 3) := by decide +kernel
theorem d45_564 : decode jdk_42_method_38_code 564 = .ok (.iinc 1 1, 3) := by decide +kernel
theorem d45_567 : decode jdk_42_method_38_code 567 = .ok (.aload_n 3, 1) := by decide +kernel
theorem d45_568 : decode jdk_42_method_38_code 568 = .ok (.iload 4, 2) := by decide +kernel
theorem d45_570 : decode jdk_42_method_38_code 570 = .ok (.iinc 4 1, 3) := by decide +kernel
theorem d45_573 : decode jdk_42_method_38_code 573 = .ok (.ldc 132, 2) := by decide +kernel
theorem d45_575 : decode jdk_42_method_38_code 575 = .ok (.invokestatic 64, 3) := by decide +kernel
theorem d45_578 : decode jdk_42_method_38_code 578 = .ok (.iload_n 1, 1) := by decide +kernel
theorem d45_579 : decode jdk_42_method_38_code 579 = .ok (.iload_n 2, 1) := by decide +kernel
theorem d45_580 : decode jdk_42_method_38_code 580 = .ok (.if_icmp .ge 41, 3) := by decide +kernel
theorem d45_595 : decode jdk_42_method_38_code 595 = .ok (.iload 5, 2) := by decide +kernel
theorem d45_597 : decode jdk_42_method_38_code 597 = .ok (.ifCond .ne 10, 3) := by decide +kernel
theorem d45_607 : decode jdk_42_method_38_code 607 = .ok (.aload_n 3, 1) := by decide +kernel
theorem d45_608 : decode jdk_42_method_38_code 608 = .ok (.iload 4, 2) := by decide +kernel
theorem d45_610 : decode jdk_42_method_38_code 610 = .ok (.iinc 4 1, 3) := by decide +kernel
theorem d45_613 : decode jdk_42_method_38_code 613 = .ok (.ldc 132, 2) := by decide +kernel
theorem d45_615 : decode jdk_42_method_38_code 615 = .ok (.invokestatic 64, 3) := by decide +kernel
theorem d45_618 : decode jdk_42_method_38_code 618 = .ok (.goto (-618), 3) := by decide +kernel
theorem d45_621 : decode jdk_42_method_38_code 621 = .ok (.iload 4, 2) := by decide +kernel
theorem d45_623 : decode jdk_42_method_38_code 623 = .ok (.ireturn, 1) := by decide +kernel
theorem pd45 : parseMethodDescriptor "([BII[BIZ)I" = some ⟨[(.array .byte), .int, .int, (.array .byte), .int, .boolean], some .int⟩ := by decide +kernel
theorem pn45 : plainFor (⟨"java/lang/String", "decodeUTF8_UTF16", "([BII[BIZ)I"⟩ : MethodName) = true := by first | (refine plainFor_of_name ?_; simp [plainName, overriddenIn]; done) | (refine plainFor_of_name ?_; decide +kernel) | decide +kernel
abbrev B45 : Bd := ((⟨"java/lang/String", "decodeUTF8_UTF16", "([BII[BIZ)I"⟩ : MethodName), jdk_42_method_38_code, 11, (some .int), ({ frames := 1, cells := 0, slots := 0, locals := 14 } : Room), tables_1)
def Q45d2V (Z : State) (t : Addr) (vd : List Int32) (yt : Int32) (h0 : Heap) (v : Option Value) (h : Heap) : Prop := v = some (.int 2) ∧ Keep h0 h [t] ∧ Ary Z h t .byte (IL (put (put vd 0 (65533 : Int32)) 1 yt))
theorem c45d2V (Z : State) (hw : Wd Z tables_1) (h0 : Heap) (s : Addr) (t : Addr) (vd : List Int32) (yt : Int32) (b0 : Int32) (b1 : Int32) (g : b0 < 0) (hp : ¬ b1 < 0) (hnc : ¬ (b1 &&& (192 : Int32)) = (128 : Int32)) (hnc2 : ¬ ((b1 &&& (255 : Int32)) &&& (192 : Int32)) = (128 : Int32)) (hyt : b1.toUInt32.toUInt16.toUInt32.toInt32 = yt) (hvl : vd.length = 4) (hAs : YAs Z) (hHi : YHi Z) (hLo : YLo Z) (hA : Ary Z h0 s .byte [.int b0, .int b1]) (hB : Ary Z h0 t .byte (IL vd)) (hgt : Z.heap.size ≤ t) (hne : s ≠ t) : Con Z B45 (List.toArray [.ref s, .int (0 : Int32), .int (2 : Int32), .ref t, .int (0 : Int32), .int (1 : Int32)]) h0 (Q45d2V Z t vd yt h0) := by
  refine Con.mk (Ls := #[.val (.ref s), .val (.int (0 : Int32)), .val (.int (2 : Int32)), .val (.ref t), .val (.int (0 : Int32)), .val (.int (1 : Int32)), .unset, .unset, .unset, .unset, .unset]) hw pn45 (fun mid => by first | (simp [entryFrame, mkF, argsToLocals, Value.category, Jvm.Ow.Bd.ml, B45]; done) | rfl) (Go.old fun hle' => ?_)
  have hle := hle'.1
  refine Go.iloadN 1 rfl d45_0 rfl ?_
  refine Go.iloadN 2 rfl d45_1 rfl ?_
  refine Go.icmp_ge 621 5 d45_2 (by decide) rfl rfl (fun (b101 : ¬ (0 : Int32) < (2 : Int32)) => ?_) (fun (b101 : (0 : Int32) < (2 : Int32)) => ?_)
  · exact absurd (show (0 : Int32) < (2 : Int32) from (by decide)) b101
  · refine Go.aloadN 6 rfl d45_5 rfl rfl ?_
    refine Go.iloadN 7 rfl d45_6 rfl ?_
    refine Go.iinc 10 rfl (1 : Int32) d45_7 rfl rfl (Ls' := #[.val (.ref s), .val (.int ((0 : Int32) + (1 : Int32))), .val (.int (2 : Int32)), .val (.ref t), .val (.int (0 : Int32)), .val (.int (1 : Int32)), .unset, .unset, .unset, .unset, .unset]) rfl ?_
    refine Go.baload 11 rfl b0 d45_10 hA 0 rfl rfl ?_
    refine Go.istore 13 rfl d45_11 (Ls' := #[.val (.ref s), .val (.int ((0 : Int32) + (1 : Int32))), .val (.int (2 : Int32)), .val (.ref t), .val (.int (0 : Int32)), .val (.int (1 : Int32)), .val (.int b0), .unset, .unset, .unset, .unset]) rfl ?_
    refine Go.iload 15 rfl d45_13 rfl ?_
    refine Go.if_lt 33 18 d45_15 (by decide) rfl rfl (fun (b102 : b0 < 0) => ?_) (fun (b102 : ¬ b0 < 0) => ?_)
    · refine Go.iload 35 rfl d45_33 rfl ?_
      refine Go.iconst 36 rfl (5 : Int32) d45_35 rfl ?_
      refine Go.ishr 37 rfl d45_36 ?_
      refine Go.bipush 39 rfl (-2 : Int32) d45_37 rfl ?_
      refine Go.jn (pcJ := 143) (LsJ := #[.val (.ref s), .val (.int ((0 : Int32) + (1 : Int32))), .val (.int (2 : Int32)), .val (.ref t), .val (.int (0 : Int32)), .val (.int (1 : Int32)), .val (.int b0), .unset, .unset, .unset, .unset]) (stJ := []) (fun J => ?_) ?_
      · refine Go.icmp_ne 143 42 d45_39 (by decide) rfl rfl (fun (b103 : ¬ (b0 >>> ((5 : Int32) &&& 31)) = (-2 : Int32)) => ?_) (fun (b103 : (b0 >>> ((5 : Int32) &&& 31)) = (-2 : Int32)) => ?_)
        · exact J
        · refine Go.iload 44 rfl d45_42 rfl ?_
          refine Go.bipush 46 rfl (30 : Int32) d45_44 rfl ?_
          refine Go.iand 47 rfl d45_46 ?_
          refine Go.if_eq 143 50 d45_47 (by decide) rfl rfl (fun (b104 : (b0 &&& (30 : Int32)) = 0) => ?_) (fun (b104 : ¬ (b0 &&& (30 : Int32)) = 0) => ?_)
          · exact J
          · refine Go.iloadN 51 rfl d45_50 rfl ?_
            refine Go.iloadN 52 rfl d45_51 rfl ?_
            refine Go.icmp_ge 119 55 d45_52 (by decide) rfl rfl (fun (b105 : ¬ ((0 : Int32) + (1 : Int32)) < (2 : Int32)) => ?_) (fun (b105 : ((0 : Int32) + (1 : Int32)) < (2 : Int32)) => ?_)
            · exact absurd (show ((0 : Int32) + (1 : Int32)) < (2 : Int32) from (by decide)) b105
            · refine Go.aloadN 56 rfl d45_55 rfl rfl ?_
              refine Go.iloadN 57 rfl d45_56 rfl ?_
              refine Go.iinc 60 rfl (1 : Int32) d45_57 rfl rfl (Ls' := #[.val (.ref s), .val (.int (((0 : Int32) + (1 : Int32)) + (1 : Int32))), .val (.int (2 : Int32)), .val (.ref t), .val (.int (0 : Int32)), .val (.int (1 : Int32)), .val (.int b0), .unset, .unset, .unset, .unset]) rfl ?_
              refine Go.baload 61 rfl b1 d45_60 hA 1 rfl rfl ?_
              refine Go.istore 63 rfl d45_61 (Ls' := #[.val (.ref s), .val (.int (((0 : Int32) + (1 : Int32)) + (1 : Int32))), .val (.int (2 : Int32)), .val (.ref t), .val (.int (0 : Int32)), .val (.int (1 : Int32)), .val (.int b0), .val (.int b1), .unset, .unset, .unset]) rfl ?_
              refine Go.iload 65 rfl d45_63 rfl ?_
              refine Go.callS 68 rfl (C := B52) [.int b1] (rest := []) 273 274 20 275 (c52 Z hw h0 b1 hnc) d45_65 rfl rfl rfl rfl (by decide) pd52 rfl rfl rfl (W := 0) (lb rfl) (by decide) (by decide) (by decide) (by decide) fun v106 h107 q108 => ?_
              obtain ⟨rfl, rfl⟩ := q108
              refine Go.if_eq 100 71 d45_68 (by decide) rfl rfl (fun (b109 : (1 : Int32) = 0) => ?_) (fun (b109 : ¬ (1 : Int32) = 0) => ?_)
              · exact absurd b109 (show ¬ (1 : Int32) = 0 from (by decide))
              · refine Go.iload 73 rfl d45_71 rfl ?_
                refine Go.if_ne 83 76 d45_73 (by decide) rfl rfl (fun (b110 : ¬ (1 : Int32) = 0) => ?_) (fun (b110 : (1 : Int32) = 0) => ?_)
                · refine Go.aloadN 84 rfl d45_83 rfl rfl ?_
                  refine Go.iload 86 rfl d45_84 rfl ?_
                  refine Go.iinc 89 rfl (1 : Int32) d45_86 rfl rfl (Ls' := #[.val (.ref s), .val (.int (((0 : Int32) + (1 : Int32)) + (1 : Int32))), .val (.int (2 : Int32)), .val (.ref t), .val (.int ((0 : Int32) + (1 : Int32))), .val (.int (1 : Int32)), .val (.int b0), .val (.int b1), .unset, .unset, .unset]) rfl ?_
                  refine Go.ldcI 91 rfl (v := (65533 : Int32)) 241 d45_89 rfl ?_
                  refine Go.callS 94 rfl (C := B46) [.ref t, .int (0 : Int32), .int (65533 : Int32)] (rest := []) 242 243 214 244 (c46 Z hw h0 t (0 : Int32) (65533 : Int32) vd 0 rfl (by decide) hAs hHi hLo hgt (by first | omega | (simp only [own_putl]; omega)) hB) d45_91 rfl rfl rfl rfl (by decide) pd46 rfl rfl rfl (W := 0) (lb rfl) (by decide) (by decide) (by decide) (by decide) fun v111 h112 q113 => ?_
                  obtain ⟨rfl, Kz3000, Az3000⟩ := q113
                  refine Go.iinc 97 rfl (-1 : Int32) d45_94 rfl rfl (Ls' := #[.val (.ref s), .val (.int ((((0 : Int32) + (1 : Int32)) + (1 : Int32)) + (-1 : Int32))), .val (.int (2 : Int32)), .val (.ref t), .val (.int ((0 : Int32) + (1 : Int32))), .val (.int (1 : Int32)), .val (.int b0), .val (.int b1), .unset, .unset, .unset]) rfl ?_
                  refine Go.goto 0 d45_97 (by decide) (by decide) ?_
                  refine Go.iloadN 1 rfl d45_0 rfl ?_
                  refine Go.iloadN 2 rfl d45_1 rfl ?_
                  refine Go.icmp_ge 621 5 d45_2 (by decide) rfl rfl (fun (b114 : ¬ ((((0 : Int32) + (1 : Int32)) + (1 : Int32)) + (-1 : Int32)) < (2 : Int32)) => ?_) (fun (b114 : ((((0 : Int32) + (1 : Int32)) + (1 : Int32)) + (-1 : Int32)) < (2 : Int32)) => ?_)
                  · exact absurd (show ((((0 : Int32) + (1 : Int32)) + (1 : Int32)) + (-1 : Int32)) < (2 : Int32) from (by decide)) b114
                  · refine Go.aloadN 6 rfl d45_5 rfl rfl ?_
                    refine Go.iloadN 7 rfl d45_6 rfl ?_
                    refine Go.iinc 10 rfl (1 : Int32) d45_7 rfl rfl (Ls' := #[.val (.ref s), .val (.int (((((0 : Int32) + (1 : Int32)) + (1 : Int32)) + (-1 : Int32)) + (1 : Int32))), .val (.int (2 : Int32)), .val (.ref t), .val (.int ((0 : Int32) + (1 : Int32))), .val (.int (1 : Int32)), .val (.int b0), .val (.int b1), .unset, .unset, .unset]) rfl ?_
                    have F115 : Ary Z h112 s .byte [.int b0, .int b1] := (hA.keep Kz3000 (ninS hne nin0))
                    refine Go.baload 11 rfl b1 d45_10 F115 1 rfl rfl ?_
                    refine Go.istore 13 rfl d45_11 (Ls' := #[.val (.ref s), .val (.int (((((0 : Int32) + (1 : Int32)) + (1 : Int32)) + (-1 : Int32)) + (1 : Int32))), .val (.int (2 : Int32)), .val (.ref t), .val (.int ((0 : Int32) + (1 : Int32))), .val (.int (1 : Int32)), .val (.int b1), .val (.int b1), .unset, .unset, .unset]) rfl ?_
                    refine Go.iload 15 rfl d45_13 rfl ?_
                    refine Go.if_lt 33 18 d45_15 (by decide) rfl rfl (fun (b116 : b1 < 0) => ?_) (fun (b116 : ¬ b1 < 0) => ?_)
                    · exact absurd b116 (show ¬ b1 < 0 from hp)
                    · refine Go.aloadN 19 rfl d45_18 rfl rfl ?_
                      refine Go.iload 21 rfl d45_19 rfl ?_
                      refine Go.iinc 24 rfl (1 : Int32) d45_21 rfl rfl (Ls' := #[.val (.ref s), .val (.int (((((0 : Int32) + (1 : Int32)) + (1 : Int32)) + (-1 : Int32)) + (1 : Int32))), .val (.int (2 : Int32)), .val (.ref t), .val (.int (((0 : Int32) + (1 : Int32)) + (1 : Int32))), .val (.int (1 : Int32)), .val (.int b1), .val (.int b1), .unset, .unset, .unset]) rfl ?_
                      refine Go.iload 26 rfl d45_24 rfl ?_
                      refine Go.i2c 27 rfl d45_26 ?_
                      refine Go.eqI (w := yt) hyt ?_
                      refine Go.callS 30 rfl (C := B46) [.ref t, .int ((0 : Int32) + (1 : Int32)), .int yt] (rest := []) 242 243 214 244 (c46 Z hw h112 t ((0 : Int32) + (1 : Int32)) yt (put vd 0 (65533 : Int32)) 1 rfl (by decide) hAs hHi hLo hgt (by first | omega | (simp only [own_putl]; omega)) Az3000) d45_27 rfl rfl rfl rfl (by decide) pd46 rfl rfl rfl (W := 0) (lb rfl) (by decide) (by decide) (by decide) (by decide) fun v117 h118 q119 => ?_
                      obtain ⟨rfl, Kz3001, Az3001⟩ := q119
                      refine Go.goto 618 d45_30 (by decide) (by decide) ?_
                      refine Go.goto 0 d45_618 (by decide) (by decide) ?_
                      refine Go.iloadN 1 rfl d45_0 rfl ?_
                      refine Go.iloadN 2 rfl d45_1 rfl ?_
                      refine Go.icmp_ge 621 5 d45_2 (by decide) rfl rfl (fun (b120 : ¬ (((((0 : Int32) + (1 : Int32)) + (1 : Int32)) + (-1 : Int32)) + (1 : Int32)) < (2 : Int32)) => ?_) (fun (b120 : (((((0 : Int32) + (1 : Int32)) + (1 : Int32)) + (-1 : Int32)) + (1 : Int32)) < (2 : Int32)) => ?_)
                      · refine Go.iload 623 rfl d45_621 rfl ?_
                        refine Go.eqI (w := (2 : Int32)) (by decide) ?_
                        exact Go.retI d45_623 rfl (by decide) (by decide) ⟨rfl, (((Keep.refl h0 [t]).trans Kz3000 (by simp)).trans Kz3001 (by simp)), Az3001⟩
                      · exact absurd b120 (show ¬ (((((0 : Int32) + (1 : Int32)) + (1 : Int32)) + (-1 : Int32)) + (1 : Int32)) < (2 : Int32) from (by decide))
                · exact absurd b110 (show ¬ (1 : Int32) = 0 from (by decide))
      · refine Go.iload 145 rfl d45_143 rfl ?_
        refine Go.iconst 146 rfl (4 : Int32) d45_145 rfl ?_
        refine Go.ishr 147 rfl d45_146 ?_
        refine Go.bipush 149 rfl (-2 : Int32) d45_147 rfl ?_
        refine Go.icmp_ne 349 152 d45_149 (by decide) rfl rfl (fun (b121 : ¬ (b0 >>> ((4 : Int32) &&& 31)) = (-2 : Int32)) => ?_) (fun (b121 : (b0 >>> ((4 : Int32) &&& 31)) = (-2 : Int32)) => ?_)
        · refine Go.iload 351 rfl d45_349 rfl ?_
          refine Go.iconst 352 rfl (3 : Int32) d45_351 rfl ?_
          refine Go.ishr 353 rfl d45_352 ?_
          refine Go.bipush 355 rfl (-2 : Int32) d45_353 rfl ?_
          refine Go.icmp_ne 595 358 d45_355 (by decide) rfl rfl (fun (b139 : ¬ (b0 >>> ((3 : Int32) &&& 31)) = (-2 : Int32)) => ?_) (fun (b139 : (b0 >>> ((3 : Int32) &&& 31)) = (-2 : Int32)) => ?_)
          · refine Go.iload 597 rfl d45_595 rfl ?_
            refine Go.if_ne 607 600 d45_597 (by decide) rfl rfl (fun (b140 : ¬ (1 : Int32) = 0) => ?_) (fun (b140 : (1 : Int32) = 0) => ?_)
            · refine Go.aloadN 608 rfl d45_607 rfl rfl ?_
              refine Go.iload 610 rfl d45_608 rfl ?_
              refine Go.iinc 613 rfl (1 : Int32) d45_610 rfl rfl (Ls' := #[.val (.ref s), .val (.int ((0 : Int32) + (1 : Int32))), .val (.int (2 : Int32)), .val (.ref t), .val (.int ((0 : Int32) + (1 : Int32))), .val (.int (1 : Int32)), .val (.int b0), .unset, .unset, .unset, .unset]) rfl ?_
              refine Go.ldcI 615 rfl (v := (65533 : Int32)) 241 d45_613 rfl ?_
              refine Go.callS 618 rfl (C := B46) [.ref t, .int (0 : Int32), .int (65533 : Int32)] (rest := []) 242 243 214 244 (c46 Z hw h0 t (0 : Int32) (65533 : Int32) vd 0 rfl (by decide) hAs hHi hLo hgt (by first | omega | (simp only [own_putl]; omega)) hB) d45_615 rfl rfl rfl rfl (by decide) pd46 rfl rfl rfl (W := 0) (lb rfl) (by decide) (by decide) (by decide) (by decide) fun v141 h142 q143 => ?_
              obtain ⟨rfl, Kz3000, Az3000⟩ := q143
              refine Go.goto 0 d45_618 (by decide) (by decide) ?_
              refine Go.iloadN 1 rfl d45_0 rfl ?_
              refine Go.iloadN 2 rfl d45_1 rfl ?_
              refine Go.icmp_ge 621 5 d45_2 (by decide) rfl rfl (fun (b144 : ¬ ((0 : Int32) + (1 : Int32)) < (2 : Int32)) => ?_) (fun (b144 : ((0 : Int32) + (1 : Int32)) < (2 : Int32)) => ?_)
              · exact absurd (show ((0 : Int32) + (1 : Int32)) < (2 : Int32) from (by decide)) b144
              · refine Go.aloadN 6 rfl d45_5 rfl rfl ?_
                refine Go.iloadN 7 rfl d45_6 rfl ?_
                refine Go.iinc 10 rfl (1 : Int32) d45_7 rfl rfl (Ls' := #[.val (.ref s), .val (.int (((0 : Int32) + (1 : Int32)) + (1 : Int32))), .val (.int (2 : Int32)), .val (.ref t), .val (.int ((0 : Int32) + (1 : Int32))), .val (.int (1 : Int32)), .val (.int b0), .unset, .unset, .unset, .unset]) rfl ?_
                have F145 : Ary Z h142 s .byte [.int b0, .int b1] := (hA.keep Kz3000 (ninS hne nin0))
                refine Go.baload 11 rfl b1 d45_10 F145 1 rfl rfl ?_
                refine Go.istore 13 rfl d45_11 (Ls' := #[.val (.ref s), .val (.int (((0 : Int32) + (1 : Int32)) + (1 : Int32))), .val (.int (2 : Int32)), .val (.ref t), .val (.int ((0 : Int32) + (1 : Int32))), .val (.int (1 : Int32)), .val (.int b1), .unset, .unset, .unset, .unset]) rfl ?_
                refine Go.iload 15 rfl d45_13 rfl ?_
                refine Go.if_lt 33 18 d45_15 (by decide) rfl rfl (fun (b146 : b1 < 0) => ?_) (fun (b146 : ¬ b1 < 0) => ?_)
                · exact absurd b146 (show ¬ b1 < 0 from hp)
                · refine Go.aloadN 19 rfl d45_18 rfl rfl ?_
                  refine Go.iload 21 rfl d45_19 rfl ?_
                  refine Go.iinc 24 rfl (1 : Int32) d45_21 rfl rfl (Ls' := #[.val (.ref s), .val (.int (((0 : Int32) + (1 : Int32)) + (1 : Int32))), .val (.int (2 : Int32)), .val (.ref t), .val (.int (((0 : Int32) + (1 : Int32)) + (1 : Int32))), .val (.int (1 : Int32)), .val (.int b1), .unset, .unset, .unset, .unset]) rfl ?_
                  refine Go.iload 26 rfl d45_24 rfl ?_
                  refine Go.i2c 27 rfl d45_26 ?_
                  refine Go.eqI (w := yt) hyt ?_
                  refine Go.callS 30 rfl (C := B46) [.ref t, .int ((0 : Int32) + (1 : Int32)), .int yt] (rest := []) 242 243 214 244 (c46 Z hw h142 t ((0 : Int32) + (1 : Int32)) yt (put vd 0 (65533 : Int32)) 1 rfl (by decide) hAs hHi hLo hgt (by first | omega | (simp only [own_putl]; omega)) Az3000) d45_27 rfl rfl rfl rfl (by decide) pd46 rfl rfl rfl (W := 0) (lb rfl) (by decide) (by decide) (by decide) (by decide) fun v147 h148 q149 => ?_
                  obtain ⟨rfl, Kz3001, Az3001⟩ := q149
                  refine Go.goto 618 d45_30 (by decide) (by decide) ?_
                  refine Go.goto 0 d45_618 (by decide) (by decide) ?_
                  refine Go.iloadN 1 rfl d45_0 rfl ?_
                  refine Go.iloadN 2 rfl d45_1 rfl ?_
                  refine Go.icmp_ge 621 5 d45_2 (by decide) rfl rfl (fun (b150 : ¬ (((0 : Int32) + (1 : Int32)) + (1 : Int32)) < (2 : Int32)) => ?_) (fun (b150 : (((0 : Int32) + (1 : Int32)) + (1 : Int32)) < (2 : Int32)) => ?_)
                  · refine Go.iload 623 rfl d45_621 rfl ?_
                    refine Go.eqI (w := (2 : Int32)) (by decide) ?_
                    exact Go.retI d45_623 rfl (by decide) (by decide) ⟨rfl, (((Keep.refl h0 [t]).trans Kz3000 (by simp)).trans Kz3001 (by simp)), Az3001⟩
                  · exact absurd b150 (show ¬ (((0 : Int32) + (1 : Int32)) + (1 : Int32)) < (2 : Int32) from (by decide))
            · exact absurd b140 (show ¬ (1 : Int32) = 0 from (by decide))
          · refine Go.iloadN 359 rfl d45_358 rfl ?_
            refine Go.iconst 360 rfl (2 : Int32) d45_359 rfl ?_
            refine Go.iadd 361 rfl d45_360 ?_
            refine Go.iloadN 362 rfl d45_361 rfl ?_
            refine Go.icmp_ge 490 365 d45_362 (by decide) rfl rfl (fun (b151 : ¬ (((0 : Int32) + (1 : Int32)) + (2 : Int32)) < (2 : Int32)) => ?_) (fun (b151 : (((0 : Int32) + (1 : Int32)) + (2 : Int32)) < (2 : Int32)) => ?_)
            · refine Go.iload 492 rfl d45_490 rfl ?_
              refine Go.sipush 495 rfl (255 : Int32) d45_492 rfl ?_
              refine Go.iand 496 rfl d45_495 ?_
              refine Go.nameI fun v152 hv152 => ?_
              refine Go.istore 498 rfl d45_496 (Ls' := #[.val (.ref s), .val (.int ((0 : Int32) + (1 : Int32))), .val (.int (2 : Int32)), .val (.ref t), .val (.int (0 : Int32)), .val (.int (1 : Int32)), .val (.int v152), .unset, .unset, .unset, .unset]) rfl ?_
              refine Go.iload 500 rfl d45_498 rfl ?_
              refine Go.sipush 503 rfl (244 : Int32) d45_500 rfl ?_
              refine Go.icmp_gt 526 506 d45_503 (by decide) rfl rfl (fun (b153 : (244 : Int32) < v152) => ?_) (fun (b153 : ¬ (244 : Int32) < v152) => ?_)
              · refine Go.iload 528 rfl d45_526 rfl ?_
                refine Go.if_ne 538 531 d45_528 (by decide) rfl rfl (fun (b154 : ¬ (1 : Int32) = 0) => ?_) (fun (b154 : (1 : Int32) = 0) => ?_)
                · refine Go.aloadN 539 rfl d45_538 rfl rfl ?_
                  refine Go.iload 541 rfl d45_539 rfl ?_
                  refine Go.iinc 544 rfl (1 : Int32) d45_541 rfl rfl (Ls' := #[.val (.ref s), .val (.int ((0 : Int32) + (1 : Int32))), .val (.int (2 : Int32)), .val (.ref t), .val (.int ((0 : Int32) + (1 : Int32))), .val (.int (1 : Int32)), .val (.int v152), .unset, .unset, .unset, .unset]) rfl ?_
                  refine Go.ldcI 546 rfl (v := (65533 : Int32)) 241 d45_544 rfl ?_
                  refine Go.callS 549 rfl (C := B46) [.ref t, .int (0 : Int32), .int (65533 : Int32)] (rest := []) 242 243 214 244 (c46 Z hw h0 t (0 : Int32) (65533 : Int32) vd 0 rfl (by decide) hAs hHi hLo hgt (by first | omega | (simp only [own_putl]; omega)) hB) d45_546 rfl rfl rfl rfl (by decide) pd46 rfl rfl rfl (W := 0) (lb rfl) (by decide) (by decide) (by decide) (by decide) fun v155 h156 q157 => ?_
                  obtain ⟨rfl, Kz3000, Az3000⟩ := q157
                  refine Go.goto 0 d45_549 (by decide) (by decide) ?_
                  refine Go.iloadN 1 rfl d45_0 rfl ?_
                  refine Go.iloadN 2 rfl d45_1 rfl ?_
                  refine Go.icmp_ge 621 5 d45_2 (by decide) rfl rfl (fun (b158 : ¬ ((0 : Int32) + (1 : Int32)) < (2 : Int32)) => ?_) (fun (b158 : ((0 : Int32) + (1 : Int32)) < (2 : Int32)) => ?_)
                  · exact absurd (show ((0 : Int32) + (1 : Int32)) < (2 : Int32) from (by decide)) b158
                  · refine Go.aloadN 6 rfl d45_5 rfl rfl ?_
                    refine Go.iloadN 7 rfl d45_6 rfl ?_
                    refine Go.iinc 10 rfl (1 : Int32) d45_7 rfl rfl (Ls' := #[.val (.ref s), .val (.int (((0 : Int32) + (1 : Int32)) + (1 : Int32))), .val (.int (2 : Int32)), .val (.ref t), .val (.int ((0 : Int32) + (1 : Int32))), .val (.int (1 : Int32)), .val (.int v152), .unset, .unset, .unset, .unset]) rfl ?_
                    have F159 : Ary Z h156 s .byte [.int b0, .int b1] := (hA.keep Kz3000 (ninS hne nin0))
                    refine Go.baload 11 rfl b1 d45_10 F159 1 rfl rfl ?_
                    refine Go.istore 13 rfl d45_11 (Ls' := #[.val (.ref s), .val (.int (((0 : Int32) + (1 : Int32)) + (1 : Int32))), .val (.int (2 : Int32)), .val (.ref t), .val (.int ((0 : Int32) + (1 : Int32))), .val (.int (1 : Int32)), .val (.int b1), .unset, .unset, .unset, .unset]) rfl ?_
                    refine Go.iload 15 rfl d45_13 rfl ?_
                    refine Go.if_lt 33 18 d45_15 (by decide) rfl rfl (fun (b160 : b1 < 0) => ?_) (fun (b160 : ¬ b1 < 0) => ?_)
                    · exact absurd b160 (show ¬ b1 < 0 from hp)
                    · refine Go.aloadN 19 rfl d45_18 rfl rfl ?_
                      refine Go.iload 21 rfl d45_19 rfl ?_
                      refine Go.iinc 24 rfl (1 : Int32) d45_21 rfl rfl (Ls' := #[.val (.ref s), .val (.int (((0 : Int32) + (1 : Int32)) + (1 : Int32))), .val (.int (2 : Int32)), .val (.ref t), .val (.int (((0 : Int32) + (1 : Int32)) + (1 : Int32))), .val (.int (1 : Int32)), .val (.int b1), .unset, .unset, .unset, .unset]) rfl ?_
                      refine Go.iload 26 rfl d45_24 rfl ?_
                      refine Go.i2c 27 rfl d45_26 ?_
                      refine Go.eqI (w := yt) hyt ?_
                      refine Go.callS 30 rfl (C := B46) [.ref t, .int ((0 : Int32) + (1 : Int32)), .int yt] (rest := []) 242 243 214 244 (c46 Z hw h156 t ((0 : Int32) + (1 : Int32)) yt (put vd 0 (65533 : Int32)) 1 rfl (by decide) hAs hHi hLo hgt (by first | omega | (simp only [own_putl]; omega)) Az3000) d45_27 rfl rfl rfl rfl (by decide) pd46 rfl rfl rfl (W := 0) (lb rfl) (by decide) (by decide) (by decide) (by decide) fun v161 h162 q163 => ?_
                      obtain ⟨rfl, Kz3001, Az3001⟩ := q163
                      refine Go.goto 618 d45_30 (by decide) (by decide) ?_
                      refine Go.goto 0 d45_618 (by decide) (by decide) ?_
                      refine Go.iloadN 1 rfl d45_0 rfl ?_
                      refine Go.iloadN 2 rfl d45_1 rfl ?_
                      refine Go.icmp_ge 621 5 d45_2 (by decide) rfl rfl (fun (b164 : ¬ (((0 : Int32) + (1 : Int32)) + (1 : Int32)) < (2 : Int32)) => ?_) (fun (b164 : (((0 : Int32) + (1 : Int32)) + (1 : Int32)) < (2 : Int32)) => ?_)
                      · refine Go.iload 623 rfl d45_621 rfl ?_
                        refine Go.eqI (w := (2 : Int32)) (by decide) ?_
                        exact Go.retI d45_623 rfl (by decide) (by decide) ⟨rfl, (((Keep.refl h0 [t]).trans Kz3000 (by simp)).trans Kz3001 (by simp)), Az3001⟩
                      · exact absurd b164 (show ¬ (((0 : Int32) + (1 : Int32)) + (1 : Int32)) < (2 : Int32) from (by decide))
                · exact absurd b154 (show ¬ (1 : Int32) = 0 from (by decide))
              · refine Go.iloadN 507 rfl d45_506 rfl ?_
                refine Go.iloadN 508 rfl d45_507 rfl ?_
                refine Go.icmp_ge 552 511 d45_508 (by decide) rfl rfl (fun (b165 : ¬ ((0 : Int32) + (1 : Int32)) < (2 : Int32)) => ?_) (fun (b165 : ((0 : Int32) + (1 : Int32)) < (2 : Int32)) => ?_)
                · exact absurd (show ((0 : Int32) + (1 : Int32)) < (2 : Int32) from (by decide)) b165
                · refine Go.iload 513 rfl d45_511 rfl ?_
                  refine Go.aloadN 514 rfl d45_513 rfl rfl ?_
                  refine Go.iloadN 515 rfl d45_514 rfl ?_
                  refine Go.baload 516 rfl b1 d45_515 hA 1 rfl rfl ?_
                  refine Go.sipush 519 rfl (255 : Int32) d45_516 rfl ?_
                  refine Go.iand 520 rfl d45_519 ?_
                  refine Go.callS 523 rfl (C := B53) [.int v152, .int (b1 &&& (255 : Int32))] (rest := []) 276 277 20 278 (c53 Z hw h0 v152 (b1 &&& (255 : Int32)) hnc2) d45_520 rfl rfl rfl rfl (by decide) pd53 rfl rfl rfl (W := 0) (lb rfl) (by decide) (by decide) (by decide) (by decide) fun v166 h167 q168 => ?_
                  obtain ⟨rfl, rfl⟩ := q168
                  refine Go.if_eq 552 526 d45_523 (by decide) rfl rfl (fun (b169 : (1 : Int32) = 0) => ?_) (fun (b169 : ¬ (1 : Int32) = 0) => ?_)
                  · exact absurd b169 (show ¬ (1 : Int32) = 0 from (by decide))
                  · refine Go.iload 528 rfl d45_526 rfl ?_
                    refine Go.if_ne 538 531 d45_528 (by decide) rfl rfl (fun (b170 : ¬ (1 : Int32) = 0) => ?_) (fun (b170 : (1 : Int32) = 0) => ?_)
                    · refine Go.aloadN 539 rfl d45_538 rfl rfl ?_
                      refine Go.iload 541 rfl d45_539 rfl ?_
                      refine Go.iinc 544 rfl (1 : Int32) d45_541 rfl rfl (Ls' := #[.val (.ref s), .val (.int ((0 : Int32) + (1 : Int32))), .val (.int (2 : Int32)), .val (.ref t), .val (.int ((0 : Int32) + (1 : Int32))), .val (.int (1 : Int32)), .val (.int v152), .unset, .unset, .unset, .unset]) rfl ?_
                      refine Go.ldcI 546 rfl (v := (65533 : Int32)) 241 d45_544 rfl ?_
                      refine Go.callS 549 rfl (C := B46) [.ref t, .int (0 : Int32), .int (65533 : Int32)] (rest := []) 242 243 214 244 (c46 Z hw h0 t (0 : Int32) (65533 : Int32) vd 0 rfl (by decide) hAs hHi hLo hgt (by first | omega | (simp only [own_putl]; omega)) hB) d45_546 rfl rfl rfl rfl (by decide) pd46 rfl rfl rfl (W := 0) (lb rfl) (by decide) (by decide) (by decide) (by decide) fun v171 h172 q173 => ?_
                      obtain ⟨rfl, Kz3000, Az3000⟩ := q173
                      refine Go.goto 0 d45_549 (by decide) (by decide) ?_
                      refine Go.iloadN 1 rfl d45_0 rfl ?_
                      refine Go.iloadN 2 rfl d45_1 rfl ?_
                      refine Go.icmp_ge 621 5 d45_2 (by decide) rfl rfl (fun (b174 : ¬ ((0 : Int32) + (1 : Int32)) < (2 : Int32)) => ?_) (fun (b174 : ((0 : Int32) + (1 : Int32)) < (2 : Int32)) => ?_)
                      · exact absurd (show ((0 : Int32) + (1 : Int32)) < (2 : Int32) from (by decide)) b174
                      · refine Go.aloadN 6 rfl d45_5 rfl rfl ?_
                        refine Go.iloadN 7 rfl d45_6 rfl ?_
                        refine Go.iinc 10 rfl (1 : Int32) d45_7 rfl rfl (Ls' := #[.val (.ref s), .val (.int (((0 : Int32) + (1 : Int32)) + (1 : Int32))), .val (.int (2 : Int32)), .val (.ref t), .val (.int ((0 : Int32) + (1 : Int32))), .val (.int (1 : Int32)), .val (.int v152), .unset, .unset, .unset, .unset]) rfl ?_
                        have F175 : Ary Z h172 s .byte [.int b0, .int b1] := (hA.keep Kz3000 (ninS hne nin0))
                        refine Go.baload 11 rfl b1 d45_10 F175 1 rfl rfl ?_
                        refine Go.istore 13 rfl d45_11 (Ls' := #[.val (.ref s), .val (.int (((0 : Int32) + (1 : Int32)) + (1 : Int32))), .val (.int (2 : Int32)), .val (.ref t), .val (.int ((0 : Int32) + (1 : Int32))), .val (.int (1 : Int32)), .val (.int b1), .unset, .unset, .unset, .unset]) rfl ?_
                        refine Go.iload 15 rfl d45_13 rfl ?_
                        refine Go.if_lt 33 18 d45_15 (by decide) rfl rfl (fun (b176 : b1 < 0) => ?_) (fun (b176 : ¬ b1 < 0) => ?_)
                        · exact absurd b176 (show ¬ b1 < 0 from hp)
                        · refine Go.aloadN 19 rfl d45_18 rfl rfl ?_
                          refine Go.iload 21 rfl d45_19 rfl ?_
                          refine Go.iinc 24 rfl (1 : Int32) d45_21 rfl rfl (Ls' := #[.val (.ref s), .val (.int (((0 : Int32) + (1 : Int32)) + (1 : Int32))), .val (.int (2 : Int32)), .val (.ref t), .val (.int (((0 : Int32) + (1 : Int32)) + (1 : Int32))), .val (.int (1 : Int32)), .val (.int b1), .unset, .unset, .unset, .unset]) rfl ?_
                          refine Go.iload 26 rfl d45_24 rfl ?_
                          refine Go.i2c 27 rfl d45_26 ?_
                          refine Go.eqI (w := yt) hyt ?_
                          refine Go.callS 30 rfl (C := B46) [.ref t, .int ((0 : Int32) + (1 : Int32)), .int yt] (rest := []) 242 243 214 244 (c46 Z hw h172 t ((0 : Int32) + (1 : Int32)) yt (put vd 0 (65533 : Int32)) 1 rfl (by decide) hAs hHi hLo hgt (by first | omega | (simp only [own_putl]; omega)) Az3000) d45_27 rfl rfl rfl rfl (by decide) pd46 rfl rfl rfl (W := 0) (lb rfl) (by decide) (by decide) (by decide) (by decide) fun v177 h178 q179 => ?_
                          obtain ⟨rfl, Kz3001, Az3001⟩ := q179
                          refine Go.goto 618 d45_30 (by decide) (by decide) ?_
                          refine Go.goto 0 d45_618 (by decide) (by decide) ?_
                          refine Go.iloadN 1 rfl d45_0 rfl ?_
                          refine Go.iloadN 2 rfl d45_1 rfl ?_
                          refine Go.icmp_ge 621 5 d45_2 (by decide) rfl rfl (fun (b180 : ¬ (((0 : Int32) + (1 : Int32)) + (1 : Int32)) < (2 : Int32)) => ?_) (fun (b180 : (((0 : Int32) + (1 : Int32)) + (1 : Int32)) < (2 : Int32)) => ?_)
                          · refine Go.iload 623 rfl d45_621 rfl ?_
                            refine Go.eqI (w := (2 : Int32)) (by decide) ?_
                            exact Go.retI d45_623 rfl (by decide) (by decide) ⟨rfl, (((Keep.refl h0 [t]).trans Kz3000 (by simp)).trans Kz3001 (by simp)), Az3001⟩
                          · exact absurd b180 (show ¬ (((0 : Int32) + (1 : Int32)) + (1 : Int32)) < (2 : Int32) from (by decide))
                    · exact absurd b170 (show ¬ (1 : Int32) = 0 from (by decide))
            · exact absurd b151 (show ¬ (((0 : Int32) + (1 : Int32)) + (2 : Int32)) < (2 : Int32) from (by decide))
        · refine Go.iloadN 153 rfl d45_152 rfl ?_
          refine Go.iconst 154 rfl (1 : Int32) d45_153 rfl ?_
          refine Go.iadd 155 rfl d45_154 ?_
          refine Go.iloadN 156 rfl d45_155 rfl ?_
          refine Go.icmp_ge 283 159 d45_156 (by decide) rfl rfl (fun (b122 : ¬ (((0 : Int32) + (1 : Int32)) + (1 : Int32)) < (2 : Int32)) => ?_) (fun (b122 : (((0 : Int32) + (1 : Int32)) + (1 : Int32)) < (2 : Int32)) => ?_)
          · refine Go.iloadN 284 rfl d45_283 rfl ?_
            refine Go.iloadN 285 rfl d45_284 rfl ?_
            refine Go.icmp_ge 325 288 d45_285 (by decide) rfl rfl (fun (b123 : ¬ ((0 : Int32) + (1 : Int32)) < (2 : Int32)) => ?_) (fun (b123 : ((0 : Int32) + (1 : Int32)) < (2 : Int32)) => ?_)
            · exact absurd (show ((0 : Int32) + (1 : Int32)) < (2 : Int32) from (by decide)) b123
            · refine Go.iload 290 rfl d45_288 rfl ?_
              refine Go.aloadN 291 rfl d45_290 rfl rfl ?_
              refine Go.iloadN 292 rfl d45_291 rfl ?_
              refine Go.baload 293 rfl b1 d45_292 hA 1 rfl rfl ?_
              refine Go.callS 296 rfl (C := B51) [.int b0, .int b1] (rest := []) 270 271 20 272 (c51 Z hw h0 b0 b1 hnc) d45_293 rfl rfl rfl rfl (by decide) pd51 rfl rfl rfl (W := 0) (lb rfl) (by decide) (by decide) (by decide) (by decide) fun v124 h125 q126 => ?_
              obtain ⟨rfl, rfl⟩ := q126
              refine Go.if_eq 325 299 d45_296 (by decide) rfl rfl (fun (b127 : (1 : Int32) = 0) => ?_) (fun (b127 : ¬ (1 : Int32) = 0) => ?_)
              · exact absurd b127 (show ¬ (1 : Int32) = 0 from (by decide))
              · refine Go.iload 301 rfl d45_299 rfl ?_
                refine Go.if_ne 311 304 d45_301 (by decide) rfl rfl (fun (b128 : ¬ (1 : Int32) = 0) => ?_) (fun (b128 : (1 : Int32) = 0) => ?_)
                · refine Go.aloadN 312 rfl d45_311 rfl rfl ?_
                  refine Go.iload 314 rfl d45_312 rfl ?_
                  refine Go.iinc 317 rfl (1 : Int32) d45_314 rfl rfl (Ls' := #[.val (.ref s), .val (.int ((0 : Int32) + (1 : Int32))), .val (.int (2 : Int32)), .val (.ref t), .val (.int ((0 : Int32) + (1 : Int32))), .val (.int (1 : Int32)), .val (.int b0), .unset, .unset, .unset, .unset]) rfl ?_
                  refine Go.ldcI 319 rfl (v := (65533 : Int32)) 241 d45_317 rfl ?_
                  refine Go.callS 322 rfl (C := B46) [.ref t, .int (0 : Int32), .int (65533 : Int32)] (rest := []) 242 243 214 244 (c46 Z hw h0 t (0 : Int32) (65533 : Int32) vd 0 rfl (by decide) hAs hHi hLo hgt (by first | omega | (simp only [own_putl]; omega)) hB) d45_319 rfl rfl rfl rfl (by decide) pd46 rfl rfl rfl (W := 0) (lb rfl) (by decide) (by decide) (by decide) (by decide) fun v129 h130 q131 => ?_
                  obtain ⟨rfl, Kz3000, Az3000⟩ := q131
                  refine Go.goto 0 d45_322 (by decide) (by decide) ?_
                  refine Go.iloadN 1 rfl d45_0 rfl ?_
                  refine Go.iloadN 2 rfl d45_1 rfl ?_
                  refine Go.icmp_ge 621 5 d45_2 (by decide) rfl rfl (fun (b132 : ¬ ((0 : Int32) + (1 : Int32)) < (2 : Int32)) => ?_) (fun (b132 : ((0 : Int32) + (1 : Int32)) < (2 : Int32)) => ?_)
                  · exact absurd (show ((0 : Int32) + (1 : Int32)) < (2 : Int32) from (by decide)) b132
                  · refine Go.aloadN 6 rfl d45_5 rfl rfl ?_
                    refine Go.iloadN 7 rfl d45_6 rfl ?_
                    refine Go.iinc 10 rfl (1 : Int32) d45_7 rfl rfl (Ls' := #[.val (.ref s), .val (.int (((0 : Int32) + (1 : Int32)) + (1 : Int32))), .val (.int (2 : Int32)), .val (.ref t), .val (.int ((0 : Int32) + (1 : Int32))), .val (.int (1 : Int32)), .val (.int b0), .unset, .unset, .unset, .unset]) rfl ?_
                    have F133 : Ary Z h130 s .byte [.int b0, .int b1] := (hA.keep Kz3000 (ninS hne nin0))
                    refine Go.baload 11 rfl b1 d45_10 F133 1 rfl rfl ?_
                    refine Go.istore 13 rfl d45_11 (Ls' := #[.val (.ref s), .val (.int (((0 : Int32) + (1 : Int32)) + (1 : Int32))), .val (.int (2 : Int32)), .val (.ref t), .val (.int ((0 : Int32) + (1 : Int32))), .val (.int (1 : Int32)), .val (.int b1), .unset, .unset, .unset, .unset]) rfl ?_
                    refine Go.iload 15 rfl d45_13 rfl ?_
                    refine Go.if_lt 33 18 d45_15 (by decide) rfl rfl (fun (b134 : b1 < 0) => ?_) (fun (b134 : ¬ b1 < 0) => ?_)
                    · exact absurd b134 (show ¬ b1 < 0 from hp)
                    · refine Go.aloadN 19 rfl d45_18 rfl rfl ?_
                      refine Go.iload 21 rfl d45_19 rfl ?_
                      refine Go.iinc 24 rfl (1 : Int32) d45_21 rfl rfl (Ls' := #[.val (.ref s), .val (.int (((0 : Int32) + (1 : Int32)) + (1 : Int32))), .val (.int (2 : Int32)), .val (.ref t), .val (.int (((0 : Int32) + (1 : Int32)) + (1 : Int32))), .val (.int (1 : Int32)), .val (.int b1), .unset, .unset, .unset, .unset]) rfl ?_
                      refine Go.iload 26 rfl d45_24 rfl ?_
                      refine Go.i2c 27 rfl d45_26 ?_
                      refine Go.eqI (w := yt) hyt ?_
                      refine Go.callS 30 rfl (C := B46) [.ref t, .int ((0 : Int32) + (1 : Int32)), .int yt] (rest := []) 242 243 214 244 (c46 Z hw h130 t ((0 : Int32) + (1 : Int32)) yt (put vd 0 (65533 : Int32)) 1 rfl (by decide) hAs hHi hLo hgt (by first | omega | (simp only [own_putl]; omega)) Az3000) d45_27 rfl rfl rfl rfl (by decide) pd46 rfl rfl rfl (W := 0) (lb rfl) (by decide) (by decide) (by decide) (by decide) fun v135 h136 q137 => ?_
                      obtain ⟨rfl, Kz3001, Az3001⟩ := q137
                      refine Go.goto 618 d45_30 (by decide) (by decide) ?_
                      refine Go.goto 0 d45_618 (by decide) (by decide) ?_
                      refine Go.iloadN 1 rfl d45_0 rfl ?_
                      refine Go.iloadN 2 rfl d45_1 rfl ?_
                      refine Go.icmp_ge 621 5 d45_2 (by decide) rfl rfl (fun (b138 : ¬ (((0 : Int32) + (1 : Int32)) + (1 : Int32)) < (2 : Int32)) => ?_) (fun (b138 : (((0 : Int32) + (1 : Int32)) + (1 : Int32)) < (2 : Int32)) => ?_)
                      · refine Go.iload 623 rfl d45_621 rfl ?_
                        refine Go.eqI (w := (2 : Int32)) (by decide) ?_
                        exact Go.retI d45_623 rfl (by decide) (by decide) ⟨rfl, (((Keep.refl h0 [t]).trans Kz3000 (by simp)).trans Kz3001 (by simp)), Az3001⟩
                      · exact absurd b138 (show ¬ (((0 : Int32) + (1 : Int32)) + (1 : Int32)) < (2 : Int32) from (by decide))
                · exact absurd b128 (show ¬ (1 : Int32) = 0 from (by decide))
          · exact absurd b122 (show ¬ (((0 : Int32) + (1 : Int32)) + (1 : Int32)) < (2 : Int32) from (by decide))
    · exact absurd (show b0 < 0 from g) b102
def Q45d2U (Z : State) (t : Addr) (vd : List Int32) (h0 : Heap) (v : Option Value) (h : Heap) : Prop := v = some (.int 2) ∧ Keep h0 h [t] ∧ Ary Z h t .byte (IL (put vd 1 (65533 : Int32)))
theorem c45d2U (Z : State) (hw : Wd Z tables_1) (h0 : Heap) (s : Addr) (t : Addr) (vd : List Int32) (b0 : Int32) (b1 : Int32) (g : b1 < 0) (hvl : vd.length = 4) (hAs : YAs Z) (hHi : YHi Z) (hLo : YLo Z) (hA : Ary Z h0 s .byte [.int b0, .int b1]) (hB : Ary Z h0 t .byte (IL vd)) (hgt : Z.heap.size ≤ t) (hne : s ≠ t) : Con Z B45 (List.toArray [.ref s, .int (1 : Int32), .int (2 : Int32), .ref t, .int (1 : Int32), .int (1 : Int32)]) h0 (Q45d2U Z t vd h0) := by
  refine Con.mk (Ls := #[.val (.ref s), .val (.int (1 : Int32)), .val (.int (2 : Int32)), .val (.ref t), .val (.int (1 : Int32)), .val (.int (1 : Int32)), .unset, .unset, .unset, .unset, .unset]) hw pn45 (fun mid => by first | (simp [entryFrame, mkF, argsToLocals, Value.category, Jvm.Ow.Bd.ml, B45]; done) | rfl) (Go.old fun hle' => ?_)
  have hle := hle'.1
  refine Go.iloadN 1 rfl d45_0 rfl ?_
  refine Go.iloadN 2 rfl d45_1 rfl ?_
  refine Go.icmp_ge 621 5 d45_2 (by decide) rfl rfl (fun (b101 : ¬ (1 : Int32) < (2 : Int32)) => ?_) (fun (b101 : (1 : Int32) < (2 : Int32)) => ?_)
  · exact absurd (show (1 : Int32) < (2 : Int32) from (by decide)) b101
  · refine Go.aloadN 6 rfl d45_5 rfl rfl ?_
    refine Go.iloadN 7 rfl d45_6 rfl ?_
    refine Go.iinc 10 rfl (1 : Int32) d45_7 rfl rfl (Ls' := #[.val (.ref s), .val (.int ((1 : Int32) + (1 : Int32))), .val (.int (2 : Int32)), .val (.ref t), .val (.int (1 : Int32)), .val (.int (1 : Int32)), .unset, .unset, .unset, .unset, .unset]) rfl ?_
    refine Go.baload 11 rfl b1 d45_10 hA 1 rfl rfl ?_
    refine Go.istore 13 rfl d45_11 (Ls' := #[.val (.ref s), .val (.int ((1 : Int32) + (1 : Int32))), .val (.int (2 : Int32)), .val (.ref t), .val (.int (1 : Int32)), .val (.int (1 : Int32)), .val (.int b1), .unset, .unset, .unset, .unset]) rfl ?_
    refine Go.iload 15 rfl d45_13 rfl ?_
    refine Go.if_lt 33 18 d45_15 (by decide) rfl rfl (fun (b102 : b1 < 0) => ?_) (fun (b102 : ¬ b1 < 0) => ?_)
    · refine Go.iload 35 rfl d45_33 rfl ?_
      refine Go.iconst 36 rfl (5 : Int32) d45_35 rfl ?_
      refine Go.ishr 37 rfl d45_36 ?_
      refine Go.bipush 39 rfl (-2 : Int32) d45_37 rfl ?_
      refine Go.jn (pcJ := 143) (LsJ := #[.val (.ref s), .val (.int ((1 : Int32) + (1 : Int32))), .val (.int (2 : Int32)), .val (.ref t), .val (.int (1 : Int32)), .val (.int (1 : Int32)), .val (.int b1), .unset, .unset, .unset, .unset]) (stJ := []) (fun J => ?_) ?_
      · refine Go.icmp_ne 143 42 d45_39 (by decide) rfl rfl (fun (b103 : ¬ (b1 >>> ((5 : Int32) &&& 31)) = (-2 : Int32)) => ?_) (fun (b103 : (b1 >>> ((5 : Int32) &&& 31)) = (-2 : Int32)) => ?_)
        · exact J
        · refine Go.iload 44 rfl d45_42 rfl ?_
          refine Go.bipush 46 rfl (30 : Int32) d45_44 rfl ?_
          refine Go.iand 47 rfl d45_46 ?_
          refine Go.if_eq 143 50 d45_47 (by decide) rfl rfl (fun (b104 : (b1 &&& (30 : Int32)) = 0) => ?_) (fun (b104 : ¬ (b1 &&& (30 : Int32)) = 0) => ?_)
          · exact J
          · refine Go.iloadN 51 rfl d45_50 rfl ?_
            refine Go.iloadN 52 rfl d45_51 rfl ?_
            refine Go.icmp_ge 119 55 d45_52 (by decide) rfl rfl (fun (b105 : ¬ ((1 : Int32) + (1 : Int32)) < (2 : Int32)) => ?_) (fun (b105 : ((1 : Int32) + (1 : Int32)) < (2 : Int32)) => ?_)
            · refine Go.iload 121 rfl d45_119 rfl ?_
              refine Go.if_ne 129 124 d45_121 (by decide) rfl rfl (fun (b106 : ¬ (1 : Int32) = 0) => ?_) (fun (b106 : (1 : Int32) = 0) => ?_)
              · refine Go.aloadN 130 rfl d45_129 rfl rfl ?_
                refine Go.iload 132 rfl d45_130 rfl ?_
                refine Go.iinc 135 rfl (1 : Int32) d45_132 rfl rfl (Ls' := #[.val (.ref s), .val (.int ((1 : Int32) + (1 : Int32))), .val (.int (2 : Int32)), .val (.ref t), .val (.int ((1 : Int32) + (1 : Int32))), .val (.int (1 : Int32)), .val (.int b1), .unset, .unset, .unset, .unset]) rfl ?_
                refine Go.ldcI 137 rfl (v := (65533 : Int32)) 241 d45_135 rfl ?_
                refine Go.callS 140 rfl (C := B46) [.ref t, .int (1 : Int32), .int (65533 : Int32)] (rest := []) 242 243 214 244 (c46 Z hw h0 t (1 : Int32) (65533 : Int32) vd 1 rfl (by decide) hAs hHi hLo hgt (by first | omega | (simp only [own_putl]; omega)) hB) d45_137 rfl rfl rfl rfl (by decide) pd46 rfl rfl rfl (W := 0) (lb rfl) (by decide) (by decide) (by decide) (by decide) fun v107 h108 q109 => ?_
                obtain ⟨rfl, Kz3000, Az3000⟩ := q109
                refine Go.goto 621 d45_140 (by decide) (by decide) ?_
                refine Go.iload 623 rfl d45_621 rfl ?_
                refine Go.eqI (w := (2 : Int32)) (by decide) ?_
                exact Go.retI d45_623 rfl (by decide) (by decide) ⟨rfl, ((Keep.refl h0 [t]).trans Kz3000 (by simp)), Az3000⟩
              · exact absurd b106 (show ¬ (1 : Int32) = 0 from (by decide))
            · exact absurd b105 (show ¬ ((1 : Int32) + (1 : Int32)) < (2 : Int32) from (by decide))
      · refine Go.iload 145 rfl d45_143 rfl ?_
        refine Go.iconst 146 rfl (4 : Int32) d45_145 rfl ?_
        refine Go.ishr 147 rfl d45_146 ?_
        refine Go.bipush 149 rfl (-2 : Int32) d45_147 rfl ?_
        refine Go.icmp_ne 349 152 d45_149 (by decide) rfl rfl (fun (b110 : ¬ (b1 >>> ((4 : Int32) &&& 31)) = (-2 : Int32)) => ?_) (fun (b110 : (b1 >>> ((4 : Int32) &&& 31)) = (-2 : Int32)) => ?_)
        · refine Go.iload 351 rfl d45_349 rfl ?_
          refine Go.iconst 352 rfl (3 : Int32) d45_351 rfl ?_
          refine Go.ishr 353 rfl d45_352 ?_
          refine Go.bipush 355 rfl (-2 : Int32) d45_353 rfl ?_
          refine Go.icmp_ne 595 358 d45_355 (by decide) rfl rfl (fun (b117 : ¬ (b1 >>> ((3 : Int32) &&& 31)) = (-2 : Int32)) => ?_) (fun (b117 : (b1 >>> ((3 : Int32) &&& 31)) = (-2 : Int32)) => ?_)
          · refine Go.iload 597 rfl d45_595 rfl ?_
            refine Go.if_ne 607 600 d45_597 (by decide) rfl rfl (fun (b118 : ¬ (1 : Int32) = 0) => ?_) (fun (b118 : (1 : Int32) = 0) => ?_)
            · refine Go.aloadN 608 rfl d45_607 rfl rfl ?_
              refine Go.iload 610 rfl d45_608 rfl ?_
              refine Go.iinc 613 rfl (1 : Int32) d45_610 rfl rfl (Ls' := #[.val (.ref s), .val (.int ((1 : Int32) + (1 : Int32))), .val (.int (2 : Int32)), .val (.ref t), .val (.int ((1 : Int32) + (1 : Int32))), .val (.int (1 : Int32)), .val (.int b1), .unset, .unset, .unset, .unset]) rfl ?_
              refine Go.ldcI 615 rfl (v := (65533 : Int32)) 241 d45_613 rfl ?_
              refine Go.callS 618 rfl (C := B46) [.ref t, .int (1 : Int32), .int (65533 : Int32)] (rest := []) 242 243 214 244 (c46 Z hw h0 t (1 : Int32) (65533 : Int32) vd 1 rfl (by decide) hAs hHi hLo hgt (by first | omega | (simp only [own_putl]; omega)) hB) d45_615 rfl rfl rfl rfl (by decide) pd46 rfl rfl rfl (W := 0) (lb rfl) (by decide) (by decide) (by decide) (by decide) fun v119 h120 q121 => ?_
              obtain ⟨rfl, Kz3000, Az3000⟩ := q121
              refine Go.goto 0 d45_618 (by decide) (by decide) ?_
              refine Go.iloadN 1 rfl d45_0 rfl ?_
              refine Go.iloadN 2 rfl d45_1 rfl ?_
              refine Go.icmp_ge 621 5 d45_2 (by decide) rfl rfl (fun (b122 : ¬ ((1 : Int32) + (1 : Int32)) < (2 : Int32)) => ?_) (fun (b122 : ((1 : Int32) + (1 : Int32)) < (2 : Int32)) => ?_)
              · refine Go.iload 623 rfl d45_621 rfl ?_
                refine Go.eqI (w := (2 : Int32)) (by decide) ?_
                exact Go.retI d45_623 rfl (by decide) (by decide) ⟨rfl, ((Keep.refl h0 [t]).trans Kz3000 (by simp)), Az3000⟩
              · exact absurd b122 (show ¬ ((1 : Int32) + (1 : Int32)) < (2 : Int32) from (by decide))
            · exact absurd b118 (show ¬ (1 : Int32) = 0 from (by decide))
          · refine Go.iloadN 359 rfl d45_358 rfl ?_
            refine Go.iconst 360 rfl (2 : Int32) d45_359 rfl ?_
            refine Go.iadd 361 rfl d45_360 ?_
            refine Go.iloadN 362 rfl d45_361 rfl ?_
            refine Go.icmp_ge 490 365 d45_362 (by decide) rfl rfl (fun (b123 : ¬ (((1 : Int32) + (1 : Int32)) + (2 : Int32)) < (2 : Int32)) => ?_) (fun (b123 : (((1 : Int32) + (1 : Int32)) + (2 : Int32)) < (2 : Int32)) => ?_)
            · refine Go.iload 492 rfl d45_490 rfl ?_
              refine Go.sipush 495 rfl (255 : Int32) d45_492 rfl ?_
              refine Go.iand 496 rfl d45_495 ?_
              refine Go.nameI fun v124 hv124 => ?_
              refine Go.istore 498 rfl d45_496 (Ls' := #[.val (.ref s), .val (.int ((1 : Int32) + (1 : Int32))), .val (.int (2 : Int32)), .val (.ref t), .val (.int (1 : Int32)), .val (.int (1 : Int32)), .val (.int v124), .unset, .unset, .unset, .unset]) rfl ?_
              refine Go.iload 500 rfl d45_498 rfl ?_
              refine Go.sipush 503 rfl (244 : Int32) d45_500 rfl ?_
              refine Go.icmp_gt 526 506 d45_503 (by decide) rfl rfl (fun (b125 : (244 : Int32) < v124) => ?_) (fun (b125 : ¬ (244 : Int32) < v124) => ?_)
              · refine Go.iload 528 rfl d45_526 rfl ?_
                refine Go.if_ne 538 531 d45_528 (by decide) rfl rfl (fun (b126 : ¬ (1 : Int32) = 0) => ?_) (fun (b126 : (1 : Int32) = 0) => ?_)
                · refine Go.aloadN 539 rfl d45_538 rfl rfl ?_
                  refine Go.iload 541 rfl d45_539 rfl ?_
                  refine Go.iinc 544 rfl (1 : Int32) d45_541 rfl rfl (Ls' := #[.val (.ref s), .val (.int ((1 : Int32) + (1 : Int32))), .val (.int (2 : Int32)), .val (.ref t), .val (.int ((1 : Int32) + (1 : Int32))), .val (.int (1 : Int32)), .val (.int v124), .unset, .unset, .unset, .unset]) rfl ?_
                  refine Go.ldcI 546 rfl (v := (65533 : Int32)) 241 d45_544 rfl ?_
                  refine Go.callS 549 rfl (C := B46) [.ref t, .int (1 : Int32), .int (65533 : Int32)] (rest := []) 242 243 214 244 (c46 Z hw h0 t (1 : Int32) (65533 : Int32) vd 1 rfl (by decide) hAs hHi hLo hgt (by first | omega | (simp only [own_putl]; omega)) hB) d45_546 rfl rfl rfl rfl (by decide) pd46 rfl rfl rfl (W := 0) (lb rfl) (by decide) (by decide) (by decide) (by decide) fun v127 h128 q129 => ?_
                  obtain ⟨rfl, Kz3000, Az3000⟩ := q129
                  refine Go.goto 0 d45_549 (by decide) (by decide) ?_
                  refine Go.iloadN 1 rfl d45_0 rfl ?_
                  refine Go.iloadN 2 rfl d45_1 rfl ?_
                  refine Go.icmp_ge 621 5 d45_2 (by decide) rfl rfl (fun (b130 : ¬ ((1 : Int32) + (1 : Int32)) < (2 : Int32)) => ?_) (fun (b130 : ((1 : Int32) + (1 : Int32)) < (2 : Int32)) => ?_)
                  · refine Go.iload 623 rfl d45_621 rfl ?_
                    refine Go.eqI (w := (2 : Int32)) (by decide) ?_
                    exact Go.retI d45_623 rfl (by decide) (by decide) ⟨rfl, ((Keep.refl h0 [t]).trans Kz3000 (by simp)), Az3000⟩
                  · exact absurd b130 (show ¬ ((1 : Int32) + (1 : Int32)) < (2 : Int32) from (by decide))
                · exact absurd b126 (show ¬ (1 : Int32) = 0 from (by decide))
              · refine Go.iloadN 507 rfl d45_506 rfl ?_
                refine Go.iloadN 508 rfl d45_507 rfl ?_
                refine Go.icmp_ge 552 511 d45_508 (by decide) rfl rfl (fun (b131 : ¬ ((1 : Int32) + (1 : Int32)) < (2 : Int32)) => ?_) (fun (b131 : ((1 : Int32) + (1 : Int32)) < (2 : Int32)) => ?_)
                · refine Go.iload 554 rfl d45_552 rfl ?_
                  refine Go.if_ne 564 557 d45_554 (by decide) rfl rfl (fun (b132 : ¬ (1 : Int32) = 0) => ?_) (fun (b132 : (1 : Int32) = 0) => ?_)
                  · refine Go.iinc 567 rfl (1 : Int32) d45_564 rfl rfl (Ls' := #[.val (.ref s), .val (.int (((1 : Int32) + (1 : Int32)) + (1 : Int32))), .val (.int (2 : Int32)), .val (.ref t), .val (.int (1 : Int32)), .val (.int (1 : Int32)), .val (.int v124), .unset, .unset, .unset, .unset]) rfl ?_
                    refine Go.aloadN 568 rfl d45_567 rfl rfl ?_
                    refine Go.iload 570 rfl d45_568 rfl ?_
                    refine Go.iinc 573 rfl (1 : Int32) d45_570 rfl rfl (Ls' := #[.val (.ref s), .val (.int (((1 : Int32) + (1 : Int32)) + (1 : Int32))), .val (.int (2 : Int32)), .val (.ref t), .val (.int ((1 : Int32) + (1 : Int32))), .val (.int (1 : Int32)), .val (.int v124), .unset, .unset, .unset, .unset]) rfl ?_
                    refine Go.ldcI 575 rfl (v := (65533 : Int32)) 241 d45_573 rfl ?_
                    refine Go.callS 578 rfl (C := B46) [.ref t, .int (1 : Int32), .int (65533 : Int32)] (rest := []) 242 243 214 244 (c46 Z hw h0 t (1 : Int32) (65533 : Int32) vd 1 rfl (by decide) hAs hHi hLo hgt (by first | omega | (simp only [own_putl]; omega)) hB) d45_575 rfl rfl rfl rfl (by decide) pd46 rfl rfl rfl (W := 0) (lb rfl) (by decide) (by decide) (by decide) (by decide) fun v133 h134 q135 => ?_
                    obtain ⟨rfl, Kz3000, Az3000⟩ := q135
                    refine Go.iloadN 579 rfl d45_578 rfl ?_
                    refine Go.iloadN 580 rfl d45_579 rfl ?_
                    refine Go.icmp_ge 621 583 d45_580 (by decide) rfl rfl (fun (b136 : ¬ (((1 : Int32) + (1 : Int32)) + (1 : Int32)) < (2 : Int32)) => ?_) (fun (b136 : (((1 : Int32) + (1 : Int32)) + (1 : Int32)) < (2 : Int32)) => ?_)
                    · refine Go.iload 623 rfl d45_621 rfl ?_
                      refine Go.eqI (w := (2 : Int32)) (by decide) ?_
                      exact Go.retI d45_623 rfl (by decide) (by decide) ⟨rfl, ((Keep.refl h0 [t]).trans Kz3000 (by simp)), Az3000⟩
                    · exact absurd b136 (show ¬ (((1 : Int32) + (1 : Int32)) + (1 : Int32)) < (2 : Int32) from (by decide))
                  · exact absurd b132 (show ¬ (1 : Int32) = 0 from (by decide))
                · exact absurd b131 (show ¬ ((1 : Int32) + (1 : Int32)) < (2 : Int32) from (by decide))
            · exact absurd b123 (show ¬ (((1 : Int32) + (1 : Int32)) + (2 : Int32)) < (2 : Int32) from (by decide))
        · refine Go.iloadN 153 rfl d45_152 rfl ?_
          refine Go.iconst 154 rfl (1 : Int32) d45_153 rfl ?_
          refine Go.iadd 155 rfl d45_154 ?_
          refine Go.iloadN 156 rfl d45_155 rfl ?_
          refine Go.icmp_ge 283 159 d45_156 (by decide) rfl rfl (fun (b111 : ¬ (((1 : Int32) + (1 : Int32)) + (1 : Int32)) < (2 : Int32)) => ?_) (fun (b111 : (((1 : Int32) + (1 : Int32)) + (1 : Int32)) < (2 : Int32)) => ?_)
          · refine Go.iloadN 284 rfl d45_283 rfl ?_
            refine Go.iloadN 285 rfl d45_284 rfl ?_
            refine Go.icmp_ge 325 288 d45_285 (by decide) rfl rfl (fun (b112 : ¬ ((1 : Int32) + (1 : Int32)) < (2 : Int32)) => ?_) (fun (b112 : ((1 : Int32) + (1 : Int32)) < (2 : Int32)) => ?_)
            · refine Go.iload 327 rfl d45_325 rfl ?_
              refine Go.if_ne 335 330 d45_327 (by decide) rfl rfl (fun (b113 : ¬ (1 : Int32) = 0) => ?_) (fun (b113 : (1 : Int32) = 0) => ?_)
              · refine Go.aloadN 336 rfl d45_335 rfl rfl ?_
                refine Go.iload 338 rfl d45_336 rfl ?_
                refine Go.iinc 341 rfl (1 : Int32) d45_338 rfl rfl (Ls' := #[.val (.ref s), .val (.int ((1 : Int32) + (1 : Int32))), .val (.int (2 : Int32)), .val (.ref t), .val (.int ((1 : Int32) + (1 : Int32))), .val (.int (1 : Int32)), .val (.int b1), .unset, .unset, .unset, .unset]) rfl ?_
                refine Go.ldcI 343 rfl (v := (65533 : Int32)) 241 d45_341 rfl ?_
                refine Go.callS 346 rfl (C := B46) [.ref t, .int (1 : Int32), .int (65533 : Int32)] (rest := []) 242 243 214 244 (c46 Z hw h0 t (1 : Int32) (65533 : Int32) vd 1 rfl (by decide) hAs hHi hLo hgt (by first | omega | (simp only [own_putl]; omega)) hB) d45_343 rfl rfl rfl rfl (by decide) pd46 rfl rfl rfl (W := 0) (lb rfl) (by decide) (by decide) (by decide) (by decide) fun v114 h115 q116 => ?_
                obtain ⟨rfl, Kz3000, Az3000⟩ := q116
                refine Go.goto 621 d45_346 (by decide) (by decide) ?_
                refine Go.iload 623 rfl d45_621 rfl ?_
                refine Go.eqI (w := (2 : Int32)) (by decide) ?_
                exact Go.retI d45_623 rfl (by decide) (by decide) ⟨rfl, ((Keep.refl h0 [t]).trans Kz3000 (by simp)), Az3000⟩
              · exact absurd b113 (show ¬ (1 : Int32) = 0 from (by decide))
            · exact absurd b112 (show ¬ ((1 : Int32) + (1 : Int32)) < (2 : Int32) from (by decide))
          · exact absurd b111 (show ¬ (((1 : Int32) + (1 : Int32)) + (1 : Int32)) < (2 : Int32) from (by decide))
    · exact absurd (show b1 < 0 from g) b102
def Q45d1U (Z : State) (t : Addr) (vd : List Int32) (h0 : Heap) (v : Option Value) (h : Heap) : Prop := v = some (.int 1) ∧ Keep h0 h [t] ∧ Ary Z h t .byte (IL (put vd 0 (65533 : Int32)))
theorem c45d1U (Z : State) (hw : Wd Z tables_1) (h0 : Heap) (s : Addr) (t : Addr) (vd : List Int32) (b0 : Int32) (g : b0 < 0) (hvl : vd.length = 2) (hAs : YAs Z) (hHi : YHi Z) (hLo : YLo Z) (hA : Ary Z h0 s .byte [.int b0]) (hB : Ary Z h0 t .byte (IL vd)) (hgt : Z.heap.size ≤ t) (hne : s ≠ t) : Con Z B45 (List.toArray [.ref s, .int (0 : Int32), .int (1 : Int32), .ref t, .int (0 : Int32), .int (1 : Int32)]) h0 (Q45d1U Z t vd h0) := by
  refine Con.mk (Ls := #[.val (.ref s), .val (.int (0 : Int32)), .val (.int (1 : Int32)), .val (.ref t), .val (.int (0 : Int32)), .val (.int (1 : Int32)), .unset, .unset, .unset, .unset, .unset]) hw pn45 (fun mid => by first | (simp [entryFrame, mkF, argsToLocals, Value.category, Jvm.Ow.Bd.ml, B45]; done) | rfl) (Go.old fun hle' => ?_)
  have hle := hle'.1
  refine Go.iloadN 1 rfl d45_0 rfl ?_
  refine Go.iloadN 2 rfl d45_1 rfl ?_
  refine Go.icmp_ge 621 5 d45_2 (by decide) rfl rfl (fun (b101 : ¬ (0 : Int32) < (1 : Int32)) => ?_) (fun (b101 : (0 : Int32) < (1 : Int32)) => ?_)
  · exact absurd (show (0 : Int32) < (1 : Int32) from (by decide)) b101
  · refine Go.aloadN 6 rfl d45_5 rfl rfl ?_
    refine Go.iloadN 7 rfl d45_6 rfl ?_
    refine Go.iinc 10 rfl (1 : Int32) d45_7 rfl rfl (Ls' := #[.val (.ref s), .val (.int ((0 : Int32) + (1 : Int32))), .val (.int (1 : Int32)), .val (.ref t), .val (.int (0 : Int32)), .val (.int (1 : Int32)), .unset, .unset, .unset, .unset, .unset]) rfl ?_
    refine Go.baload 11 rfl b0 d45_10 hA 0 rfl rfl ?_
    refine Go.istore 13 rfl d45_11 (Ls' := #[.val (.ref s), .val (.int ((0 : Int32) + (1 : Int32))), .val (.int (1 : Int32)), .val (.ref t), .val (.int (0 : Int32)), .val (.int (1 : Int32)), .val (.int b0), .unset, .unset, .unset, .unset]) rfl ?_
    refine Go.iload 15 rfl d45_13 rfl ?_
    refine Go.if_lt 33 18 d45_15 (by decide) rfl rfl (fun (b102 : b0 < 0) => ?_) (fun (b102 : ¬ b0 < 0) => ?_)
    · refine Go.iload 35 rfl d45_33 rfl ?_
      refine Go.iconst 36 rfl (5 : Int32) d45_35 rfl ?_
      refine Go.ishr 37 rfl d45_36 ?_
      refine Go.bipush 39 rfl (-2 : Int32) d45_37 rfl ?_
      refine Go.jn (pcJ := 143) (LsJ := #[.val (.ref s), .val (.int ((0 : Int32) + (1 : Int32))), .val (.int (1 : Int32)), .val (.ref t), .val (.int (0 : Int32)), .val (.int (1 : Int32)), .val (.int b0), .unset, .unset, .unset, .unset]) (stJ := []) (fun J => ?_) ?_
      · refine Go.icmp_ne 143 42 d45_39 (by decide) rfl rfl (fun (b103 : ¬ (b0 >>> ((5 : Int32) &&& 31)) = (-2 : Int32)) => ?_) (fun (b103 : (b0 >>> ((5 : Int32) &&& 31)) = (-2 : Int32)) => ?_)
        · exact J
        · refine Go.iload 44 rfl d45_42 rfl ?_
          refine Go.bipush 46 rfl (30 : Int32) d45_44 rfl ?_
          refine Go.iand 47 rfl d45_46 ?_
          refine Go.if_eq 143 50 d45_47 (by decide) rfl rfl (fun (b104 : (b0 &&& (30 : Int32)) = 0) => ?_) (fun (b104 : ¬ (b0 &&& (30 : Int32)) = 0) => ?_)
          · exact J
          · refine Go.iloadN 51 rfl d45_50 rfl ?_
            refine Go.iloadN 52 rfl d45_51 rfl ?_
            refine Go.icmp_ge 119 55 d45_52 (by decide) rfl rfl (fun (b105 : ¬ ((0 : Int32) + (1 : Int32)) < (1 : Int32)) => ?_) (fun (b105 : ((0 : Int32) + (1 : Int32)) < (1 : Int32)) => ?_)
            · refine Go.iload 121 rfl d45_119 rfl ?_
              refine Go.if_ne 129 124 d45_121 (by decide) rfl rfl (fun (b106 : ¬ (1 : Int32) = 0) => ?_) (fun (b106 : (1 : Int32) = 0) => ?_)
              · refine Go.aloadN 130 rfl d45_129 rfl rfl ?_
                refine Go.iload 132 rfl d45_130 rfl ?_
                refine Go.iinc 135 rfl (1 : Int32) d45_132 rfl rfl (Ls' := #[.val (.ref s), .val (.int ((0 : Int32) + (1 : Int32))), .val (.int (1 : Int32)), .val (.ref t), .val (.int ((0 : Int32) + (1 : Int32))), .val (.int (1 : Int32)), .val (.int b0), .unset, .unset, .unset, .unset]) rfl ?_
                refine Go.ldcI 137 rfl (v := (65533 : Int32)) 241 d45_135 rfl ?_
                refine Go.callS 140 rfl (C := B46) [.ref t, .int (0 : Int32), .int (65533 : Int32)] (rest := []) 242 243 214 244 (c46 Z hw h0 t (0 : Int32) (65533 : Int32) vd 0 rfl (by decide) hAs hHi hLo hgt (by first | omega | (simp only [own_putl]; omega)) hB) d45_137 rfl rfl rfl rfl (by decide) pd46 rfl rfl rfl (W := 0) (lb rfl) (by decide) (by decide) (by decide) (by decide) fun v107 h108 q109 => ?_
                obtain ⟨rfl, Kz3000, Az3000⟩ := q109
                refine Go.goto 621 d45_140 (by decide) (by decide) ?_
                refine Go.iload 623 rfl d45_621 rfl ?_
                refine Go.eqI (w := (1 : Int32)) (by decide) ?_
                exact Go.retI d45_623 rfl (by decide) (by decide) ⟨rfl, ((Keep.refl h0 [t]).trans Kz3000 (by simp)), Az3000⟩
              · exact absurd b106 (show ¬ (1 : Int32) = 0 from (by decide))
            · exact absurd b105 (show ¬ ((0 : Int32) + (1 : Int32)) < (1 : Int32) from (by decide))
      · refine Go.iload 145 rfl d45_143 rfl ?_
        refine Go.iconst 146 rfl (4 : Int32) d45_145 rfl ?_
        refine Go.ishr 147 rfl d45_146 ?_
        refine Go.bipush 149 rfl (-2 : Int32) d45_147 rfl ?_
        refine Go.icmp_ne 349 152 d45_149 (by decide) rfl rfl (fun (b110 : ¬ (b0 >>> ((4 : Int32) &&& 31)) = (-2 : Int32)) => ?_) (fun (b110 : (b0 >>> ((4 : Int32) &&& 31)) = (-2 : Int32)) => ?_)
        · refine Go.iload 351 rfl d45_349 rfl ?_
          refine Go.iconst 352 rfl (3 : Int32) d45_351 rfl ?_
          refine Go.ishr 353 rfl d45_352 ?_
          refine Go.bipush 355 rfl (-2 : Int32) d45_353 rfl ?_
          refine Go.icmp_ne 595 358 d45_355 (by decide) rfl rfl (fun (b117 : ¬ (b0 >>> ((3 : Int32) &&& 31)) = (-2 : Int32)) => ?_) (fun (b117 : (b0 >>> ((3 : Int32) &&& 31)) = (-2 : Int32)) => ?_)
          · refine Go.iload 597 rfl d45_595 rfl ?_
            refine Go.if_ne 607 600 d45_597 (by decide) rfl rfl (fun (b118 : ¬ (1 : Int32) = 0) => ?_) (fun (b118 : (1 : Int32) = 0) => ?_)
            · refine Go.aloadN 608 rfl d45_607 rfl rfl ?_
              refine Go.iload 610 rfl d45_608 rfl ?_
              refine Go.iinc 613 rfl (1 : Int32) d45_610 rfl rfl (Ls' := #[.val (.ref s), .val (.int ((0 : Int32) + (1 : Int32))), .val (.int (1 : Int32)), .val (.ref t), .val (.int ((0 : Int32) + (1 : Int32))), .val (.int (1 : Int32)), .val (.int b0), .unset, .unset, .unset, .unset]) rfl ?_
              refine Go.ldcI 615 rfl (v := (65533 : Int32)) 241 d45_613 rfl ?_
              refine Go.callS 618 rfl (C := B46) [.ref t, .int (0 : Int32), .int (65533 : Int32)] (rest := []) 242 243 214 244 (c46 Z hw h0 t (0 : Int32) (65533 : Int32) vd 0 rfl (by decide) hAs hHi hLo hgt (by first | omega | (simp only [own_putl]; omega)) hB) d45_615 rfl rfl rfl rfl (by decide) pd46 rfl rfl rfl (W := 0) (lb rfl) (by decide) (by decide) (by decide) (by decide) fun v119 h120 q121 => ?_
              obtain ⟨rfl, Kz3000, Az3000⟩ := q121
              refine Go.goto 0 d45_618 (by decide) (by decide) ?_
              refine Go.iloadN 1 rfl d45_0 rfl ?_
              refine Go.iloadN 2 rfl d45_1 rfl ?_
              refine Go.icmp_ge 621 5 d45_2 (by decide) rfl rfl (fun (b122 : ¬ ((0 : Int32) + (1 : Int32)) < (1 : Int32)) => ?_) (fun (b122 : ((0 : Int32) + (1 : Int32)) < (1 : Int32)) => ?_)
              · refine Go.iload 623 rfl d45_621 rfl ?_
                refine Go.eqI (w := (1 : Int32)) (by decide) ?_
                exact Go.retI d45_623 rfl (by decide) (by decide) ⟨rfl, ((Keep.refl h0 [t]).trans Kz3000 (by simp)), Az3000⟩
              · exact absurd b122 (show ¬ ((0 : Int32) + (1 : Int32)) < (1 : Int32) from (by decide))
            · exact absurd b118 (show ¬ (1 : Int32) = 0 from (by decide))
          · refine Go.iloadN 359 rfl d45_358 rfl ?_
            refine Go.iconst 360 rfl (2 : Int32) d45_359 rfl ?_
            refine Go.iadd 361 rfl d45_360 ?_
            refine Go.iloadN 362 rfl d45_361 rfl ?_
            refine Go.icmp_ge 490 365 d45_362 (by decide) rfl rfl (fun (b123 : ¬ (((0 : Int32) + (1 : Int32)) + (2 : Int32)) < (1 : Int32)) => ?_) (fun (b123 : (((0 : Int32) + (1 : Int32)) + (2 : Int32)) < (1 : Int32)) => ?_)
            · refine Go.iload 492 rfl d45_490 rfl ?_
              refine Go.sipush 495 rfl (255 : Int32) d45_492 rfl ?_
              refine Go.iand 496 rfl d45_495 ?_
              refine Go.nameI fun v124 hv124 => ?_
              refine Go.istore 498 rfl d45_496 (Ls' := #[.val (.ref s), .val (.int ((0 : Int32) + (1 : Int32))), .val (.int (1 : Int32)), .val (.ref t), .val (.int (0 : Int32)), .val (.int (1 : Int32)), .val (.int v124), .unset, .unset, .unset, .unset]) rfl ?_
              refine Go.iload 500 rfl d45_498 rfl ?_
              refine Go.sipush 503 rfl (244 : Int32) d45_500 rfl ?_
              refine Go.icmp_gt 526 506 d45_503 (by decide) rfl rfl (fun (b125 : (244 : Int32) < v124) => ?_) (fun (b125 : ¬ (244 : Int32) < v124) => ?_)
              · refine Go.iload 528 rfl d45_526 rfl ?_
                refine Go.if_ne 538 531 d45_528 (by decide) rfl rfl (fun (b126 : ¬ (1 : Int32) = 0) => ?_) (fun (b126 : (1 : Int32) = 0) => ?_)
                · refine Go.aloadN 539 rfl d45_538 rfl rfl ?_
                  refine Go.iload 541 rfl d45_539 rfl ?_
                  refine Go.iinc 544 rfl (1 : Int32) d45_541 rfl rfl (Ls' := #[.val (.ref s), .val (.int ((0 : Int32) + (1 : Int32))), .val (.int (1 : Int32)), .val (.ref t), .val (.int ((0 : Int32) + (1 : Int32))), .val (.int (1 : Int32)), .val (.int v124), .unset, .unset, .unset, .unset]) rfl ?_
                  refine Go.ldcI 546 rfl (v := (65533 : Int32)) 241 d45_544 rfl ?_
                  refine Go.callS 549 rfl (C := B46) [.ref t, .int (0 : Int32), .int (65533 : Int32)] (rest := []) 242 243 214 244 (c46 Z hw h0 t (0 : Int32) (65533 : Int32) vd 0 rfl (by decide) hAs hHi hLo hgt (by first | omega | (simp only [own_putl]; omega)) hB) d45_546 rfl rfl rfl rfl (by decide) pd46 rfl rfl rfl (W := 0) (lb rfl) (by decide) (by decide) (by decide) (by decide) fun v127 h128 q129 => ?_
                  obtain ⟨rfl, Kz3000, Az3000⟩ := q129
                  refine Go.goto 0 d45_549 (by decide) (by decide) ?_
                  refine Go.iloadN 1 rfl d45_0 rfl ?_
                  refine Go.iloadN 2 rfl d45_1 rfl ?_
                  refine Go.icmp_ge 621 5 d45_2 (by decide) rfl rfl (fun (b130 : ¬ ((0 : Int32) + (1 : Int32)) < (1 : Int32)) => ?_) (fun (b130 : ((0 : Int32) + (1 : Int32)) < (1 : Int32)) => ?_)
                  · refine Go.iload 623 rfl d45_621 rfl ?_
                    refine Go.eqI (w := (1 : Int32)) (by decide) ?_
                    exact Go.retI d45_623 rfl (by decide) (by decide) ⟨rfl, ((Keep.refl h0 [t]).trans Kz3000 (by simp)), Az3000⟩
                  · exact absurd b130 (show ¬ ((0 : Int32) + (1 : Int32)) < (1 : Int32) from (by decide))
                · exact absurd b126 (show ¬ (1 : Int32) = 0 from (by decide))
              · refine Go.iloadN 507 rfl d45_506 rfl ?_
                refine Go.iloadN 508 rfl d45_507 rfl ?_
                refine Go.icmp_ge 552 511 d45_508 (by decide) rfl rfl (fun (b131 : ¬ ((0 : Int32) + (1 : Int32)) < (1 : Int32)) => ?_) (fun (b131 : ((0 : Int32) + (1 : Int32)) < (1 : Int32)) => ?_)
                · refine Go.iload 554 rfl d45_552 rfl ?_
                  refine Go.if_ne 564 557 d45_554 (by decide) rfl rfl (fun (b132 : ¬ (1 : Int32) = 0) => ?_) (fun (b132 : (1 : Int32) = 0) => ?_)
                  · refine Go.iinc 567 rfl (1 : Int32) d45_564 rfl rfl (Ls' := #[.val (.ref s), .val (.int (((0 : Int32) + (1 : Int32)) + (1 : Int32))), .val (.int (1 : Int32)), .val (.ref t), .val (.int (0 : Int32)), .val (.int (1 : Int32)), .val (.int v124), .unset, .unset, .unset, .unset]) rfl ?_
                    refine Go.aloadN 568 rfl d45_567 rfl rfl ?_
                    refine Go.iload 570 rfl d45_568 rfl ?_
                    refine Go.iinc 573 rfl (1 : Int32) d45_570 rfl rfl (Ls' := #[.val (.ref s), .val (.int (((0 : Int32) + (1 : Int32)) + (1 : Int32))), .val (.int (1 : Int32)), .val (.ref t), .val (.int ((0 : Int32) + (1 : Int32))), .val (.int (1 : Int32)), .val (.int v124), .unset, .unset, .unset, .unset]) rfl ?_
                    refine Go.ldcI 575 rfl (v := (65533 : Int32)) 241 d45_573 rfl ?_
                    refine Go.callS 578 rfl (C := B46) [.ref t, .int (0 : Int32), .int (65533 : Int32)] (rest := []) 242 243 214 244 (c46 Z hw h0 t (0 : Int32) (65533 : Int32) vd 0 rfl (by decide) hAs hHi hLo hgt (by first | omega | (simp only [own_putl]; omega)) hB) d45_575 rfl rfl rfl rfl (by decide) pd46 rfl rfl rfl (W := 0) (lb rfl) (by decide) (by decide) (by decide) (by decide) fun v133 h134 q135 => ?_
                    obtain ⟨rfl, Kz3000, Az3000⟩ := q135
                    refine Go.iloadN 579 rfl d45_578 rfl ?_
                    refine Go.iloadN 580 rfl d45_579 rfl ?_
                    refine Go.icmp_ge 621 583 d45_580 (by decide) rfl rfl (fun (b136 : ¬ (((0 : Int32) + (1 : Int32)) + (1 : Int32)) < (1 : Int32)) => ?_) (fun (b136 : (((0 : Int32) + (1 : Int32)) + (1 : Int32)) < (1 : Int32)) => ?_)
                    · refine Go.iload 623 rfl d45_621 rfl ?_
                      refine Go.eqI (w := (1 : Int32)) (by decide) ?_
                      exact Go.retI d45_623 rfl (by decide) (by decide) ⟨rfl, ((Keep.refl h0 [t]).trans Kz3000 (by simp)), Az3000⟩
                    · exact absurd b136 (show ¬ (((0 : Int32) + (1 : Int32)) + (1 : Int32)) < (1 : Int32) from (by decide))
                  · exact absurd b132 (show ¬ (1 : Int32) = 0 from (by decide))
                · exact absurd b131 (show ¬ ((0 : Int32) + (1 : Int32)) < (1 : Int32) from (by decide))
            · exact absurd b123 (show ¬ (((0 : Int32) + (1 : Int32)) + (2 : Int32)) < (1 : Int32) from (by decide))
        · refine Go.iloadN 153 rfl d45_152 rfl ?_
          refine Go.iconst 154 rfl (1 : Int32) d45_153 rfl ?_
          refine Go.iadd 155 rfl d45_154 ?_
          refine Go.iloadN 156 rfl d45_155 rfl ?_
          refine Go.icmp_ge 283 159 d45_156 (by decide) rfl rfl (fun (b111 : ¬ (((0 : Int32) + (1 : Int32)) + (1 : Int32)) < (1 : Int32)) => ?_) (fun (b111 : (((0 : Int32) + (1 : Int32)) + (1 : Int32)) < (1 : Int32)) => ?_)
          · refine Go.iloadN 284 rfl d45_283 rfl ?_
            refine Go.iloadN 285 rfl d45_284 rfl ?_
            refine Go.icmp_ge 325 288 d45_285 (by decide) rfl rfl (fun (b112 : ¬ ((0 : Int32) + (1 : Int32)) < (1 : Int32)) => ?_) (fun (b112 : ((0 : Int32) + (1 : Int32)) < (1 : Int32)) => ?_)
            · refine Go.iload 327 rfl d45_325 rfl ?_
              refine Go.if_ne 335 330 d45_327 (by decide) rfl rfl (fun (b113 : ¬ (1 : Int32) = 0) => ?_) (fun (b113 : (1 : Int32) = 0) => ?_)
              · refine Go.aloadN 336 rfl d45_335 rfl rfl ?_
                refine Go.iload 338 rfl d45_336 rfl ?_
                refine Go.iinc 341 rfl (1 : Int32) d45_338 rfl rfl (Ls' := #[.val (.ref s), .val (.int ((0 : Int32) + (1 : Int32))), .val (.int (1 : Int32)), .val (.ref t), .val (.int ((0 : Int32) + (1 : Int32))), .val (.int (1 : Int32)), .val (.int b0), .unset, .unset, .unset, .unset]) rfl ?_
                refine Go.ldcI 343 rfl (v := (65533 : Int32)) 241 d45_341 rfl ?_
                refine Go.callS 346 rfl (C := B46) [.ref t, .int (0 : Int32), .int (65533 : Int32)] (rest := []) 242 243 214 244 (c46 Z hw h0 t (0 : Int32) (65533 : Int32) vd 0 rfl (by decide) hAs hHi hLo hgt (by first | omega | (simp only [own_putl]; omega)) hB) d45_343 rfl rfl rfl rfl (by decide) pd46 rfl rfl rfl (W := 0) (lb rfl) (by decide) (by decide) (by decide) (by decide) fun v114 h115 q116 => ?_
                obtain ⟨rfl, Kz3000, Az3000⟩ := q116
                refine Go.goto 621 d45_346 (by decide) (by decide) ?_
                refine Go.iload 623 rfl d45_621 rfl ?_
                refine Go.eqI (w := (1 : Int32)) (by decide) ?_
                exact Go.retI d45_623 rfl (by decide) (by decide) ⟨rfl, ((Keep.refl h0 [t]).trans Kz3000 (by simp)), Az3000⟩
              · exact absurd b113 (show ¬ (1 : Int32) = 0 from (by decide))
            · exact absurd b112 (show ¬ ((0 : Int32) + (1 : Int32)) < (1 : Int32) from (by decide))
          · exact absurd b111 (show ¬ (((0 : Int32) + (1 : Int32)) + (1 : Int32)) < (1 : Int32) from (by decide))
    · exact absurd (show b0 < 0 from g) b102
theorem d10_0 : decode jdk_31_method_10_code 0 = .ok (.aload_n 0, 1) := by decide +kernel
theorem d10_1 : decode jdk_31_method_10_code 1 = .ok (.ifnonnull 11, 3) := by decide +kernel
theorem d10_12 : decode jdk_31_method_10_code 12 = .ok (.aload_n 0, 1) := by decide +kernel
theorem d10_13 : decode jdk_31_method_10_code 13 = .ok (.areturn, 1) := by decide +kernel
theorem pd10 : parseMethodDescriptor "(Ljava/lang/Object;)Ljava/lang/Object;" = some ⟨[(.object "java/lang/Object")], some (.object "java/lang/Object")⟩ := by decide +kernel
theorem pn10 : plainFor (⟨"java/util/Objects", "requireNonNull", "(Ljava/lang/Object;)Ljava/lang/Object;"⟩ : MethodName) = true := by first | (refine plainFor_of_name ?_; simp [plainName, overriddenIn]; done) | (refine plainFor_of_name ?_; decide +kernel) | decide +kernel
abbrev B10 : Bd := ((⟨"java/util/Objects", "requireNonNull", "(Ljava/lang/Object;)Ljava/lang/Object;"⟩ : MethodName), jdk_31_method_10_code, 1, (some (.object "java/lang/Object")), ({ frames := 0, cells := 0, slots := 0, locals := 0 } : Room), tables_1)
def Q10 (m : Addr) (h0 : Heap) (v : Option Value) (h : Heap) : Prop := v = some (.ref m) ∧ h0 = h
theorem c10 (Z : State) (hw : Wd Z tables_1) (h0 : Heap) (m : Addr)   : Con Z B10 (List.toArray [.ref m]) h0 (Q10 m h0) := by
  refine Con.mk (Ls := #[.val (.ref m)]) hw pn10 (fun mid => by first | (simp [entryFrame, mkF, argsToLocals, Value.category, Jvm.Ow.Bd.ml, B10]; done) | rfl) (Go.old fun hle' => ?_)
  have hle := hle'.1
  refine Go.aloadN 1 rfl d10_0 rfl rfl ?_
  refine Go.ifnonnull_r 12 d10_1 (by decide) rfl ?_
  refine Go.aloadN 13 rfl d10_12 rfl rfl ?_
  exact Go.retA d10_13 rfl rfl rfl (by decide) (by decide) ⟨rfl, rfl⟩
theorem d5_0 : decode jdk_31_method_11_code 0 = .ok (.aload_n 0, 1) := by decide +kernel
theorem d5_1 : decode jdk_31_method_11_code 1 = .ok (.ifnonnull 12, 3) := by decide +kernel
theorem d5_13 : decode jdk_31_method_11_code 13 = .ok (.aload_n 0, 1) := by decide +kernel
theorem d5_14 : decode jdk_31_method_11_code 14 = .ok (.areturn, 1) := by decide +kernel
theorem pd5 : parseMethodDescriptor "(Ljava/lang/Object;Ljava/lang/String;)Ljava/lang/Object;" = some ⟨[(.object "java/lang/Object"), (.object "java/lang/String")], some (.object "java/lang/Object")⟩ := by decide +kernel
theorem pn5 : plainFor (⟨"java/util/Objects", "requireNonNull", "(Ljava/lang/Object;Ljava/lang/String;)Ljava/lang/Object;"⟩ : MethodName) = true := by first | (refine plainFor_of_name ?_; simp [plainName, overriddenIn]; done) | (refine plainFor_of_name ?_; decide +kernel) | decide +kernel
abbrev B5 : Bd := ((⟨"java/util/Objects", "requireNonNull", "(Ljava/lang/Object;Ljava/lang/String;)Ljava/lang/Object;"⟩ : MethodName), jdk_31_method_11_code, 2, (some (.object "java/lang/Object")), ({ frames := 0, cells := 0, slots := 0, locals := 0 } : Room), tables_1)
def Q5 (m : Addr) (h0 : Heap) (v : Option Value) (h : Heap) : Prop := v = some (.ref m) ∧ h0 = h
theorem c5 (Z : State) (hw : Wd Z tables_1) (h0 : Heap) (m : Addr) (n : Addr)   : Con Z B5 (List.toArray [.ref m, .ref n]) h0 (Q5 m h0) := by
  refine Con.mk (Ls := #[.val (.ref m), .val (.ref n)]) hw pn5 (fun mid => by first | (simp [entryFrame, mkF, argsToLocals, Value.category, Jvm.Ow.Bd.ml, B5]; done) | rfl) (Go.old fun hle' => ?_)
  have hle := hle'.1
  refine Go.aloadN 1 rfl d5_0 rfl rfl ?_
  refine Go.ifnonnull_r 13 d5_1 (by decide) rfl ?_
  refine Go.aloadN 14 rfl d5_13 rfl rfl ?_
  exact Go.retA d5_14 rfl rfl rfl (by decide) (by decide) ⟨rfl, rfl⟩
theorem d54_0 : decode jdk_42_method_11_code 0 = .ok (.aload_n 0, 1) := by decide +kernel
theorem d54_1 : decode jdk_42_method_11_code 1 = .ok (.invokespecial 1, 3) := by decide +kernel
theorem d54_4 : decode jdk_42_method_11_code 4 = .ok (.iload 4, 2) := by decide +kernel
theorem d54_6 : decode jdk_42_method_11_code 6 = .ok (.ifCond .ne 24, 3) := by decide +kernel
theorem d54_9 : decode jdk_42_method_11_code 9 = .ok (.aload_n 0, 1) := by decide +kernel
theorem d54_10 : decode jdk_42_method_11_code 10 = .ok (.ldc 7, 2) := by decide +kernel
theorem d54_12 : decode jdk_42_method_11_code 12 = .ok (.getfield 9, 3) := by decide +kernel
theorem d54_15 : decode jdk_42_method_11_code 15 = .ok (.putfield 9, 3) := by decide +kernel
theorem d54_18 : decode jdk_42_method_11_code 18 = .ok (.aload_n 0, 1) := by decide +kernel
theorem d54_19 : decode jdk_42_method_11_code 19 = .ok (.ldc 7, 2) := by decide +kernel
theorem d54_21 : decode jdk_42_method_11_code 21 = .ok (.getfield 15, 3) := by decide +kernel
theorem d54_24 : decode jdk_42_method_11_code 24 = .ok (.putfield 15, 3) := by decide +kernel
theorem d54_27 : decode jdk_42_method_11_code 27 = .ok (.goto 852, 3) := by decide +kernel
theorem d54_30 : decode jdk_42_method_11_code 30 = .ok (.aload_n 1, 1) := by decide +kernel
theorem d54_31 : decode jdk_42_method_11_code 31 = .ok (.getstatic 86, 3) := by decide +kernel
theorem d54_34 : decode jdk_42_method_11_code 34 = .ok (.if_acmp .ne 312, 3) := by decide +kernel
theorem d54_37 : decode jdk_42_method_11_code 37 = .ok (.getstatic 38, 3) := by decide +kernel
theorem d54_40 : decode jdk_42_method_11_code 40 = .ok (.ifCond .eq 252, 3) := by decide +kernel
theorem d54_43 : decode jdk_42_method_11_code 43 = .ok (.aload_n 2, 1) := by decide +kernel
theorem d54_44 : decode jdk_42_method_11_code 44 = .ok (.iload_n 3, 1) := by decide +kernel
theorem d54_45 : decode jdk_42_method_11_code 45 = .ok (.iload 4, 2) := by decide +kernel
theorem d54_47 : decode jdk_42_method_11_code 47 = .ok (.invokestatic 92, 3) := by decide +kernel
theorem d54_50 : decode jdk_42_method_11_code 50 = .ok (.istore 5, 2) := by decide +kernel
theorem d54_52 : decode jdk_42_method_11_code 52 = .ok (.iload 5, 2) := by decide +kernel
theorem d54_54 : decode jdk_42_method_11_code 54 = .ok (.iload 4, 2) := by decide +kernel
theorem d54_56 : decode jdk_42_method_11_code 56 = .ok (.if_icmp .ne 22, 3) := by decide +kernel
theorem d54_59 : decode jdk_42_method_11_code 59 = .ok (.aload_n 0, 1) := by decide +kernel
theorem d54_60 : decode jdk_42_method_11_code 60 = .ok (.aload_n 2, 1) := by decide +kernel
theorem d54_61 : decode jdk_42_method_11_code 61 = .ok (.iload_n 3, 1) := by decide +kernel
theorem d54_62 : decode jdk_42_method_11_code 62 = .ok (.iload_n 3, 1) := by decide +kernel
theorem d54_63 : decode jdk_42_method_11_code 63 = .ok (.iload 4, 2) := by decide +kernel
theorem d54_65 : decode jdk_42_method_11_code 65 = .ok (.iadd, 1) := by decide +kernel
theorem d54_66 : decode jdk_42_method_11_code 66 = .ok (.invokestatic 54, 3) := by decide +kernel
theorem d54_69 : decode jdk_42_method_11_code 69 = .ok (.putfield 9, 3) := by decide +kernel
theorem d54_72 : decode jdk_42_method_11_code 72 = .ok (.aload_n 0, 1) := by decide +kernel
theorem d54_73 : decode jdk_42_method_11_code 73 = .ok (.iconst 0, 1) := by decide +kernel
theorem d54_74 : decode jdk_42_method_11_code 74 = .ok (.putfield 15, 3) := by decide +kernel
theorem d54_77 : decode jdk_42_method_11_code 77 = .ok (.return_, 1) := by decide +kernel
theorem d54_78 : decode jdk_42_method_11_code 78 = .ok (.aload_n 2, 1) := by decide +kernel
theorem d54_79 : decode jdk_42_method_11_code 79 = .ok (.iload_n 3, 1) := by decide +kernel
theorem d54_80 : decode jdk_42_method_11_code 80 = .ok (.iload_n 3, 1) := by decide +kernel
theorem d54_81 : decode jdk_42_method_11_code 81 = .ok (.iload 4, 2) := by decide +kernel
theorem d54_83 : decode jdk_42_method_11_code 83 = .ok (.iadd, 1) := by decide +kernel
theorem d54_84 : decode jdk_42_method_11_code 84 = .ok (.invokestatic 54, 3) := by decide +kernel
theorem d54_87 : decode jdk_42_method_11_code 87 = .ok (.astore 6, 2) := by decide +kernel
theorem d54_89 : decode jdk_42_method_11_code 89 = .ok (.iload 5, 2) := by decide +kernel
theorem d54_91 : decode jdk_42_method_11_code 91 = .ok (.istore 7, 2) := by decide +kernel
theorem d54_93 : decode jdk_42_method_11_code 93 = .ok (.iload 7, 2) := by decide +kernel
theorem d54_95 : decode jdk_42_method_11_code 95 = .ok (.iload 4, 2) := by decide +kernel
theorem d54_97 : decode jdk_42_method_11_code 97 = .ok (.if_icmp .ge 93, 3) := by decide +kernel
theorem d54_100 : decode jdk_42_method_11_code 100 = .ok (.aload 6, 2) := by decide +kernel
theorem d54_102 : decode jdk_42_method_11_code 102 = .ok (.iload 7, 2) := by decide +kernel
theorem d54_104 : decode jdk_42_method_11_code 104 = .ok (.iinc 7 1, 3) := by decide +kernel
theorem d54_107 : decode jdk_42_method_11_code 107 = .ok (.baload, 1) := by decide +kernel
theorem d54_108 : decode jdk_42_method_11_code 108 = .ok (.istore 8, 2) := by decide +kernel
theorem d54_110 : decode jdk_42_method_11_code 110 = .ok (.iload 8, 2) := by decide +kernel
theorem d54_112 : decode jdk_42_method_11_code 112 = .ok (.ifCond .lt 17, 3) := by decide +kernel
theorem d54_129 : decode jdk_42_method_11_code 129 = .ok (.iload 8, 2) := by decide +kernel
theorem d54_131 : decode jdk_42_method_11_code 131 = .ok (.sipush 254, 3) := by decide +kernel
theorem d54_134 : decode jdk_42_method_11_code 134 = .ok (.iand, 1) := by decide +kernel
theorem d54_135 : decode jdk_42_method_11_code 135 = .ok (.sipush 194, 3) := by decide +kernel
theorem d54_138 : decode jdk_42_method_11_code 138 = .ok (.if_icmp .ne 46, 3) := by decide +kernel
theorem d54_141 : decode jdk_42_method_11_code 141 = .ok (.iload 7, 2) := by decide +kernel
theorem d54_143 : decode jdk_42_method_11_code 143 = .ok (.iload 4, 2) := by decide +kernel
theorem d54_145 : decode jdk_42_method_11_code 145 = .ok (.if_icmp .ge 39, 3) := by decide +kernel
theorem d54_148 : decode jdk_42_method_11_code 148 = .ok (.aload 6, 2) := by decide +kernel
theorem d54_150 : decode jdk_42_method_11_code 150 = .ok (.iload 7, 2) := by decide +kernel
theorem d54_152 : decode jdk_42_method_11_code 152 = .ok (.baload, 1) := by decide +kernel
theorem d54_153 : decode jdk_42_method_11_code 153 = .ok (.istore 9, 2) := by decide +kernel
theorem d54_155 : decode jdk_42_method_11_code 155 = .ok (.iload 9, 2) := by decide +kernel
theorem d54_157 : decode jdk_42_method_11_code 157 = .ok (.bipush (-64), 2) := by decide +kernel
theorem d54_159 : decode jdk_42_method_11_code 159 = .ok (.if_icmp .ge 25, 3) := by decide +kernel
theorem d54_184 : decode jdk_42_method_11_code 184 = .ok (.iinc 7 (-1), 3) := by decide +kernel
theorem d54_187 : decode jdk_42_method_11_code 187 = .ok (.goto 3, 3) := by decide +kernel
theorem d54_190 : decode jdk_42_method_11_code 190 = .ok (.iload 7, 2) := by decide +kernel
theorem d54_192 : decode jdk_42_method_11_code 192 = .ok (.iload 4, 2) := by decide +kernel
theorem d54_194 : decode jdk_42_method_11_code 194 = .ok (.if_icmp .ne 32, 3) := by decide +kernel
theorem d54_226 : decode jdk_42_method_11_code 226 = .ok (.iload 4, 2) := by decide +kernel
theorem d54_228 : decode jdk_42_method_11_code 228 = .ok (.invokestatic 60, 3) := by decide +kernel
theorem d54_231 : decode jdk_42_method_11_code 231 = .ok (.astore 8, 2) := by decide +kernel
theorem d54_233 : decode jdk_42_method_11_code 233 = .ok (.aload 6, 2) := by decide +kernel
theorem d54_235 : decode jdk_42_method_11_code 235 = .ok (.iconst 0, 1) := by decide +kernel
theorem d54_236 : decode jdk_42_method_11_code 236 = .ok (.aload 8, 2) := by decide +kernel
theorem d54_238 : decode jdk_42_method_11_code 238 = .ok (.iconst 0, 1) := by decide +kernel
theorem d54_239 : decode jdk_42_method_11_code 239 = .ok (.iload 5, 2) := by decide +kernel
theorem d54_241 : decode jdk_42_method_11_code 241 = .ok (.invokestatic 106, 3) := by decide +kernel
theorem d54_244 : decode jdk_42_method_11_code 244 = .ok (.aload 6, 2) := by decide +kernel
theorem d54_246 : decode jdk_42_method_11_code 246 = .ok (.iload 7, 2) := by decide +kernel
theorem d54_248 : decode jdk_42_method_11_code 248 = .ok (.iload 4, 2) := by decide +kernel
theorem d54_250 : decode jdk_42_method_11_code 250 = .ok (.aload 8, 2) := by decide +kernel
theorem d54_252 : decode jdk_42_method_11_code 252 = .ok (.iload 5, 2) := by decide +kernel
theorem d54_254 : decode jdk_42_method_11_code 254 = .ok (.iconst 1, 1) := by decide +kernel
theorem d54_255 : decode jdk_42_method_11_code 255 = .ok (.invokestatic 112, 3) := by decide +kernel
theorem d54_258 : decode jdk_42_method_11_code 258 = .ok (.istore 5, 2) := by decide +kernel
theorem d54_260 : decode jdk_42_method_11_code 260 = .ok (.iload 5, 2) := by decide +kernel
theorem d54_262 : decode jdk_42_method_11_code 262 = .ok (.iload 4, 2) := by decide +kernel
theorem d54_264 : decode jdk_42_method_11_code 264 = .ok (.if_icmp .eq 14, 3) := by decide +kernel
theorem d54_278 : decode jdk_42_method_11_code 278 = .ok (.aload_n 0, 1) := by decide +kernel
theorem d54_279 : decode jdk_42_method_11_code 279 = .ok (.aload 8, 2) := by decide +kernel
theorem d54_281 : decode jdk_42_method_11_code 281 = .ok (.putfield 9, 3) := by decide +kernel
theorem d54_284 : decode jdk_42_method_11_code 284 = .ok (.aload_n 0, 1) := by decide +kernel
theorem d54_285 : decode jdk_42_method_11_code 285 = .ok (.iconst 1, 1) := by decide +kernel
theorem d54_286 : decode jdk_42_method_11_code 286 = .ok (.putfield 15, 3) := by decide +kernel
theorem d54_289 : decode jdk_42_method_11_code 289 = .ok (.goto 590, 3) := by decide +kernel
theorem d54_879 : decode jdk_42_method_11_code 879 = .ok (.return_, 1) := by decide +kernel
theorem pd54 : parseMethodDescriptor "(Ljava/nio/charset/Charset;[BII)V" = some ⟨[(.object "java/nio/charset/Charset"), (.array .byte), .int, .int], none⟩ := by decide +kernel
theorem pn54 : plainFor (⟨"java/lang/String", "<init>", "(Ljava/nio/charset/Charset;[BII)V"⟩ : MethodName) = true := by first | (refine plainFor_of_name ?_; simp [plainName, overriddenIn]; done) | (refine plainFor_of_name ?_; decide +kernel) | decide +kernel
abbrev B54 : Bd := ((⟨"java/lang/String", "<init>", "(Ljava/nio/charset/Charset;[BII)V"⟩ : MethodName), jdk_42_method_11_code, 11, none, ({ frames := 5, cells := 4, slots := 42, locals := 76 } : Room), tables_1)
def Q54k2V (Z : State) (a : Addr) (b0 : Int32) (b1 : Int32) (yt : Int32) (h0 : Heap) (v : Option Value) (h : Heap) : Prop := v = none ∧ ∃ t, h0.size ≤ t ∧ Keep h0 h [a] ∧ YSv Z h a (.ref t) ∧ YSc Z h a (.int 1) ∧ Ary Z h t .byte (IL [lo (65533 : Int32), hi (65533 : Int32), lo yt, hi yt])
theorem c54k2V (Z : State) (hw : Wd Z tables_1) (h0 : Heap) (a : Addr) (m : Addr) (s : Addr) (b0 : Int32) (b1 : Int32) (yt : Int32) (g : b0 < 0) (hp : ¬ b1 < 0) (hnc : ¬ (b1 &&& (192 : Int32)) = (128 : Int32)) (hnc2 : ¬ ((b1 &&& (255 : Int32)) &&& (192 : Int32)) = (128 : Int32)) (hyt : b1.toUInt32.toUInt16.toUInt32.toInt32 = yt) (cs : Int32) (hS : YCs Z cs) (hcs : ¬ cs = 0) (hAs : YAs Z) (hHi : YHi Z) (hLo : YLo Z) (hfm : YFm Z) (hU : YUt Z m) (hge : Z.heap.size ≤ a) (hE : YEs Z h0 a) (hV : YSv Z h0 a .null) (hC : YSc Z h0 a (.int 0)) (hA : Ary Z h0 s .byte [.int b0, .int b1]) (hEs : Exa Z h0 s "[B") : ConW [(800, 813, 816, 202)] Z B54 (List.toArray [.ref a, .ref m, .ref s, .int (0 : Int32), .int (2 : Int32)]) h0 (Q54k2V Z a b0 b1 yt h0) := by
  refine ConW.mk (Ls := #[.val (.ref a), .val (.ref m), .val (.ref s), .val (.int (0 : Int32)), .val (.int (2 : Int32)), .unset, .unset, .unset, .unset, .unset, .unset]) hw pn54 (fun mid => by first | (simp [entryFrame, mkF, argsToLocals, Value.category, Jvm.Ow.Bd.ml, B54]; done) | rfl) (Go.old fun hle' => ?_)
  have hle := hle'.1
  refine Go.aloadN 1 rfl d54_0 rfl rfl ?_
  refine Go.initO 4 rfl 73 17 18 d54_1 rfl rfl rfl rfl (by decide) (W := 0) (lb rfl) (by decide) ?_
  refine Go.iload 6 rfl d54_4 rfl ?_
  refine Go.if_ne 30 9 d54_6 (by decide) rfl rfl (fun (b101 : ¬ (2 : Int32) = 0) => ?_) (fun (b101 : (2 : Int32) = 0) => ?_)
  · refine Go.aloadN 31 rfl d54_30 rfl rfl ?_
    refine Go.getS 34 rfl (v := .ref m) 194 d54_31 rfl hU ?_
    refine Go.acmp_ne 346 37 d54_34 (by decide) rfl rfl rfl rfl (fun (b102 : ¬ (.ref m : Value) = .ref m) => ?_) (fun (b102 : (.ref m : Value) = .ref m) => ?_)
    · exact absurd (show (.ref m : Value) = .ref m from rfl) b102
    · refine Go.getS 40 rfl (v := .int cs) 97 d54_37 rfl hS ?_
      refine Go.if_eq 292 43 d54_40 (by decide) rfl rfl (fun (b103 : cs = 0) => ?_) (fun (b103 : ¬ cs = 0) => ?_)
      · exact absurd b103 (show ¬ cs = 0 from hcs)
      · refine Go.aloadN 44 rfl d54_43 rfl rfl ?_
        refine Go.iloadN 45 rfl d54_44 rfl ?_
        refine Go.iload 47 rfl d54_45 rfl ?_
        refine Go.callS 50 rfl (C := B35) [.ref s, .int (0 : Int32), .int (2 : Int32)] (rest := []) 196 197 198 199 (c352c Z hw h0 s b0 b1 g hA) d54_47 rfl rfl rfl rfl (by decide) pd35 rfl rfl rfl (W := 0) (lb rfl) (by decide) (by decide) (by decide) (by decide) fun v104 h105 q106 => ?_
        obtain ⟨rfl, rfl⟩ := q106
        refine Go.istore 52 rfl d54_50 (Ls' := #[.val (.ref a), .val (.ref m), .val (.ref s), .val (.int (0 : Int32)), .val (.int (2 : Int32)), .val (.int (0 : Int32)), .unset, .unset, .unset, .unset, .unset]) rfl ?_
        refine Go.iload 54 rfl d54_52 rfl ?_
        refine Go.iload 56 rfl d54_54 rfl ?_
        refine Go.icmp_ne 78 59 d54_56 (by decide) rfl rfl (fun (b107 : ¬ (0 : Int32) = (2 : Int32)) => ?_) (fun (b107 : (0 : Int32) = (2 : Int32)) => ?_)
        · refine Go.aloadN 79 rfl d54_78 rfl rfl ?_
          refine Go.iloadN 80 rfl d54_79 rfl ?_
          refine Go.iloadN 81 rfl d54_80 rfl ?_
          refine Go.iload 83 rfl d54_81 rfl ?_
          refine Go.iadd 84 rfl d54_83 ?_
          refine Go.eqI (w := (2 : Int32)) (by decide) ?_
          refine Go.callS 87 rfl (C := B26) [.ref s, .int (0 : Int32), .int (2 : Int32)] (rest := []) 156 157 158 159 (c26w Z hw h0 s (2 : Int32) [.int b0, .int b1] rfl (lb rfl) hA hEs) d54_84 rfl rfl rfl rfl (by decide) pd26 rfl rfl rfl (W := 0) (lb rfl) (by decide) (by decide) (by decide) (by decide) fun v108 h109 q110 => ?_
          obtain ⟨u, rfl, gu, Ku, Au⟩ := q110
          have z111 : Z.heap.size ≤ u := Nat.le_trans hle gu
          refine Go.astore 89 rfl d54_87 rfl (Ls' := #[.val (.ref a), .val (.ref m), .val (.ref s), .val (.int (0 : Int32)), .val (.int (2 : Int32)), .val (.int (0 : Int32)), .val (.ref u), .unset, .unset, .unset, .unset]) rfl ?_
          refine Go.iload 91 rfl d54_89 rfl ?_
          refine Go.istore 93 rfl d54_91 (Ls' := #[.val (.ref a), .val (.ref m), .val (.ref s), .val (.int (0 : Int32)), .val (.int (2 : Int32)), .val (.int (0 : Int32)), .val (.ref u), .val (.int (0 : Int32)), .unset, .unset, .unset]) rfl ?_
          refine Go.iload 95 rfl d54_93 rfl ?_
          refine Go.iload 97 rfl d54_95 rfl ?_
          refine Go.icmp_ge 190 100 d54_97 (by decide) rfl rfl (fun (b112 : ¬ (0 : Int32) < (2 : Int32)) => ?_) (fun (b112 : (0 : Int32) < (2 : Int32)) => ?_)
          · exact absurd (show (0 : Int32) < (2 : Int32) from (by decide)) b112
          · refine Go.aload 102 rfl d54_100 rfl rfl ?_
            refine Go.iload 104 rfl d54_102 rfl ?_
            refine Go.iinc 107 rfl (1 : Int32) d54_104 rfl rfl (Ls' := #[.val (.ref a), .val (.ref m), .val (.ref s), .val (.int (0 : Int32)), .val (.int (2 : Int32)), .val (.int (0 : Int32)), .val (.ref u), .val (.int ((0 : Int32) + (1 : Int32))), .unset, .unset, .unset]) rfl ?_
            refine Go.baload 108 rfl b0 d54_107 Au 0 rfl rfl ?_
            refine Go.istore 110 rfl d54_108 (Ls' := #[.val (.ref a), .val (.ref m), .val (.ref s), .val (.int (0 : Int32)), .val (.int (2 : Int32)), .val (.int (0 : Int32)), .val (.ref u), .val (.int ((0 : Int32) + (1 : Int32))), .val (.int b0), .unset, .unset]) rfl ?_
            refine Go.iload 112 rfl d54_110 rfl ?_
            refine Go.if_lt 129 115 d54_112 (by decide) rfl rfl (fun (b113 : b0 < 0) => ?_) (fun (b113 : ¬ b0 < 0) => ?_)
            · refine Go.iload 131 rfl d54_129 rfl ?_
              refine Go.sipush 134 rfl (254 : Int32) d54_131 rfl ?_
              refine Go.iand 135 rfl d54_134 ?_
              refine Go.sipush 138 rfl (194 : Int32) d54_135 rfl ?_
              refine Go.icmp_ne 184 141 d54_138 (by decide) rfl rfl (fun (b114 : ¬ (b0 &&& (254 : Int32)) = (194 : Int32)) => ?_) (fun (b114 : (b0 &&& (254 : Int32)) = (194 : Int32)) => ?_)
              · refine Go.iinc 187 rfl (-1 : Int32) d54_184 rfl rfl (Ls' := #[.val (.ref a), .val (.ref m), .val (.ref s), .val (.int (0 : Int32)), .val (.int (2 : Int32)), .val (.int (0 : Int32)), .val (.ref u), .val (.int (((0 : Int32) + (1 : Int32)) + (-1 : Int32))), .val (.int b0), .unset, .unset]) rfl ?_
                refine Go.goto 190 d54_187 (by decide) (by decide) ?_
                refine Go.iload 192 rfl d54_190 rfl ?_
                refine Go.iload 194 rfl d54_192 rfl ?_
                refine Go.icmp_ne 226 197 d54_194 (by decide) rfl rfl (fun (b117 : ¬ (((0 : Int32) + (1 : Int32)) + (-1 : Int32)) = (2 : Int32)) => ?_) (fun (b117 : (((0 : Int32) + (1 : Int32)) + (-1 : Int32)) = (2 : Int32)) => ?_)
                · refine Go.iload 228 rfl d54_226 rfl ?_
                  refine Go.callS 231 rfl (C := B37) [.int (2 : Int32)] (rest := []) 212 213 214 215 (c37n2 Z hw h109) d54_228 rfl rfl rfl rfl (by decide) pd37 rfl rfl rfl (W := 0) (lb rfl) (by decide) (by decide) (by decide) (by decide) fun v118 h119 q120 => ?_
                  obtain ⟨t, rfl, gt, Kt, At⟩ := q120
                  have z121 : Z.heap.size ≤ t := Nat.le_trans (Nat.le_trans hle Ku.1) gt
                  refine Go.astore 233 rfl d54_231 rfl (Ls' := #[.val (.ref a), .val (.ref m), .val (.ref s), .val (.int (0 : Int32)), .val (.int (2 : Int32)), .val (.int (0 : Int32)), .val (.ref u), .val (.int (((0 : Int32) + (1 : Int32)) + (-1 : Int32))), .val (.ref t), .unset, .unset]) rfl ?_
                  refine Go.aload 235 rfl d54_233 rfl rfl ?_
                  refine Go.iconst 236 rfl (0 : Int32) d54_235 rfl ?_
                  refine Go.aload 238 rfl d54_236 rfl rfl ?_
                  refine Go.iconst 239 rfl (0 : Int32) d54_238 rfl ?_
                  refine Go.iload 241 rfl d54_239 rfl ?_
                  have F122 : Ary Z h119 u .byte [.int b0, .int b1] := (Au.keep Kt nin0)
                  have ne123 : u ≠ t := (show @Ne Nat u t from by have := ltN Au.lt; have := gt; omega)
                  refine Go.callS 244 rfl (C := B39) [.ref u, .int (0 : Int32), .ref t, .int (0 : Int32), .int (0 : Int32)] (rest := []) 220 221 184 222 (c39n0 Z hw h119 u t (0 : Int32) [b0, b1] (zer 4) 0 rfl (by decide) (4 : Int32) (2 : Int32) rfl (by decide) (by decide) (lb rfl) hfm (by decide) (by decide) hAs hHi hLo F122 At z121 ne123) d54_241 rfl rfl rfl rfl (by decide) pd39 rfl rfl rfl (W := 0) (lb rfl) (by decide) (by decide) (by decide) (by decide) fun v124 h125 q126 => ?_
                  obtain ⟨rfl, Ki, Ai⟩ := q126
                  refine Go.aload 246 rfl d54_244 rfl rfl ?_
                  refine Go.iload 248 rfl d54_246 rfl ?_
                  refine Go.eqI (w := (0 : Int32)) (by decide) ?_
                  refine Go.iload 250 rfl d54_248 rfl ?_
                  refine Go.aload 252 rfl d54_250 rfl rfl ?_
                  refine Go.iload 254 rfl d54_252 rfl ?_
                  refine Go.iconst 255 rfl (1 : Int32) d54_254 rfl ?_
                  have F127 : Ary Z h125 u .byte [.int b0, .int b1] := (F122.keep Ki (ninS ne123 nin0))
                  refine Go.callS 258 rfl (C := B45) [.ref u, .int (0 : Int32), .int (2 : Int32), .ref t, .int (0 : Int32), .int (1 : Int32)] (rest := []) 238 239 20 240 (c45d2V Z hw h125 u t (zer 4) yt b0 b1 g hp hnc hnc2 hyt rfl hAs hHi hLo F127 Ai z121 ne123) d54_255 rfl rfl rfl rfl (by decide) pd45 rfl rfl rfl (W := 0) (lb rfl) (by decide) (by decide) (by decide) (by decide) fun v128 h129 q130 => ?_
                  obtain ⟨rfl, Kd, Ad⟩ := q130
                  have A131 : Ary Z h129 t .byte (IL [lo (65533 : Int32), hi (65533 : Int32), lo yt, hi yt]) := Ad
                  refine Go.istore 260 rfl d54_258 (Ls' := #[.val (.ref a), .val (.ref m), .val (.ref s), .val (.int (0 : Int32)), .val (.int (2 : Int32)), .val (.int (2 : Int32)), .val (.ref u), .val (.int (((0 : Int32) + (1 : Int32)) + (-1 : Int32))), .val (.ref t), .unset, .unset]) rfl ?_
                  refine Go.iload 262 rfl d54_260 rfl ?_
                  refine Go.iload 264 rfl d54_262 rfl ?_
                  refine Go.icmp_eq 278 267 d54_264 (by decide) rfl rfl (fun (b132 : (2 : Int32) = (2 : Int32)) => ?_) (fun (b132 : ¬ (2 : Int32) = (2 : Int32)) => ?_)
                  · refine Go.aloadN 279 rfl d54_278 rfl rfl ?_
                    refine Go.aload 281 rfl d54_279 rfl rfl ?_
                    have ne133 : a ≠ t := (show @Ne Nat a t from by have := ltN hE.lt; have := Ku.1; have := gt; omega)
                    have F134 : YSv Z h129 a (.null) := ((((hV.keep Ku nin0).keep Kt nin0).keep Ki (ninS ne133 nin0)).keep Kd (ninS ne133 nin0))
                    have F135 : YEs Z h129 a := ((((hE.keep Ku).keep Kt).keep Ki).keep Kd)
                    refine Go.putF 284 rfl (v' := .ref t) (ty := (.array .byte)) 75 22 21 d54_281 rfl F134 F135 (Or.inr ⟨rfl, rfl, rfl⟩) rfl (by decide) rfl rfl hge fun h136 K137 W138 F139 => ?_
                    refine Go.aloadN 285 rfl d54_284 rfl rfl ?_
                    refine Go.iconst 286 rfl (1 : Int32) d54_285 rfl ?_
                    have F140 : YSc Z h136 a (.int (0 : Int32)) := (Fld.oth hw ((((hC.keep Ku nin0).keep Kt nin0).keep Ki (ninS ne133 nin0)).keep Kd (ninS ne133 nin0)) W138 23 22 (Or.inr rfl) (Or.inr rfl) (by decide) rfl rfl)
                    have F141 : YEs Z h136 a := (F135.keep K137)
                    refine Go.putF 289 rfl (v' := .int (1 : Int32)) (ty := .byte) 76 23 21 d54_286 rfl F140 F141 (Or.inr ⟨rfl, rfl, rfl⟩) rfl (by decide) rfl rfl hge fun h142 K143 W144 F145 => ?_
                    refine Go.goto 879 d54_289 (by decide) (by decide) ?_
                    have kc146 : Keep h0 h142 [a] := (((((((Keep.refl h0 [a]).trans Ku all0).trans Kt all0).trans Ki (allS (Or.inr (Nat.le_trans Ku.1 gt)) all0)).trans Kd (allS (Or.inr (Nat.le_trans Ku.1 gt)) all0)).trans K137 (by simp)).trans K143 (by simp))
                    have F147 : YSv Z h142 a (.ref t) := (Fld.oth hw F139 W144 22 23 (Or.inr rfl) (Or.inr rfl) (by decide) rfl rfl)
                    have F148 : Ary Z h142 t .byte (IL [lo (65533 : Int32), hi (65533 : Int32), lo yt, hi yt]) := ((A131.keep K137 (ninS (Ne.symm ne133) nin0)).keep K143 (ninS (Ne.symm ne133) nin0))
                    exact Go.retV d54_879 rfl (by decide) (by decide) ⟨rfl, t, (by have := Ku.1; have := gt; omega), kc146, F147, F145, F148⟩
                  · exact absurd (show (2 : Int32) = (2 : Int32) from (by decide)) b132
                · exact absurd b117 (show ¬ (((0 : Int32) + (1 : Int32)) + (-1 : Int32)) = (2 : Int32) from (by decide))
              · refine Go.iload 143 rfl d54_141 rfl ?_
                refine Go.iload 145 rfl d54_143 rfl ?_
                refine Go.icmp_ge 184 148 d54_145 (by decide) rfl rfl (fun (b115 : ¬ ((0 : Int32) + (1 : Int32)) < (2 : Int32)) => ?_) (fun (b115 : ((0 : Int32) + (1 : Int32)) < (2 : Int32)) => ?_)
                · exact absurd (show ((0 : Int32) + (1 : Int32)) < (2 : Int32) from (by decide)) b115
                · refine Go.aload 150 rfl d54_148 rfl rfl ?_
                  refine Go.iload 152 rfl d54_150 rfl ?_
                  refine Go.baload 153 rfl b1 d54_152 Au 1 rfl rfl ?_
                  refine Go.istore 155 rfl d54_153 (Ls' := #[.val (.ref a), .val (.ref m), .val (.ref s), .val (.int (0 : Int32)), .val (.int (2 : Int32)), .val (.int (0 : Int32)), .val (.ref u), .val (.int ((0 : Int32) + (1 : Int32))), .val (.int b0), .val (.int b1), .unset]) rfl ?_
                  refine Go.iload 157 rfl d54_155 rfl ?_
                  refine Go.bipush 159 rfl (-64 : Int32) d54_157 rfl ?_
                  refine Go.icmp_ge 184 162 d54_159 (by decide) rfl rfl (fun (b116 : ¬ b1 < (-64 : Int32)) => ?_) (fun (b116 : b1 < (-64 : Int32)) => ?_)
                  · refine Go.iinc 187 rfl (-1 : Int32) d54_184 rfl rfl (Ls' := #[.val (.ref a), .val (.ref m), .val (.ref s), .val (.int (0 : Int32)), .val (.int (2 : Int32)), .val (.int (0 : Int32)), .val (.ref u), .val (.int (((0 : Int32) + (1 : Int32)) + (-1 : Int32))), .val (.int b0), .val (.int b1), .unset]) rfl ?_
                    refine Go.goto 190 d54_187 (by decide) (by decide) ?_
                    refine Go.iload 192 rfl d54_190 rfl ?_
                    refine Go.iload 194 rfl d54_192 rfl ?_
                    refine Go.icmp_ne 226 197 d54_194 (by decide) rfl rfl (fun (b149 : ¬ (((0 : Int32) + (1 : Int32)) + (-1 : Int32)) = (2 : Int32)) => ?_) (fun (b149 : (((0 : Int32) + (1 : Int32)) + (-1 : Int32)) = (2 : Int32)) => ?_)
                    · refine Go.iload 228 rfl d54_226 rfl ?_
                      refine Go.callS 231 rfl (C := B37) [.int (2 : Int32)] (rest := []) 212 213 214 215 (c37n2 Z hw h109) d54_228 rfl rfl rfl rfl (by decide) pd37 rfl rfl rfl (W := 0) (lb rfl) (by decide) (by decide) (by decide) (by decide) fun v150 h151 q152 => ?_
                      obtain ⟨t, rfl, gt, Kt, At⟩ := q152
                      have z153 : Z.heap.size ≤ t := Nat.le_trans (Nat.le_trans hle Ku.1) gt
                      refine Go.astore 233 rfl d54_231 rfl (Ls' := #[.val (.ref a), .val (.ref m), .val (.ref s), .val (.int (0 : Int32)), .val (.int (2 : Int32)), .val (.int (0 : Int32)), .val (.ref u), .val (.int (((0 : Int32) + (1 : Int32)) + (-1 : Int32))), .val (.ref t), .val (.int b1), .unset]) rfl ?_
                      refine Go.aload 235 rfl d54_233 rfl rfl ?_
                      refine Go.iconst 236 rfl (0 : Int32) d54_235 rfl ?_
                      refine Go.aload 238 rfl d54_236 rfl rfl ?_
                      refine Go.iconst 239 rfl (0 : Int32) d54_238 rfl ?_
                      refine Go.iload 241 rfl d54_239 rfl ?_
                      have F154 : Ary Z h151 u .byte [.int b0, .int b1] := (Au.keep Kt nin0)
                      have ne155 : u ≠ t := (show @Ne Nat u t from by have := ltN Au.lt; have := gt; omega)
                      refine Go.callS 244 rfl (C := B39) [.ref u, .int (0 : Int32), .ref t, .int (0 : Int32), .int (0 : Int32)] (rest := []) 220 221 184 222 (c39n0 Z hw h151 u t (0 : Int32) [b0, b1] (zer 4) 0 rfl (by decide) (4 : Int32) (2 : Int32) rfl (by decide) (by decide) (lb rfl) hfm (by decide) (by decide) hAs hHi hLo F154 At z153 ne155) d54_241 rfl rfl rfl rfl (by decide) pd39 rfl rfl rfl (W := 0) (lb rfl) (by decide) (by decide) (by decide) (by decide) fun v156 h157 q158 => ?_
                      obtain ⟨rfl, Ki, Ai⟩ := q158
                      refine Go.aload 246 rfl d54_244 rfl rfl ?_
                      refine Go.iload 248 rfl d54_246 rfl ?_
                      refine Go.eqI (w := (0 : Int32)) (by decide) ?_
                      refine Go.iload 250 rfl d54_248 rfl ?_
                      refine Go.aload 252 rfl d54_250 rfl rfl ?_
                      refine Go.iload 254 rfl d54_252 rfl ?_
                      refine Go.iconst 255 rfl (1 : Int32) d54_254 rfl ?_
                      have F159 : Ary Z h157 u .byte [.int b0, .int b1] := (F154.keep Ki (ninS ne155 nin0))
                      refine Go.callS 258 rfl (C := B45) [.ref u, .int (0 : Int32), .int (2 : Int32), .ref t, .int (0 : Int32), .int (1 : Int32)] (rest := []) 238 239 20 240 (c45d2V Z hw h157 u t (zer 4) yt b0 b1 g hp hnc hnc2 hyt rfl hAs hHi hLo F159 Ai z153 ne155) d54_255 rfl rfl rfl rfl (by decide) pd45 rfl rfl rfl (W := 0) (lb rfl) (by decide) (by decide) (by decide) (by decide) fun v160 h161 q162 => ?_
                      obtain ⟨rfl, Kd, Ad⟩ := q162
                      have A163 : Ary Z h161 t .byte (IL [lo (65533 : Int32), hi (65533 : Int32), lo yt, hi yt]) := Ad
                      refine Go.istore 260 rfl d54_258 (Ls' := #[.val (.ref a), .val (.ref m), .val (.ref s), .val (.int (0 : Int32)), .val (.int (2 : Int32)), .val (.int (2 : Int32)), .val (.ref u), .val (.int (((0 : Int32) + (1 : Int32)) + (-1 : Int32))), .val (.ref t), .val (.int b1), .unset]) rfl ?_
                      refine Go.iload 262 rfl d54_260 rfl ?_
                      refine Go.iload 264 rfl d54_262 rfl ?_
                      refine Go.icmp_eq 278 267 d54_264 (by decide) rfl rfl (fun (b164 : (2 : Int32) = (2 : Int32)) => ?_) (fun (b164 : ¬ (2 : Int32) = (2 : Int32)) => ?_)
                      · refine Go.aloadN 279 rfl d54_278 rfl rfl ?_
                        refine Go.aload 281 rfl d54_279 rfl rfl ?_
                        have ne165 : a ≠ t := (show @Ne Nat a t from by have := ltN hE.lt; have := Ku.1; have := gt; omega)
                        have F166 : YSv Z h161 a (.null) := ((((hV.keep Ku nin0).keep Kt nin0).keep Ki (ninS ne165 nin0)).keep Kd (ninS ne165 nin0))
                        have F167 : YEs Z h161 a := ((((hE.keep Ku).keep Kt).keep Ki).keep Kd)
                        refine Go.putF 284 rfl (v' := .ref t) (ty := (.array .byte)) 75 22 21 d54_281 rfl F166 F167 (Or.inr ⟨rfl, rfl, rfl⟩) rfl (by decide) rfl rfl hge fun h168 K169 W170 F171 => ?_
                        refine Go.aloadN 285 rfl d54_284 rfl rfl ?_
                        refine Go.iconst 286 rfl (1 : Int32) d54_285 rfl ?_
                        have F172 : YSc Z h168 a (.int (0 : Int32)) := (Fld.oth hw ((((hC.keep Ku nin0).keep Kt nin0).keep Ki (ninS ne165 nin0)).keep Kd (ninS ne165 nin0)) W170 23 22 (Or.inr rfl) (Or.inr rfl) (by decide) rfl rfl)
                        have F173 : YEs Z h168 a := (F167.keep K169)
                        refine Go.putF 289 rfl (v' := .int (1 : Int32)) (ty := .byte) 76 23 21 d54_286 rfl F172 F173 (Or.inr ⟨rfl, rfl, rfl⟩) rfl (by decide) rfl rfl hge fun h174 K175 W176 F177 => ?_
                        refine Go.goto 879 d54_289 (by decide) (by decide) ?_
                        have kc178 : Keep h0 h174 [a] := (((((((Keep.refl h0 [a]).trans Ku all0).trans Kt all0).trans Ki (allS (Or.inr (Nat.le_trans Ku.1 gt)) all0)).trans Kd (allS (Or.inr (Nat.le_trans Ku.1 gt)) all0)).trans K169 (by simp)).trans K175 (by simp))
                        have F179 : YSv Z h174 a (.ref t) := (Fld.oth hw F171 W176 22 23 (Or.inr rfl) (Or.inr rfl) (by decide) rfl rfl)
                        have F180 : Ary Z h174 t .byte (IL [lo (65533 : Int32), hi (65533 : Int32), lo yt, hi yt]) := ((A163.keep K169 (ninS (Ne.symm ne165) nin0)).keep K175 (ninS (Ne.symm ne165) nin0))
                        exact Go.retV d54_879 rfl (by decide) (by decide) ⟨rfl, t, (by have := Ku.1; have := gt; omega), kc178, F179, F177, F180⟩
                      · exact absurd (show (2 : Int32) = (2 : Int32) from (by decide)) b164
                    · exact absurd b149 (show ¬ (((0 : Int32) + (1 : Int32)) + (-1 : Int32)) = (2 : Int32) from (by decide))
                  · exact absurd b116 (show ¬ b1 < (-64 : Int32) from (own_pm hp))
            · exact absurd (show b0 < 0 from g) b113
        · exact absurd b107 (show ¬ (0 : Int32) = (2 : Int32) from (by decide))
  · exact absurd b101 (show ¬ (2 : Int32) = 0 from (by decide))
def Q54k2U (Z : State) (a : Addr) (b0 : Int32) (b1 : Int32) (h0 : Heap) (v : Option Value) (h : Heap) : Prop := v = none ∧ ∃ t, h0.size ≤ t ∧ Keep h0 h [a] ∧ YSv Z h a (.ref t) ∧ YSc Z h a (.int 1) ∧ Ary Z h t .byte (IL [lo (b0 &&& (255 : Int32)), hi (b0 &&& (255 : Int32)), lo (65533 : Int32), hi (65533 : Int32)])
theorem c54k2U (Z : State) (hw : Wd Z tables_1) (h0 : Heap) (a : Addr) (m : Addr) (s : Addr) (b0 : Int32) (b1 : Int32) (g0 : ¬ b0 < 0) (g : b1 < 0) (cs : Int32) (hS : YCs Z cs) (hcs : ¬ cs = 0) (hAs : YAs Z) (hHi : YHi Z) (hLo : YLo Z) (hfm : YFm Z) (hU : YUt Z m) (hge : Z.heap.size ≤ a) (hE : YEs Z h0 a) (hV : YSv Z h0 a .null) (hC : YSc Z h0 a (.int 0)) (hA : Ary Z h0 s .byte [.int b0, .int b1]) (hEs : Exa Z h0 s "[B") : ConW [(800, 813, 816, 202)] Z B54 (List.toArray [.ref a, .ref m, .ref s, .int (0 : Int32), .int (2 : Int32)]) h0 (Q54k2U Z a b0 b1 h0) := by
  refine ConW.mk (Ls := #[.val (.ref a), .val (.ref m), .val (.ref s), .val (.int (0 : Int32)), .val (.int (2 : Int32)), .unset, .unset, .unset, .unset, .unset, .unset]) hw pn54 (fun mid => by first | (simp [entryFrame, mkF, argsToLocals, Value.category, Jvm.Ow.Bd.ml, B54]; done) | rfl) (Go.old fun hle' => ?_)
  have hle := hle'.1
  refine Go.aloadN 1 rfl d54_0 rfl rfl ?_
  refine Go.initO 4 rfl 73 17 18 d54_1 rfl rfl rfl rfl (by decide) (W := 0) (lb rfl) (by decide) ?_
  refine Go.iload 6 rfl d54_4 rfl ?_
  refine Go.if_ne 30 9 d54_6 (by decide) rfl rfl (fun (b101 : ¬ (2 : Int32) = 0) => ?_) (fun (b101 : (2 : Int32) = 0) => ?_)
  · refine Go.aloadN 31 rfl d54_30 rfl rfl ?_
    refine Go.getS 34 rfl (v := .ref m) 194 d54_31 rfl hU ?_
    refine Go.acmp_ne 346 37 d54_34 (by decide) rfl rfl rfl rfl (fun (b102 : ¬ (.ref m : Value) = .ref m) => ?_) (fun (b102 : (.ref m : Value) = .ref m) => ?_)
    · exact absurd (show (.ref m : Value) = .ref m from rfl) b102
    · refine Go.getS 40 rfl (v := .int cs) 97 d54_37 rfl hS ?_
      refine Go.if_eq 292 43 d54_40 (by decide) rfl rfl (fun (b103 : cs = 0) => ?_) (fun (b103 : ¬ cs = 0) => ?_)
      · exact absurd b103 (show ¬ cs = 0 from hcs)
      · refine Go.aloadN 44 rfl d54_43 rfl rfl ?_
        refine Go.iloadN 45 rfl d54_44 rfl ?_
        refine Go.iload 47 rfl d54_45 rfl ?_
        refine Go.callS 50 rfl (C := B35) [.ref s, .int (0 : Int32), .int (2 : Int32)] (rest := []) 196 197 198 199 (c352b Z hw h0 s b0 b1 g0 g hA) d54_47 rfl rfl rfl rfl (by decide) pd35 rfl rfl rfl (W := 0) (lb rfl) (by decide) (by decide) (by decide) (by decide) fun v104 h105 q106 => ?_
        obtain ⟨rfl, rfl⟩ := q106
        refine Go.istore 52 rfl d54_50 (Ls' := #[.val (.ref a), .val (.ref m), .val (.ref s), .val (.int (0 : Int32)), .val (.int (2 : Int32)), .val (.int (1 : Int32)), .unset, .unset, .unset, .unset, .unset]) rfl ?_
        refine Go.iload 54 rfl d54_52 rfl ?_
        refine Go.iload 56 rfl d54_54 rfl ?_
        refine Go.icmp_ne 78 59 d54_56 (by decide) rfl rfl (fun (b107 : ¬ (1 : Int32) = (2 : Int32)) => ?_) (fun (b107 : (1 : Int32) = (2 : Int32)) => ?_)
        · refine Go.aloadN 79 rfl d54_78 rfl rfl ?_
          refine Go.iloadN 80 rfl d54_79 rfl ?_
          refine Go.iloadN 81 rfl d54_80 rfl ?_
          refine Go.iload 83 rfl d54_81 rfl ?_
          refine Go.iadd 84 rfl d54_83 ?_
          refine Go.eqI (w := (2 : Int32)) (by decide) ?_
          refine Go.callS 87 rfl (C := B26) [.ref s, .int (0 : Int32), .int (2 : Int32)] (rest := []) 156 157 158 159 (c26w Z hw h0 s (2 : Int32) [.int b0, .int b1] rfl (lb rfl) hA hEs) d54_84 rfl rfl rfl rfl (by decide) pd26 rfl rfl rfl (W := 0) (lb rfl) (by decide) (by decide) (by decide) (by decide) fun v108 h109 q110 => ?_
          obtain ⟨u, rfl, gu, Ku, Au⟩ := q110
          have z111 : Z.heap.size ≤ u := Nat.le_trans hle gu
          refine Go.astore 89 rfl d54_87 rfl (Ls' := #[.val (.ref a), .val (.ref m), .val (.ref s), .val (.int (0 : Int32)), .val (.int (2 : Int32)), .val (.int (1 : Int32)), .val (.ref u), .unset, .unset, .unset, .unset]) rfl ?_
          refine Go.iload 91 rfl d54_89 rfl ?_
          refine Go.istore 93 rfl d54_91 (Ls' := #[.val (.ref a), .val (.ref m), .val (.ref s), .val (.int (0 : Int32)), .val (.int (2 : Int32)), .val (.int (1 : Int32)), .val (.ref u), .val (.int (1 : Int32)), .unset, .unset, .unset]) rfl ?_
          refine Go.iload 95 rfl d54_93 rfl ?_
          refine Go.iload 97 rfl d54_95 rfl ?_
          refine Go.icmp_ge 190 100 d54_97 (by decide) rfl rfl (fun (b112 : ¬ (1 : Int32) < (2 : Int32)) => ?_) (fun (b112 : (1 : Int32) < (2 : Int32)) => ?_)
          · exact absurd (show (1 : Int32) < (2 : Int32) from (by decide)) b112
          · refine Go.aload 102 rfl d54_100 rfl rfl ?_
            refine Go.iload 104 rfl d54_102 rfl ?_
            refine Go.iinc 107 rfl (1 : Int32) d54_104 rfl rfl (Ls' := #[.val (.ref a), .val (.ref m), .val (.ref s), .val (.int (0 : Int32)), .val (.int (2 : Int32)), .val (.int (1 : Int32)), .val (.ref u), .val (.int ((1 : Int32) + (1 : Int32))), .unset, .unset, .unset]) rfl ?_
            refine Go.baload 108 rfl b1 d54_107 Au 1 rfl rfl ?_
            refine Go.istore 110 rfl d54_108 (Ls' := #[.val (.ref a), .val (.ref m), .val (.ref s), .val (.int (0 : Int32)), .val (.int (2 : Int32)), .val (.int (1 : Int32)), .val (.ref u), .val (.int ((1 : Int32) + (1 : Int32))), .val (.int b1), .unset, .unset]) rfl ?_
            refine Go.iload 112 rfl d54_110 rfl ?_
            refine Go.if_lt 129 115 d54_112 (by decide) rfl rfl (fun (b113 : b1 < 0) => ?_) (fun (b113 : ¬ b1 < 0) => ?_)
            · refine Go.iload 131 rfl d54_129 rfl ?_
              refine Go.sipush 134 rfl (254 : Int32) d54_131 rfl ?_
              refine Go.iand 135 rfl d54_134 ?_
              refine Go.sipush 138 rfl (194 : Int32) d54_135 rfl ?_
              refine Go.jn (pcJ := 184) (LsJ := #[.val (.ref a), .val (.ref m), .val (.ref s), .val (.int (0 : Int32)), .val (.int (2 : Int32)), .val (.int (1 : Int32)), .val (.ref u), .val (.int ((1 : Int32) + (1 : Int32))), .val (.int b1), .unset, .unset]) (stJ := []) (fun J => ?_) ?_
              · refine Go.icmp_ne 184 141 d54_138 (by decide) rfl rfl (fun (b114 : ¬ (b1 &&& (254 : Int32)) = (194 : Int32)) => ?_) (fun (b114 : (b1 &&& (254 : Int32)) = (194 : Int32)) => ?_)
                · exact J
                · refine Go.iload 143 rfl d54_141 rfl ?_
                  refine Go.iload 145 rfl d54_143 rfl ?_
                  refine Go.icmp_ge 184 148 d54_145 (by decide) rfl rfl (fun (b115 : ¬ ((1 : Int32) + (1 : Int32)) < (2 : Int32)) => ?_) (fun (b115 : ((1 : Int32) + (1 : Int32)) < (2 : Int32)) => ?_)
                  · exact J
                  · exact absurd b115 (show ¬ ((1 : Int32) + (1 : Int32)) < (2 : Int32) from (by decide))
              · refine Go.iinc 187 rfl (-1 : Int32) d54_184 rfl rfl (Ls' := #[.val (.ref a), .val (.ref m), .val (.ref s), .val (.int (0 : Int32)), .val (.int (2 : Int32)), .val (.int (1 : Int32)), .val (.ref u), .val (.int (((1 : Int32) + (1 : Int32)) + (-1 : Int32))), .val (.int b1), .unset, .unset]) rfl ?_
                refine Go.goto 190 d54_187 (by decide) (by decide) ?_
                refine Go.iload 192 rfl d54_190 rfl ?_
                refine Go.iload 194 rfl d54_192 rfl ?_
                refine Go.icmp_ne 226 197 d54_194 (by decide) rfl rfl (fun (b116 : ¬ (((1 : Int32) + (1 : Int32)) + (-1 : Int32)) = (2 : Int32)) => ?_) (fun (b116 : (((1 : Int32) + (1 : Int32)) + (-1 : Int32)) = (2 : Int32)) => ?_)
                · refine Go.iload 228 rfl d54_226 rfl ?_
                  refine Go.callS 231 rfl (C := B37) [.int (2 : Int32)] (rest := []) 212 213 214 215 (c37n2 Z hw h109) d54_228 rfl rfl rfl rfl (by decide) pd37 rfl rfl rfl (W := 0) (lb rfl) (by decide) (by decide) (by decide) (by decide) fun v117 h118 q119 => ?_
                  obtain ⟨t, rfl, gt, Kt, At⟩ := q119
                  have z120 : Z.heap.size ≤ t := Nat.le_trans (Nat.le_trans hle Ku.1) gt
                  refine Go.astore 233 rfl d54_231 rfl (Ls' := #[.val (.ref a), .val (.ref m), .val (.ref s), .val (.int (0 : Int32)), .val (.int (2 : Int32)), .val (.int (1 : Int32)), .val (.ref u), .val (.int (((1 : Int32) + (1 : Int32)) + (-1 : Int32))), .val (.ref t), .unset, .unset]) rfl ?_
                  refine Go.aload 235 rfl d54_233 rfl rfl ?_
                  refine Go.iconst 236 rfl (0 : Int32) d54_235 rfl ?_
                  refine Go.aload 238 rfl d54_236 rfl rfl ?_
                  refine Go.iconst 239 rfl (0 : Int32) d54_238 rfl ?_
                  refine Go.iload 241 rfl d54_239 rfl ?_
                  have F121 : Ary Z h118 u .byte [.int b0, .int b1] := (Au.keep Kt nin0)
                  have ne122 : u ≠ t := (show @Ne Nat u t from by have := ltN Au.lt; have := gt; omega)
                  refine Go.callS 244 rfl (C := B39) [.ref u, .int (0 : Int32), .ref t, .int (0 : Int32), .int (1 : Int32)] (rest := []) 220 221 184 222 (c39n1 Z hw h118 u t (0 : Int32) [b0, b1] (zer 4) 0 rfl (by decide) (4 : Int32) (2 : Int32) rfl (by decide) (by decide) (lb rfl) hfm (by decide) (by decide) hAs hHi hLo F121 At z120 ne122) d54_241 rfl rfl rfl rfl (by decide) pd39 rfl rfl rfl (W := 0) (lb rfl) (by decide) (by decide) (by decide) (by decide) fun v123 h124 q125 => ?_
                  obtain ⟨rfl, Ki, Ai⟩ := q125
                  refine Go.aload 246 rfl d54_244 rfl rfl ?_
                  refine Go.iload 248 rfl d54_246 rfl ?_
                  refine Go.eqI (w := (1 : Int32)) (by decide) ?_
                  refine Go.iload 250 rfl d54_248 rfl ?_
                  refine Go.aload 252 rfl d54_250 rfl rfl ?_
                  refine Go.iload 254 rfl d54_252 rfl ?_
                  refine Go.iconst 255 rfl (1 : Int32) d54_254 rfl ?_
                  have F126 : Ary Z h124 u .byte [.int b0, .int b1] := (F121.keep Ki (ninS ne122 nin0))
                  refine Go.callS 258 rfl (C := B45) [.ref u, .int (1 : Int32), .int (2 : Int32), .ref t, .int (1 : Int32), .int (1 : Int32)] (rest := []) 238 239 20 240 (c45d2U Z hw h124 u t (put (zer 4) (0 + 0) (([b0, b1]).getD 0 0 &&& (255 : Int32)))  b0 b1 g rfl hAs hHi hLo F126 Ai z120 ne122) d54_255 rfl rfl rfl rfl (by decide) pd45 rfl rfl rfl (W := 0) (lb rfl) (by decide) (by decide) (by decide) (by decide) fun v127 h128 q129 => ?_
                  obtain ⟨rfl, Kd, Ad⟩ := q129
                  have A130 : Ary Z h128 t .byte (IL [lo (b0 &&& (255 : Int32)), hi (b0 &&& (255 : Int32)), lo (65533 : Int32), hi (65533 : Int32)]) := Ad
                  refine Go.istore 260 rfl d54_258 (Ls' := #[.val (.ref a), .val (.ref m), .val (.ref s), .val (.int (0 : Int32)), .val (.int (2 : Int32)), .val (.int (2 : Int32)), .val (.ref u), .val (.int (((1 : Int32) + (1 : Int32)) + (-1 : Int32))), .val (.ref t), .unset, .unset]) rfl ?_
                  refine Go.iload 262 rfl d54_260 rfl ?_
                  refine Go.iload 264 rfl d54_262 rfl ?_
                  refine Go.icmp_eq 278 267 d54_264 (by decide) rfl rfl (fun (b131 : (2 : Int32) = (2 : Int32)) => ?_) (fun (b131 : ¬ (2 : Int32) = (2 : Int32)) => ?_)
                  · refine Go.aloadN 279 rfl d54_278 rfl rfl ?_
                    refine Go.aload 281 rfl d54_279 rfl rfl ?_
                    have ne132 : a ≠ t := (show @Ne Nat a t from by have := ltN hE.lt; have := Ku.1; have := gt; omega)
                    have F133 : YSv Z h128 a (.null) := ((((hV.keep Ku nin0).keep Kt nin0).keep Ki (ninS ne132 nin0)).keep Kd (ninS ne132 nin0))
                    have F134 : YEs Z h128 a := ((((hE.keep Ku).keep Kt).keep Ki).keep Kd)
                    refine Go.putF 284 rfl (v' := .ref t) (ty := (.array .byte)) 75 22 21 d54_281 rfl F133 F134 (Or.inr ⟨rfl, rfl, rfl⟩) rfl (by decide) rfl rfl hge fun h135 K136 W137 F138 => ?_
                    refine Go.aloadN 285 rfl d54_284 rfl rfl ?_
                    refine Go.iconst 286 rfl (1 : Int32) d54_285 rfl ?_
                    have F139 : YSc Z h135 a (.int (0 : Int32)) := (Fld.oth hw ((((hC.keep Ku nin0).keep Kt nin0).keep Ki (ninS ne132 nin0)).keep Kd (ninS ne132 nin0)) W137 23 22 (Or.inr rfl) (Or.inr rfl) (by decide) rfl rfl)
                    have F140 : YEs Z h135 a := (F134.keep K136)
                    refine Go.putF 289 rfl (v' := .int (1 : Int32)) (ty := .byte) 76 23 21 d54_286 rfl F139 F140 (Or.inr ⟨rfl, rfl, rfl⟩) rfl (by decide) rfl rfl hge fun h141 K142 W143 F144 => ?_
                    refine Go.goto 879 d54_289 (by decide) (by decide) ?_
                    have kc145 : Keep h0 h141 [a] := (((((((Keep.refl h0 [a]).trans Ku all0).trans Kt all0).trans Ki (allS (Or.inr (Nat.le_trans Ku.1 gt)) all0)).trans Kd (allS (Or.inr (Nat.le_trans Ku.1 gt)) all0)).trans K136 (by simp)).trans K142 (by simp))
                    have F146 : YSv Z h141 a (.ref t) := (Fld.oth hw F138 W143 22 23 (Or.inr rfl) (Or.inr rfl) (by decide) rfl rfl)
                    have F147 : Ary Z h141 t .byte (IL [lo (b0 &&& (255 : Int32)), hi (b0 &&& (255 : Int32)), lo (65533 : Int32), hi (65533 : Int32)]) := ((A130.keep K136 (ninS (Ne.symm ne132) nin0)).keep K142 (ninS (Ne.symm ne132) nin0))
                    exact Go.retV d54_879 rfl (by decide) (by decide) ⟨rfl, t, (by have := Ku.1; have := gt; omega), kc145, F146, F144, F147⟩
                  · exact absurd (show (2 : Int32) = (2 : Int32) from (by decide)) b131
                · exact absurd b116 (show ¬ (((1 : Int32) + (1 : Int32)) + (-1 : Int32)) = (2 : Int32) from (by decide))
            · exact absurd (show b1 < 0 from g) b113
        · exact absurd b107 (show ¬ (1 : Int32) = (2 : Int32) from (by decide))
  · exact absurd b101 (show ¬ (2 : Int32) = 0 from (by decide))
def Q54k1U (Z : State) (a : Addr) (b0 : Int32) (h0 : Heap) (v : Option Value) (h : Heap) : Prop := v = none ∧ ∃ t, h0.size ≤ t ∧ Keep h0 h [a] ∧ YSv Z h a (.ref t) ∧ YSc Z h a (.int 1) ∧ Ary Z h t .byte (IL [lo (65533 : Int32), hi (65533 : Int32)])
theorem c54k1U (Z : State) (hw : Wd Z tables_1) (h0 : Heap) (a : Addr) (m : Addr) (s : Addr) (b0 : Int32) (g : b0 < 0) (cs : Int32) (hS : YCs Z cs) (hcs : ¬ cs = 0) (hAs : YAs Z) (hHi : YHi Z) (hLo : YLo Z) (hfm : YFm Z) (hU : YUt Z m) (hge : Z.heap.size ≤ a) (hE : YEs Z h0 a) (hV : YSv Z h0 a .null) (hC : YSc Z h0 a (.int 0)) (hA : Ary Z h0 s .byte [.int b0]) (hEs : Exa Z h0 s "[B") : ConW [(800, 813, 816, 202)] Z B54 (List.toArray [.ref a, .ref m, .ref s, .int (0 : Int32), .int (1 : Int32)]) h0 (Q54k1U Z a b0 h0) := by
  refine ConW.mk (Ls := #[.val (.ref a), .val (.ref m), .val (.ref s), .val (.int (0 : Int32)), .val (.int (1 : Int32)), .unset, .unset, .unset, .unset, .unset, .unset]) hw pn54 (fun mid => by first | (simp [entryFrame, mkF, argsToLocals, Value.category, Jvm.Ow.Bd.ml, B54]; done) | rfl) (Go.old fun hle' => ?_)
  have hle := hle'.1
  refine Go.aloadN 1 rfl d54_0 rfl rfl ?_
  refine Go.initO 4 rfl 73 17 18 d54_1 rfl rfl rfl rfl (by decide) (W := 0) (lb rfl) (by decide) ?_
  refine Go.iload 6 rfl d54_4 rfl ?_
  refine Go.if_ne 30 9 d54_6 (by decide) rfl rfl (fun (b101 : ¬ (1 : Int32) = 0) => ?_) (fun (b101 : (1 : Int32) = 0) => ?_)
  · refine Go.aloadN 31 rfl d54_30 rfl rfl ?_
    refine Go.getS 34 rfl (v := .ref m) 194 d54_31 rfl hU ?_
    refine Go.acmp_ne 346 37 d54_34 (by decide) rfl rfl rfl rfl (fun (b102 : ¬ (.ref m : Value) = .ref m) => ?_) (fun (b102 : (.ref m : Value) = .ref m) => ?_)
    · exact absurd (show (.ref m : Value) = .ref m from rfl) b102
    · refine Go.getS 40 rfl (v := .int cs) 97 d54_37 rfl hS ?_
      refine Go.if_eq 292 43 d54_40 (by decide) rfl rfl (fun (b103 : cs = 0) => ?_) (fun (b103 : ¬ cs = 0) => ?_)
      · exact absurd b103 (show ¬ cs = 0 from hcs)
      · refine Go.aloadN 44 rfl d54_43 rfl rfl ?_
        refine Go.iloadN 45 rfl d54_44 rfl ?_
        refine Go.iload 47 rfl d54_45 rfl ?_
        refine Go.callS 50 rfl (C := B35) [.ref s, .int (0 : Int32), .int (1 : Int32)] (rest := []) 196 197 198 199 (c351c Z hw h0 s b0 g hA) d54_47 rfl rfl rfl rfl (by decide) pd35 rfl rfl rfl (W := 0) (lb rfl) (by decide) (by decide) (by decide) (by decide) fun v104 h105 q106 => ?_
        obtain ⟨rfl, rfl⟩ := q106
        refine Go.istore 52 rfl d54_50 (Ls' := #[.val (.ref a), .val (.ref m), .val (.ref s), .val (.int (0 : Int32)), .val (.int (1 : Int32)), .val (.int (0 : Int32)), .unset, .unset, .unset, .unset, .unset]) rfl ?_
        refine Go.iload 54 rfl d54_52 rfl ?_
        refine Go.iload 56 rfl d54_54 rfl ?_
        refine Go.icmp_ne 78 59 d54_56 (by decide) rfl rfl (fun (b107 : ¬ (0 : Int32) = (1 : Int32)) => ?_) (fun (b107 : (0 : Int32) = (1 : Int32)) => ?_)
        · refine Go.aloadN 79 rfl d54_78 rfl rfl ?_
          refine Go.iloadN 80 rfl d54_79 rfl ?_
          refine Go.iloadN 81 rfl d54_80 rfl ?_
          refine Go.iload 83 rfl d54_81 rfl ?_
          refine Go.iadd 84 rfl d54_83 ?_
          refine Go.eqI (w := (1 : Int32)) (by decide) ?_
          refine Go.callS 87 rfl (C := B26) [.ref s, .int (0 : Int32), .int (1 : Int32)] (rest := []) 156 157 158 159 (c26w Z hw h0 s (1 : Int32) [.int b0] rfl (lb rfl) hA hEs) d54_84 rfl rfl rfl rfl (by decide) pd26 rfl rfl rfl (W := 0) (lb rfl) (by decide) (by decide) (by decide) (by decide) fun v108 h109 q110 => ?_
          obtain ⟨u, rfl, gu, Ku, Au⟩ := q110
          have z111 : Z.heap.size ≤ u := Nat.le_trans hle gu
          refine Go.astore 89 rfl d54_87 rfl (Ls' := #[.val (.ref a), .val (.ref m), .val (.ref s), .val (.int (0 : Int32)), .val (.int (1 : Int32)), .val (.int (0 : Int32)), .val (.ref u), .unset, .unset, .unset, .unset]) rfl ?_
          refine Go.iload 91 rfl d54_89 rfl ?_
          refine Go.istore 93 rfl d54_91 (Ls' := #[.val (.ref a), .val (.ref m), .val (.ref s), .val (.int (0 : Int32)), .val (.int (1 : Int32)), .val (.int (0 : Int32)), .val (.ref u), .val (.int (0 : Int32)), .unset, .unset, .unset]) rfl ?_
          refine Go.iload 95 rfl d54_93 rfl ?_
          refine Go.iload 97 rfl d54_95 rfl ?_
          refine Go.icmp_ge 190 100 d54_97 (by decide) rfl rfl (fun (b112 : ¬ (0 : Int32) < (1 : Int32)) => ?_) (fun (b112 : (0 : Int32) < (1 : Int32)) => ?_)
          · exact absurd (show (0 : Int32) < (1 : Int32) from (by decide)) b112
          · refine Go.aload 102 rfl d54_100 rfl rfl ?_
            refine Go.iload 104 rfl d54_102 rfl ?_
            refine Go.iinc 107 rfl (1 : Int32) d54_104 rfl rfl (Ls' := #[.val (.ref a), .val (.ref m), .val (.ref s), .val (.int (0 : Int32)), .val (.int (1 : Int32)), .val (.int (0 : Int32)), .val (.ref u), .val (.int ((0 : Int32) + (1 : Int32))), .unset, .unset, .unset]) rfl ?_
            refine Go.baload 108 rfl b0 d54_107 Au 0 rfl rfl ?_
            refine Go.istore 110 rfl d54_108 (Ls' := #[.val (.ref a), .val (.ref m), .val (.ref s), .val (.int (0 : Int32)), .val (.int (1 : Int32)), .val (.int (0 : Int32)), .val (.ref u), .val (.int ((0 : Int32) + (1 : Int32))), .val (.int b0), .unset, .unset]) rfl ?_
            refine Go.iload 112 rfl d54_110 rfl ?_
            refine Go.if_lt 129 115 d54_112 (by decide) rfl rfl (fun (b113 : b0 < 0) => ?_) (fun (b113 : ¬ b0 < 0) => ?_)
            · refine Go.iload 131 rfl d54_129 rfl ?_
              refine Go.sipush 134 rfl (254 : Int32) d54_131 rfl ?_
              refine Go.iand 135 rfl d54_134 ?_
              refine Go.sipush 138 rfl (194 : Int32) d54_135 rfl ?_
              refine Go.jn (pcJ := 184) (LsJ := #[.val (.ref a), .val (.ref m), .val (.ref s), .val (.int (0 : Int32)), .val (.int (1 : Int32)), .val (.int (0 : Int32)), .val (.ref u), .val (.int ((0 : Int32) + (1 : Int32))), .val (.int b0), .unset, .unset]) (stJ := []) (fun J => ?_) ?_
              · refine Go.icmp_ne 184 141 d54_138 (by decide) rfl rfl (fun (b114 : ¬ (b0 &&& (254 : Int32)) = (194 : Int32)) => ?_) (fun (b114 : (b0 &&& (254 : Int32)) = (194 : Int32)) => ?_)
                · exact J
                · refine Go.iload 143 rfl d54_141 rfl ?_
                  refine Go.iload 145 rfl d54_143 rfl ?_
                  refine Go.icmp_ge 184 148 d54_145 (by decide) rfl rfl (fun (b115 : ¬ ((0 : Int32) + (1 : Int32)) < (1 : Int32)) => ?_) (fun (b115 : ((0 : Int32) + (1 : Int32)) < (1 : Int32)) => ?_)
                  · exact J
                  · exact absurd b115 (show ¬ ((0 : Int32) + (1 : Int32)) < (1 : Int32) from (by decide))
              · refine Go.iinc 187 rfl (-1 : Int32) d54_184 rfl rfl (Ls' := #[.val (.ref a), .val (.ref m), .val (.ref s), .val (.int (0 : Int32)), .val (.int (1 : Int32)), .val (.int (0 : Int32)), .val (.ref u), .val (.int (((0 : Int32) + (1 : Int32)) + (-1 : Int32))), .val (.int b0), .unset, .unset]) rfl ?_
                refine Go.goto 190 d54_187 (by decide) (by decide) ?_
                refine Go.iload 192 rfl d54_190 rfl ?_
                refine Go.iload 194 rfl d54_192 rfl ?_
                refine Go.icmp_ne 226 197 d54_194 (by decide) rfl rfl (fun (b116 : ¬ (((0 : Int32) + (1 : Int32)) + (-1 : Int32)) = (1 : Int32)) => ?_) (fun (b116 : (((0 : Int32) + (1 : Int32)) + (-1 : Int32)) = (1 : Int32)) => ?_)
                · refine Go.iload 228 rfl d54_226 rfl ?_
                  refine Go.callS 231 rfl (C := B37) [.int (1 : Int32)] (rest := []) 212 213 214 215 (c37n1 Z hw h109) d54_228 rfl rfl rfl rfl (by decide) pd37 rfl rfl rfl (W := 0) (lb rfl) (by decide) (by decide) (by decide) (by decide) fun v117 h118 q119 => ?_
                  obtain ⟨t, rfl, gt, Kt, At⟩ := q119
                  have z120 : Z.heap.size ≤ t := Nat.le_trans (Nat.le_trans hle Ku.1) gt
                  refine Go.astore 233 rfl d54_231 rfl (Ls' := #[.val (.ref a), .val (.ref m), .val (.ref s), .val (.int (0 : Int32)), .val (.int (1 : Int32)), .val (.int (0 : Int32)), .val (.ref u), .val (.int (((0 : Int32) + (1 : Int32)) + (-1 : Int32))), .val (.ref t), .unset, .unset]) rfl ?_
                  refine Go.aload 235 rfl d54_233 rfl rfl ?_
                  refine Go.iconst 236 rfl (0 : Int32) d54_235 rfl ?_
                  refine Go.aload 238 rfl d54_236 rfl rfl ?_
                  refine Go.iconst 239 rfl (0 : Int32) d54_238 rfl ?_
                  refine Go.iload 241 rfl d54_239 rfl ?_
                  have F121 : Ary Z h118 u .byte [.int b0] := (Au.keep Kt nin0)
                  have ne122 : u ≠ t := (show @Ne Nat u t from by have := ltN Au.lt; have := gt; omega)
                  refine Go.callS 244 rfl (C := B39) [.ref u, .int (0 : Int32), .ref t, .int (0 : Int32), .int (0 : Int32)] (rest := []) 220 221 184 222 (c39n0 Z hw h118 u t (0 : Int32) [b0] (zer 2) 0 rfl (by decide) (2 : Int32) (1 : Int32) rfl (by decide) (by decide) (lb rfl) hfm (by decide) (by decide) hAs hHi hLo F121 At z120 ne122) d54_241 rfl rfl rfl rfl (by decide) pd39 rfl rfl rfl (W := 0) (lb rfl) (by decide) (by decide) (by decide) (by decide) fun v123 h124 q125 => ?_
                  obtain ⟨rfl, Ki, Ai⟩ := q125
                  refine Go.aload 246 rfl d54_244 rfl rfl ?_
                  refine Go.iload 248 rfl d54_246 rfl ?_
                  refine Go.eqI (w := (0 : Int32)) (by decide) ?_
                  refine Go.iload 250 rfl d54_248 rfl ?_
                  refine Go.aload 252 rfl d54_250 rfl rfl ?_
                  refine Go.iload 254 rfl d54_252 rfl ?_
                  refine Go.iconst 255 rfl (1 : Int32) d54_254 rfl ?_
                  have F126 : Ary Z h124 u .byte [.int b0] := (F121.keep Ki (ninS ne122 nin0))
                  refine Go.callS 258 rfl (C := B45) [.ref u, .int (0 : Int32), .int (1 : Int32), .ref t, .int (0 : Int32), .int (1 : Int32)] (rest := []) 238 239 20 240 (c45d1U Z hw h124 u t (zer 2)  b0 g rfl hAs hHi hLo F126 Ai z120 ne122) d54_255 rfl rfl rfl rfl (by decide) pd45 rfl rfl rfl (W := 0) (lb rfl) (by decide) (by decide) (by decide) (by decide) fun v127 h128 q129 => ?_
                  obtain ⟨rfl, Kd, Ad⟩ := q129
                  have A130 : Ary Z h128 t .byte (IL [lo (65533 : Int32), hi (65533 : Int32)]) := Ad
                  refine Go.istore 260 rfl d54_258 (Ls' := #[.val (.ref a), .val (.ref m), .val (.ref s), .val (.int (0 : Int32)), .val (.int (1 : Int32)), .val (.int (1 : Int32)), .val (.ref u), .val (.int (((0 : Int32) + (1 : Int32)) + (-1 : Int32))), .val (.ref t), .unset, .unset]) rfl ?_
                  refine Go.iload 262 rfl d54_260 rfl ?_
                  refine Go.iload 264 rfl d54_262 rfl ?_
                  refine Go.icmp_eq 278 267 d54_264 (by decide) rfl rfl (fun (b131 : (1 : Int32) = (1 : Int32)) => ?_) (fun (b131 : ¬ (1 : Int32) = (1 : Int32)) => ?_)
                  · refine Go.aloadN 279 rfl d54_278 rfl rfl ?_
                    refine Go.aload 281 rfl d54_279 rfl rfl ?_
                    have ne132 : a ≠ t := (show @Ne Nat a t from by have := ltN hE.lt; have := Ku.1; have := gt; omega)
                    have F133 : YSv Z h128 a (.null) := ((((hV.keep Ku nin0).keep Kt nin0).keep Ki (ninS ne132 nin0)).keep Kd (ninS ne132 nin0))
                    have F134 : YEs Z h128 a := ((((hE.keep Ku).keep Kt).keep Ki).keep Kd)
                    refine Go.putF 284 rfl (v' := .ref t) (ty := (.array .byte)) 75 22 21 d54_281 rfl F133 F134 (Or.inr ⟨rfl, rfl, rfl⟩) rfl (by decide) rfl rfl hge fun h135 K136 W137 F138 => ?_
                    refine Go.aloadN 285 rfl d54_284 rfl rfl ?_
                    refine Go.iconst 286 rfl (1 : Int32) d54_285 rfl ?_
                    have F139 : YSc Z h135 a (.int (0 : Int32)) := (Fld.oth hw ((((hC.keep Ku nin0).keep Kt nin0).keep Ki (ninS ne132 nin0)).keep Kd (ninS ne132 nin0)) W137 23 22 (Or.inr rfl) (Or.inr rfl) (by decide) rfl rfl)
                    have F140 : YEs Z h135 a := (F134.keep K136)
                    refine Go.putF 289 rfl (v' := .int (1 : Int32)) (ty := .byte) 76 23 21 d54_286 rfl F139 F140 (Or.inr ⟨rfl, rfl, rfl⟩) rfl (by decide) rfl rfl hge fun h141 K142 W143 F144 => ?_
                    refine Go.goto 879 d54_289 (by decide) (by decide) ?_
                    have kc145 : Keep h0 h141 [a] := (((((((Keep.refl h0 [a]).trans Ku all0).trans Kt all0).trans Ki (allS (Or.inr (Nat.le_trans Ku.1 gt)) all0)).trans Kd (allS (Or.inr (Nat.le_trans Ku.1 gt)) all0)).trans K136 (by simp)).trans K142 (by simp))
                    have F146 : YSv Z h141 a (.ref t) := (Fld.oth hw F138 W143 22 23 (Or.inr rfl) (Or.inr rfl) (by decide) rfl rfl)
                    have F147 : Ary Z h141 t .byte (IL [lo (65533 : Int32), hi (65533 : Int32)]) := ((A130.keep K136 (ninS (Ne.symm ne132) nin0)).keep K142 (ninS (Ne.symm ne132) nin0))
                    exact Go.retV d54_879 rfl (by decide) (by decide) ⟨rfl, t, (by have := Ku.1; have := gt; omega), kc145, F146, F144, F147⟩
                  · exact absurd (show (1 : Int32) = (1 : Int32) from (by decide)) b131
                · exact absurd b116 (show ¬ (((0 : Int32) + (1 : Int32)) + (-1 : Int32)) = (1 : Int32) from (by decide))
            · exact absurd (show b0 < 0 from g) b113
        · exact absurd b107 (show ¬ (0 : Int32) = (1 : Int32) from (by decide))
  · exact absurd b101 (show ¬ (1 : Int32) = 0 from (by decide))
def Q54k2L (Z : State) (a : Addr) (b0 : Int32) (b1 : Int32) (h0 : Heap) (v : Option Value) (h : Heap) : Prop := v = none ∧ ∃ t, h0.size ≤ t ∧ Keep h0 h [a] ∧ YSv Z h a (.ref t) ∧ YSc Z h a (.int 0) ∧ Ary Z h t .byte (IL [b0, b1])
theorem c54k2L (Z : State) (hw : Wd Z tables_1) (h0 : Heap) (a : Addr) (m : Addr) (s : Addr) (b0 : Int32) (b1 : Int32) (g0 : ¬ b0 < 0) (g1 : ¬ b1 < 0) (cs : Int32) (hS : YCs Z cs) (hcs : ¬ cs = 0) (hAs : YAs Z) (hHi : YHi Z) (hLo : YLo Z) (hfm : YFm Z) (hU : YUt Z m) (hge : Z.heap.size ≤ a) (hE : YEs Z h0 a) (hV : YSv Z h0 a .null) (hC : YSc Z h0 a (.int 0)) (hA : Ary Z h0 s .byte [.int b0, .int b1]) (hEs : Exa Z h0 s "[B") : ConW [(800, 813, 816, 202)] Z B54 (List.toArray [.ref a, .ref m, .ref s, .int (0 : Int32), .int (2 : Int32)]) h0 (Q54k2L Z a b0 b1 h0) := by
  refine ConW.mk (Ls := #[.val (.ref a), .val (.ref m), .val (.ref s), .val (.int (0 : Int32)), .val (.int (2 : Int32)), .unset, .unset, .unset, .unset, .unset, .unset]) hw pn54 (fun mid => by first | (simp [entryFrame, mkF, argsToLocals, Value.category, Jvm.Ow.Bd.ml, B54]; done) | rfl) (Go.old fun hle' => ?_)
  have hle := hle'.1
  refine Go.aloadN 1 rfl d54_0 rfl rfl ?_
  refine Go.initO 4 rfl 73 17 18 d54_1 rfl rfl rfl rfl (by decide) (W := 0) (lb rfl) (by decide) ?_
  refine Go.iload 6 rfl d54_4 rfl ?_
  refine Go.if_ne 30 9 d54_6 (by decide) rfl rfl (fun (b101 : ¬ (2 : Int32) = 0) => ?_) (fun (b101 : (2 : Int32) = 0) => ?_)
  · refine Go.aloadN 31 rfl d54_30 rfl rfl ?_
    refine Go.getS 34 rfl (v := .ref m) 194 d54_31 rfl hU ?_
    refine Go.acmp_ne 346 37 d54_34 (by decide) rfl rfl rfl rfl (fun (b102 : ¬ (.ref m : Value) = .ref m) => ?_) (fun (b102 : (.ref m : Value) = .ref m) => ?_)
    · exact absurd (show (.ref m : Value) = .ref m from rfl) b102
    · refine Go.getS 40 rfl (v := .int cs) 97 d54_37 rfl hS ?_
      refine Go.if_eq 292 43 d54_40 (by decide) rfl rfl (fun (b103 : cs = 0) => ?_) (fun (b103 : ¬ cs = 0) => ?_)
      · exact absurd b103 (show ¬ cs = 0 from hcs)
      · refine Go.aloadN 44 rfl d54_43 rfl rfl ?_
        refine Go.iloadN 45 rfl d54_44 rfl ?_
        refine Go.iload 47 rfl d54_45 rfl ?_
        refine Go.callS 50 rfl (C := B35) [.ref s, .int (0 : Int32), .int (2 : Int32)] (rest := []) 196 197 198 199 (c352a Z hw h0 s b0 b1 g0 g1 hA) d54_47 rfl rfl rfl rfl (by decide) pd35 rfl rfl rfl (W := 0) (lb rfl) (by decide) (by decide) (by decide) (by decide) fun v104 h105 q106 => ?_
        obtain ⟨rfl, rfl⟩ := q106
        refine Go.istore 52 rfl d54_50 (Ls' := #[.val (.ref a), .val (.ref m), .val (.ref s), .val (.int (0 : Int32)), .val (.int (2 : Int32)), .val (.int (2 : Int32)), .unset, .unset, .unset, .unset, .unset]) rfl ?_
        refine Go.iload 54 rfl d54_52 rfl ?_
        refine Go.iload 56 rfl d54_54 rfl ?_
        refine Go.icmp_ne 78 59 d54_56 (by decide) rfl rfl (fun (b107 : ¬ (2 : Int32) = (2 : Int32)) => ?_) (fun (b107 : (2 : Int32) = (2 : Int32)) => ?_)
        · exact absurd (show (2 : Int32) = (2 : Int32) from (by decide)) b107
        · refine Go.aloadN 60 rfl d54_59 rfl rfl ?_
          refine Go.aloadN 61 rfl d54_60 rfl rfl ?_
          refine Go.iloadN 62 rfl d54_61 rfl ?_
          refine Go.iloadN 63 rfl d54_62 rfl ?_
          refine Go.iload 65 rfl d54_63 rfl ?_
          refine Go.iadd 66 rfl d54_65 ?_
          refine Go.eqI (w := (2 : Int32)) (by decide) ?_
          refine Go.callS 69 rfl (C := B26) [.ref s, .int (0 : Int32), .int (2 : Int32)] (rest := [.ref a]) 156 157 158 159 (c26w Z hw h0 s (2 : Int32) [.int b0, .int b1] rfl (lb rfl) hA hEs) d54_66 rfl rfl rfl rfl (by decide) pd26 rfl rfl rfl (W := 1) (lb rfl) (by decide) (by decide) (by decide) (by decide) fun v108 h109 q110 => ?_
          obtain ⟨u, rfl, gu, Ku, Au⟩ := q110
          have z111 : Z.heap.size ≤ u := Nat.le_trans hle gu
          have F112 : YSv Z h109 a (.null) := (hV.keep Ku nin0)
          have F113 : YEs Z h109 a := (hE.keep Ku)
          refine Go.putF 72 rfl (v' := .ref u) (ty := (.array .byte)) 75 22 21 d54_69 rfl F112 F113 (Or.inr ⟨rfl, rfl, rfl⟩) rfl (by decide) rfl rfl hge fun h114 K115 W116 F117 => ?_
          refine Go.aloadN 73 rfl d54_72 rfl rfl ?_
          refine Go.iconst 74 rfl (0 : Int32) d54_73 rfl ?_
          have F118 : YSc Z h114 a (.int (0 : Int32)) := (Fld.oth hw (hC.keep Ku nin0) W116 23 22 (Or.inr rfl) (Or.inr rfl) (by decide) rfl rfl)
          have F119 : YEs Z h114 a := (F113.keep K115)
          refine Go.putF 77 rfl (v' := .int (0 : Int32)) (ty := .byte) 76 23 21 d54_74 rfl F118 F119 (Or.inr ⟨rfl, rfl, rfl⟩) rfl (by decide) rfl rfl hge fun h120 K121 W122 F123 => ?_
          have kc124 : Keep h0 h120 [a] := ((((Keep.refl h0 [a]).trans Ku all0).trans K115 (by simp)).trans K121 (by simp))
          have F125 : YSv Z h120 a (.ref u) := (Fld.oth hw F117 W122 22 23 (Or.inr rfl) (Or.inr rfl) (by decide) rfl rfl)
          have ne126 : u ≠ a := (show @Ne Nat u a from by have := ltN hE.lt; have := gu; omega)
          have F127 : Ary Z h120 u .byte [.int b0, .int b1] := ((Au.keep K115 (ninS ne126 nin0)).keep K121 (ninS ne126 nin0))
          exact Go.retV d54_77 rfl (by decide) (by decide) ⟨rfl, u, (by skip; have := gu; omega), kc124, F125, F123, F127⟩
  · exact absurd b101 (show ¬ (2 : Int32) = 0 from (by decide))
def Q54k1L (Z : State) (a : Addr) (b0 : Int32) (h0 : Heap) (v : Option Value) (h : Heap) : Prop := v = none ∧ ∃ t, h0.size ≤ t ∧ Keep h0 h [a] ∧ YSv Z h a (.ref t) ∧ YSc Z h a (.int 0) ∧ Ary Z h t .byte (IL [b0])
theorem c54k1L (Z : State) (hw : Wd Z tables_1) (h0 : Heap) (a : Addr) (m : Addr) (s : Addr) (b0 : Int32) (g0 : ¬ b0 < 0) (cs : Int32) (hS : YCs Z cs) (hcs : ¬ cs = 0) (hAs : YAs Z) (hHi : YHi Z) (hLo : YLo Z) (hfm : YFm Z) (hU : YUt Z m) (hge : Z.heap.size ≤ a) (hE : YEs Z h0 a) (hV : YSv Z h0 a .null) (hC : YSc Z h0 a (.int 0)) (hA : Ary Z h0 s .byte [.int b0]) (hEs : Exa Z h0 s "[B") : ConW [(800, 813, 816, 202)] Z B54 (List.toArray [.ref a, .ref m, .ref s, .int (0 : Int32), .int (1 : Int32)]) h0 (Q54k1L Z a b0 h0) := by
  refine ConW.mk (Ls := #[.val (.ref a), .val (.ref m), .val (.ref s), .val (.int (0 : Int32)), .val (.int (1 : Int32)), .unset, .unset, .unset, .unset, .unset, .unset]) hw pn54 (fun mid => by first | (simp [entryFrame, mkF, argsToLocals, Value.category, Jvm.Ow.Bd.ml, B54]; done) | rfl) (Go.old fun hle' => ?_)
  have hle := hle'.1
  refine Go.aloadN 1 rfl d54_0 rfl rfl ?_
  refine Go.initO 4 rfl 73 17 18 d54_1 rfl rfl rfl rfl (by decide) (W := 0) (lb rfl) (by decide) ?_
  refine Go.iload 6 rfl d54_4 rfl ?_
  refine Go.if_ne 30 9 d54_6 (by decide) rfl rfl (fun (b101 : ¬ (1 : Int32) = 0) => ?_) (fun (b101 : (1 : Int32) = 0) => ?_)
  · refine Go.aloadN 31 rfl d54_30 rfl rfl ?_
    refine Go.getS 34 rfl (v := .ref m) 194 d54_31 rfl hU ?_
    refine Go.acmp_ne 346 37 d54_34 (by decide) rfl rfl rfl rfl (fun (b102 : ¬ (.ref m : Value) = .ref m) => ?_) (fun (b102 : (.ref m : Value) = .ref m) => ?_)
    · exact absurd (show (.ref m : Value) = .ref m from rfl) b102
    · refine Go.getS 40 rfl (v := .int cs) 97 d54_37 rfl hS ?_
      refine Go.if_eq 292 43 d54_40 (by decide) rfl rfl (fun (b103 : cs = 0) => ?_) (fun (b103 : ¬ cs = 0) => ?_)
      · exact absurd b103 (show ¬ cs = 0 from hcs)
      · refine Go.aloadN 44 rfl d54_43 rfl rfl ?_
        refine Go.iloadN 45 rfl d54_44 rfl ?_
        refine Go.iload 47 rfl d54_45 rfl ?_
        refine Go.callS 50 rfl (C := B35) [.ref s, .int (0 : Int32), .int (1 : Int32)] (rest := []) 196 197 198 199 (c351a Z hw h0 s b0 g0 hA) d54_47 rfl rfl rfl rfl (by decide) pd35 rfl rfl rfl (W := 0) (lb rfl) (by decide) (by decide) (by decide) (by decide) fun v104 h105 q106 => ?_
        obtain ⟨rfl, rfl⟩ := q106
        refine Go.istore 52 rfl d54_50 (Ls' := #[.val (.ref a), .val (.ref m), .val (.ref s), .val (.int (0 : Int32)), .val (.int (1 : Int32)), .val (.int (1 : Int32)), .unset, .unset, .unset, .unset, .unset]) rfl ?_
        refine Go.iload 54 rfl d54_52 rfl ?_
        refine Go.iload 56 rfl d54_54 rfl ?_
        refine Go.icmp_ne 78 59 d54_56 (by decide) rfl rfl (fun (b107 : ¬ (1 : Int32) = (1 : Int32)) => ?_) (fun (b107 : (1 : Int32) = (1 : Int32)) => ?_)
        · exact absurd (show (1 : Int32) = (1 : Int32) from (by decide)) b107
        · refine Go.aloadN 60 rfl d54_59 rfl rfl ?_
          refine Go.aloadN 61 rfl d54_60 rfl rfl ?_
          refine Go.iloadN 62 rfl d54_61 rfl ?_
          refine Go.iloadN 63 rfl d54_62 rfl ?_
          refine Go.iload 65 rfl d54_63 rfl ?_
          refine Go.iadd 66 rfl d54_65 ?_
          refine Go.eqI (w := (1 : Int32)) (by decide) ?_
          refine Go.callS 69 rfl (C := B26) [.ref s, .int (0 : Int32), .int (1 : Int32)] (rest := [.ref a]) 156 157 158 159 (c26w Z hw h0 s (1 : Int32) [.int b0] rfl (lb rfl) hA hEs) d54_66 rfl rfl rfl rfl (by decide) pd26 rfl rfl rfl (W := 1) (lb rfl) (by decide) (by decide) (by decide) (by decide) fun v108 h109 q110 => ?_
          obtain ⟨u, rfl, gu, Ku, Au⟩ := q110
          have z111 : Z.heap.size ≤ u := Nat.le_trans hle gu
          have F112 : YSv Z h109 a (.null) := (hV.keep Ku nin0)
          have F113 : YEs Z h109 a := (hE.keep Ku)
          refine Go.putF 72 rfl (v' := .ref u) (ty := (.array .byte)) 75 22 21 d54_69 rfl F112 F113 (Or.inr ⟨rfl, rfl, rfl⟩) rfl (by decide) rfl rfl hge fun h114 K115 W116 F117 => ?_
          refine Go.aloadN 73 rfl d54_72 rfl rfl ?_
          refine Go.iconst 74 rfl (0 : Int32) d54_73 rfl ?_
          have F118 : YSc Z h114 a (.int (0 : Int32)) := (Fld.oth hw (hC.keep Ku nin0) W116 23 22 (Or.inr rfl) (Or.inr rfl) (by decide) rfl rfl)
          have F119 : YEs Z h114 a := (F113.keep K115)
          refine Go.putF 77 rfl (v' := .int (0 : Int32)) (ty := .byte) 76 23 21 d54_74 rfl F118 F119 (Or.inr ⟨rfl, rfl, rfl⟩) rfl (by decide) rfl rfl hge fun h120 K121 W122 F123 => ?_
          have kc124 : Keep h0 h120 [a] := ((((Keep.refl h0 [a]).trans Ku all0).trans K115 (by simp)).trans K121 (by simp))
          have F125 : YSv Z h120 a (.ref u) := (Fld.oth hw F117 W122 22 23 (Or.inr rfl) (Or.inr rfl) (by decide) rfl rfl)
          have ne126 : u ≠ a := (show @Ne Nat u a from by have := ltN hE.lt; have := gu; omega)
          have F127 : Ary Z h120 u .byte [.int b0] := ((Au.keep K115 (ninS ne126 nin0)).keep K121 (ninS ne126 nin0))
          exact Go.retV d54_77 rfl (by decide) (by decide) ⟨rfl, u, (by skip; have := gu; omega), kc124, F125, F123, F127⟩
  · exact absurd b101 (show ¬ (1 : Int32) = 0 from (by decide))
theorem d9_0 : decode jdk_42_method_49_code 0 = .ok (.aload_n 0, 1) := by decide +kernel
theorem d9_1 : decode jdk_42_method_49_code 1 = .ok (.aload_n 2, 1) := by decide +kernel
theorem d9_2 : decode jdk_42_method_49_code 2 = .ok (.invokestatic 78, 3) := by decide +kernel
theorem d9_5 : decode jdk_42_method_49_code 5 = .ok (.checkcast 84, 3) := by decide +kernel
theorem d9_8 : decode jdk_42_method_49_code 8 = .ok (.aload_n 1, 1) := by decide +kernel
theorem d9_9 : decode jdk_42_method_49_code 9 = .ok (.iconst 0, 1) := by decide +kernel
theorem d9_10 : decode jdk_42_method_49_code 10 = .ok (.aload_n 1, 1) := by decide +kernel
theorem d9_11 : decode jdk_42_method_49_code 11 = .ok (.arraylength, 1) := by decide +kernel
theorem d9_12 : decode jdk_42_method_49_code 12 = .ok (.invokespecial 75, 3) := by decide +kernel
theorem d9_15 : decode jdk_42_method_49_code 15 = .ok (.return_, 1) := by decide +kernel
theorem pd9 : parseMethodDescriptor "([BLjava/nio/charset/Charset;)V" = some ⟨[(.array .byte), (.object "java/nio/charset/Charset")], none⟩ := by decide +kernel
theorem pn9 : plainFor (⟨"java/lang/String", "<init>", "([BLjava/nio/charset/Charset;)V"⟩ : MethodName) = true := by first | (refine plainFor_of_name ?_; simp [plainName, overriddenIn]; done) | (refine plainFor_of_name ?_; decide +kernel) | decide +kernel
abbrev B9 : Bd := ((⟨"java/lang/String", "<init>", "([BLjava/nio/charset/Charset;)V"⟩ : MethodName), jdk_42_method_49_code, 3, none, ({ frames := 6, cells := 4, slots := 42, locals := 98 } : Room), tables_1)
def Q9w2 (Z : State) (a : Addr) (x0 : Int32) (x1 : Int32) (h0 : Heap) (v : Option Value) (h : Heap) : Prop := v = none ∧ ∃ t, h0.size ≤ t ∧ Keep h0 h [a] ∧ Str Z h a t [x0, x1]
theorem c9w2 (Z : State) (hw : Wd Z tables_1) (h0 : Heap) (a : Addr) (s : Addr) (m : Addr) (x0 : Int32) (x1 : Int32) (b0 : Int32) (b1 : Int32) (hd0 : DB b0 x0) (hb0 : b0.toInt < 128) (hd1 : DB b1 x1) (hb1 : b1.toInt < 128) (hnn : ¬ (b0 < 0 ∧ b1 < 0)) (cs : Int32) (hS : YCs Z cs) (hcs : ¬ cs = 0) (hAs : YAs Z) (hHi : YHi Z) (hLo : YLo Z) (hfm : YFm Z) (hU : YUt Z m) (hge : Z.heap.size ≤ a) (hE : YEs Z h0 a) (hV : YSv Z h0 a .null) (hC : YSc Z h0 a (.int 0)) (hA : Ary Z h0 s .byte [.int b0, .int b1]) (hEs : Exa Z h0 s "[B") (hM : Exa Z h0 m "sun/nio/cs/UTF_8") : Con Z B9 (List.toArray [.ref a, .ref s, .ref m]) h0 (Q9w2 Z a x0 x1 h0) := by
  refine Con.mk (Ls := #[.val (.ref a), .val (.ref s), .val (.ref m)]) hw pn9 (fun mid => by first | (simp [entryFrame, mkF, argsToLocals, Value.category, Jvm.Ow.Bd.ml, B9]; done) | rfl) (Go.old fun hle' => ?_)
  have hle := hle'.1
  rcases hd0 with ⟨g0, e0⟩ | ⟨g0, e0⟩
  · rcases hd1 with ⟨g1, e1⟩ | ⟨g1, e1⟩
    · refine Go.aloadN 1 rfl d9_0 rfl rfl ?_
      refine Go.aloadN 2 rfl d9_1 rfl rfl ?_
      refine Go.callS 5 rfl (C := B10) [.ref m] (rest := [.ref a]) 64 65 28 66 (c10 Z hw h0 m) d9_2 rfl rfl rfl rfl (by decide) pd10 rfl rfl rfl (W := 1) (lb rfl) (by decide) (by decide) (by decide) (by decide) fun v101 h102 q103 => ?_
      obtain ⟨rfl, rfl⟩ := q103
      refine Go.castY 8 rfl 67 d9_5 rfl (own_ins hw 68 rfl hM) ?_
      refine Go.aloadN 9 rfl d9_8 rfl rfl ?_
      refine Go.iconst 10 rfl (0 : Int32) d9_9 rfl ?_
      refine Go.aloadN 11 rfl d9_10 rfl rfl ?_
      refine Go.alen 12 rfl (2 : Int32) d9_11 hA rfl ?_
      refine Go.callIW 15 rfl (C := B54) a [.ref m, .ref s, .int (0 : Int32), .int (2 : Int32)] (rest := []) 69 70 20 72 (c54k2L Z hw h0 a m s b0 b1  g0 g1 cs hS hcs hAs hHi hLo hfm hU hge hE hV hC hA hEs) d9_12 rfl rfl rfl rfl rfl rfl (by decide) pd54 rfl rfl rfl (W := 0) (lb rfl) (by decide) (by decide) (by decide) (by decide) fun v104 h105 q106 => ?_
      obtain ⟨rfl, t, g, K, F1, F2, A⟩ := q106
      exact Go.retV d9_15 rfl (by decide) (by decide) ⟨rfl, t, g, K, hE.keep K, F1, Or.inl ⟨F2, _, A, e0, e1, trivial⟩⟩
    · refine Go.aloadN 1 rfl d9_0 rfl rfl ?_
      refine Go.aloadN 2 rfl d9_1 rfl rfl ?_
      refine Go.callS 5 rfl (C := B10) [.ref m] (rest := [.ref a]) 64 65 28 66 (c10 Z hw h0 m) d9_2 rfl rfl rfl rfl (by decide) pd10 rfl rfl rfl (W := 1) (lb rfl) (by decide) (by decide) (by decide) (by decide) fun v107 h108 q109 => ?_
      obtain ⟨rfl, rfl⟩ := q109
      refine Go.castY 8 rfl 67 d9_5 rfl (own_ins hw 68 rfl hM) ?_
      refine Go.aloadN 9 rfl d9_8 rfl rfl ?_
      refine Go.iconst 10 rfl (0 : Int32) d9_9 rfl ?_
      refine Go.aloadN 11 rfl d9_10 rfl rfl ?_
      refine Go.alen 12 rfl (2 : Int32) d9_11 hA rfl ?_
      refine Go.callIW 15 rfl (C := B54) a [.ref m, .ref s, .int (0 : Int32), .int (2 : Int32)] (rest := []) 69 70 20 72 (c54k2U Z hw h0 a m s b0 b1  g0 g1 cs hS hcs hAs hHi hLo hfm hU hge hE hV hC hA hEs) d9_12 rfl rfl rfl rfl rfl rfl (by decide) pd54 rfl rfl rfl (W := 0) (lb rfl) (by decide) (by decide) (by decide) (by decide) fun v110 h111 q112 => ?_
      obtain ⟨rfl, t, g, K, F1, F2, A⟩ := q112
      exact Go.retV d9_15 rfl (by decide) (by decide) ⟨rfl, t, g, K, hE.keep K, F1, Or.inr ⟨F2, _, A, own_gcb e0, by rw [e1]; exact own_gc own_cf, trivial⟩⟩
  · rcases hd1 with ⟨g1, e1⟩ | ⟨g1, e1⟩
    · refine Go.aloadN 1 rfl d9_0 rfl rfl ?_
      refine Go.aloadN 2 rfl d9_1 rfl rfl ?_
      refine Go.callS 5 rfl (C := B10) [.ref m] (rest := [.ref a]) 64 65 28 66 (c10 Z hw h0 m) d9_2 rfl rfl rfl rfl (by decide) pd10 rfl rfl rfl (W := 1) (lb rfl) (by decide) (by decide) (by decide) (by decide) fun v113 h114 q115 => ?_
      obtain ⟨rfl, rfl⟩ := q115
      refine Go.castY 8 rfl 67 d9_5 rfl (own_ins hw 68 rfl hM) ?_
      refine Go.aloadN 9 rfl d9_8 rfl rfl ?_
      refine Go.iconst 10 rfl (0 : Int32) d9_9 rfl ?_
      refine Go.aloadN 11 rfl d9_10 rfl rfl ?_
      refine Go.alen 12 rfl (2 : Int32) d9_11 hA rfl ?_
      refine Go.callIW 15 rfl (C := B54) a [.ref m, .ref s, .int (0 : Int32), .int (2 : Int32)] (rest := []) 69 70 20 72 (c54k2V Z hw h0 a m s b0 b1 x1 g0 g1 (own_pn g1 hb1).1 (own_pn g1 hb1).2.1 ((own_pn g1 hb1).2.2 e1) cs hS hcs hAs hHi hLo hfm hU hge hE hV hC hA hEs) d9_12 rfl rfl rfl rfl rfl rfl (by decide) pd54 rfl rfl rfl (W := 0) (lb rfl) (by decide) (by decide) (by decide) (by decide) fun v116 h117 q118 => ?_
      obtain ⟨rfl, t, g, K, F1, F2, A⟩ := q118
      exact Go.retV d9_15 rfl (by decide) (by decide) ⟨rfl, t, g, K, hE.keep K, F1, Or.inr ⟨F2, _, A, by rw [e0]; exact own_gc own_cf, own_gc (own_chl e1), trivial⟩⟩
    · exact absurd ⟨g0, g1⟩ hnn
def Q9w1 (Z : State) (a : Addr) (x0 : Int32) (h0 : Heap) (v : Option Value) (h : Heap) : Prop := v = none ∧ ∃ t, h0.size ≤ t ∧ Keep h0 h [a] ∧ Str Z h a t [x0]
theorem c9w1 (Z : State) (hw : Wd Z tables_1) (h0 : Heap) (a : Addr) (s : Addr) (m : Addr) (x0 : Int32) (b0 : Int32) (hd0 : DB b0 x0) (hb0 : b0.toInt < 128) (cs : Int32) (hS : YCs Z cs) (hcs : ¬ cs = 0) (hAs : YAs Z) (hHi : YHi Z) (hLo : YLo Z) (hfm : YFm Z) (hU : YUt Z m) (hge : Z.heap.size ≤ a) (hE : YEs Z h0 a) (hV : YSv Z h0 a .null) (hC : YSc Z h0 a (.int 0)) (hA : Ary Z h0 s .byte [.int b0]) (hEs : Exa Z h0 s "[B") (hM : Exa Z h0 m "sun/nio/cs/UTF_8") : Con Z B9 (List.toArray [.ref a, .ref s, .ref m]) h0 (Q9w1 Z a x0 h0) := by
  refine Con.mk (Ls := #[.val (.ref a), .val (.ref s), .val (.ref m)]) hw pn9 (fun mid => by first | (simp [entryFrame, mkF, argsToLocals, Value.category, Jvm.Ow.Bd.ml, B9]; done) | rfl) (Go.old fun hle' => ?_)
  have hle := hle'.1
  rcases hd0 with ⟨g0, e0⟩ | ⟨g0, e0⟩
  · refine Go.aloadN 1 rfl d9_0 rfl rfl ?_
    refine Go.aloadN 2 rfl d9_1 rfl rfl ?_
    refine Go.callS 5 rfl (C := B10) [.ref m] (rest := [.ref a]) 64 65 28 66 (c10 Z hw h0 m) d9_2 rfl rfl rfl rfl (by decide) pd10 rfl rfl rfl (W := 1) (lb rfl) (by decide) (by decide) (by decide) (by decide) fun v101 h102 q103 => ?_
    obtain ⟨rfl, rfl⟩ := q103
    refine Go.castY 8 rfl 67 d9_5 rfl (own_ins hw 68 rfl hM) ?_
    refine Go.aloadN 9 rfl d9_8 rfl rfl ?_
    refine Go.iconst 10 rfl (0 : Int32) d9_9 rfl ?_
    refine Go.aloadN 11 rfl d9_10 rfl rfl ?_
    refine Go.alen 12 rfl (1 : Int32) d9_11 hA rfl ?_
    refine Go.callIW 15 rfl (C := B54) a [.ref m, .ref s, .int (0 : Int32), .int (1 : Int32)] (rest := []) 69 70 20 72 (c54k1L Z hw h0 a m s b0  g0 cs hS hcs hAs hHi hLo hfm hU hge hE hV hC hA hEs) d9_12 rfl rfl rfl rfl rfl rfl (by decide) pd54 rfl rfl rfl (W := 0) (lb rfl) (by decide) (by decide) (by decide) (by decide) fun v104 h105 q106 => ?_
    obtain ⟨rfl, t, g, K, F1, F2, A⟩ := q106
    exact Go.retV d9_15 rfl (by decide) (by decide) ⟨rfl, t, g, K, hE.keep K, F1, Or.inl ⟨F2, _, A, e0, trivial⟩⟩
  · refine Go.aloadN 1 rfl d9_0 rfl rfl ?_
    refine Go.aloadN 2 rfl d9_1 rfl rfl ?_
    refine Go.callS 5 rfl (C := B10) [.ref m] (rest := [.ref a]) 64 65 28 66 (c10 Z hw h0 m) d9_2 rfl rfl rfl rfl (by decide) pd10 rfl rfl rfl (W := 1) (lb rfl) (by decide) (by decide) (by decide) (by decide) fun v107 h108 q109 => ?_
    obtain ⟨rfl, rfl⟩ := q109
    refine Go.castY 8 rfl 67 d9_5 rfl (own_ins hw 68 rfl hM) ?_
    refine Go.aloadN 9 rfl d9_8 rfl rfl ?_
    refine Go.iconst 10 rfl (0 : Int32) d9_9 rfl ?_
    refine Go.aloadN 11 rfl d9_10 rfl rfl ?_
    refine Go.alen 12 rfl (1 : Int32) d9_11 hA rfl ?_
    refine Go.callIW 15 rfl (C := B54) a [.ref m, .ref s, .int (0 : Int32), .int (1 : Int32)] (rest := []) 69 70 20 72 (c54k1U Z hw h0 a m s b0  g0 cs hS hcs hAs hHi hLo hfm hU hge hE hV hC hA hEs) d9_12 rfl rfl rfl rfl rfl rfl (by decide) pd54 rfl rfl rfl (W := 0) (lb rfl) (by decide) (by decide) (by decide) (by decide) fun v110 h111 q112 => ?_
    obtain ⟨rfl, t, g, K, F1, F2, A⟩ := q112
    exact Go.retV d9_15 rfl (by decide) (by decide) ⟨rfl, t, g, K, hE.keep K, F1, Or.inr ⟨F2, _, A, by rw [e0]; exact own_gc own_cf, trivial⟩⟩
theorem d14_0 : decode jdk_42_method_152_code 0 = .ok (.getstatic 38, 3) := by decide +kernel
theorem d14_3 : decode jdk_42_method_152_code 3 = .ok (.ifCond .eq 10, 3) := by decide +kernel
theorem d14_6 : decode jdk_42_method_152_code 6 = .ok (.aload_n 0, 1) := by decide +kernel
theorem d14_7 : decode jdk_42_method_152_code 7 = .ok (.getfield 15, 3) := by decide +kernel
theorem d14_10 : decode jdk_42_method_152_code 10 = .ok (.goto 4, 3) := by decide +kernel
theorem d14_14 : decode jdk_42_method_152_code 14 = .ok (.ireturn, 1) := by decide +kernel
theorem pd14 : parseMethodDescriptor "()B" = some ⟨[], some .byte⟩ := by decide +kernel
theorem pn14 : plainFor (⟨"java/lang/String", "coder", "()B"⟩ : MethodName) = true := by first | (refine plainFor_of_name ?_; simp [plainName, overriddenIn]; done) | (refine plainFor_of_name ?_; decide +kernel) | decide +kernel
abbrev B14 : Bd := ((⟨"java/lang/String", "coder", "()B"⟩ : MethodName), jdk_42_method_152_code, 1, (some .byte), ({ frames := 0, cells := 0, slots := 0, locals := 0 } : Room), tables_1)
def Q14k0 (h0 : Heap) (v : Option Value) (h : Heap) : Prop := v = some (.int 0) ∧ h0 = h
theorem c14k0 (Z : State) (hw : Wd Z tables_1) (h0 : Heap) (a : Addr)  (cs : Int32) (hS : YCs Z cs) (hcs : ¬ cs = 0) (hC : YSc Z h0 a (.int 0)) : Con Z B14 (List.toArray [.ref a]) h0 (Q14k0 h0) := by
  refine Con.mk (Ls := #[.val (.ref a)]) hw pn14 (fun mid => by first | (simp [entryFrame, mkF, argsToLocals, Value.category, Jvm.Ow.Bd.ml, B14]; done) | rfl) (Go.old fun hle' => ?_)
  have hle := hle'.1
  refine Go.getS 3 rfl (v := .int cs) 97 d14_0 rfl hS ?_
  refine Go.if_eq 13 6 d14_3 (by decide) rfl rfl (fun (b101 : cs = 0) => ?_) (fun (b101 : ¬ cs = 0) => ?_)
  · exact absurd b101 (show ¬ cs = 0 from hcs)
  · refine Go.aloadN 7 rfl d14_6 rfl rfl ?_
    refine Go.getF 10 rfl (v := .int (0 : Int32)) 76 d14_7 rfl hC ?_
    refine Go.goto 14 d14_10 (by decide) (by decide) ?_
    exact Go.retN (t := .byte) (z' := 0) d14_14 rfl (by decide) (by decide) (by decide) (by decide) ⟨rfl, rfl⟩
theorem d31_0 : decode jdk_42_method_154_code 0 = .ok (.getstatic 38, 3) := by decide +kernel
theorem d31_3 : decode jdk_42_method_154_code 3 = .ok (.ifCond .eq 14, 3) := by decide +kernel
theorem d31_6 : decode jdk_42_method_154_code 6 = .ok (.aload_n 0, 1) := by decide +kernel
theorem d31_7 : decode jdk_42_method_154_code 7 = .ok (.getfield 15, 3) := by decide +kernel
theorem d31_10 : decode jdk_42_method_154_code 10 = .ok (.ifCond .ne 7, 3) := by decide +kernel
theorem d31_13 : decode jdk_42_method_154_code 13 = .ok (.iconst 1, 1) := by decide +kernel
theorem d31_14 : decode jdk_42_method_154_code 14 = .ok (.goto 4, 3) := by decide +kernel
theorem d31_17 : decode jdk_42_method_154_code 17 = .ok (.iconst 0, 1) := by decide +kernel
theorem d31_18 : decode jdk_42_method_154_code 18 = .ok (.ireturn, 1) := by decide +kernel
theorem pd31 : parseMethodDescriptor "()Z" = some ⟨[], some .boolean⟩ := by decide +kernel
theorem pn31 : plainFor (⟨"java/lang/String", "isLatin1", "()Z"⟩ : MethodName) = true := by first | (refine plainFor_of_name ?_; simp [plainName, overriddenIn]; done) | (refine plainFor_of_name ?_; decide +kernel) | decide +kernel
abbrev B31 : Bd := ((⟨"java/lang/String", "isLatin1", "()Z"⟩ : MethodName), jdk_42_method_154_code, 1, (some .boolean), ({ frames := 0, cells := 0, slots := 0, locals := 0 } : Room), tables_1)
def Q31k0 (h0 : Heap) (v : Option Value) (h : Heap) : Prop := v = some (.int 1) ∧ h0 = h
theorem c31k0 (Z : State) (hw : Wd Z tables_1) (h0 : Heap) (a : Addr)  (cs : Int32) (hS : YCs Z cs) (hcs : ¬ cs = 0) (hC : YSc Z h0 a (.int 0)) : Con Z B31 (List.toArray [.ref a]) h0 (Q31k0 h0) := by
  refine Con.mk (Ls := #[.val (.ref a)]) hw pn31 (fun mid => by first | (simp [entryFrame, mkF, argsToLocals, Value.category, Jvm.Ow.Bd.ml, B31]; done) | rfl) (Go.old fun hle' => ?_)
  have hle := hle'.1
  refine Go.getS 3 rfl (v := .int cs) 97 d31_0 rfl hS ?_
  refine Go.if_eq 17 6 d31_3 (by decide) rfl rfl (fun (b101 : cs = 0) => ?_) (fun (b101 : ¬ cs = 0) => ?_)
  · exact absurd b101 (show ¬ cs = 0 from hcs)
  · refine Go.aloadN 7 rfl d31_6 rfl rfl ?_
    refine Go.getF 10 rfl (v := .int (0 : Int32)) 76 d31_7 rfl hC ?_
    refine Go.if_ne 17 13 d31_10 (by decide) rfl rfl (fun (b102 : ¬ (0 : Int32) = 0) => ?_) (fun (b102 : (0 : Int32) = 0) => ?_)
    · exact absurd (show (0 : Int32) = 0 from (by decide)) b102
    · refine Go.iconst 14 rfl (1 : Int32) d31_13 rfl ?_
      refine Go.goto 18 d31_14 (by decide) (by decide) ?_
      exact Go.retN (t := .boolean) (z' := 1) d31_18 rfl (by decide) (by decide) (by decide) (by decide) ⟨rfl, rfl⟩
theorem d13_0 : decode jdk_42_method_54_code 0 = .ok (.aload_n 0, 1) := by decide +kernel
theorem d13_1 : decode jdk_42_method_54_code 1 = .ok (.getfield 9, 3) := by decide +kernel
theorem d13_4 : decode jdk_42_method_54_code 4 = .ok (.arraylength, 1) := by decide +kernel
theorem d13_5 : decode jdk_42_method_54_code 5 = .ok (.aload_n 0, 1) := by decide +kernel
theorem d13_6 : decode jdk_42_method_54_code 6 = .ok (.invokevirtual 335, 3) := by decide +kernel
theorem d13_9 : decode jdk_42_method_54_code 9 = .ok (.ishr, 1) := by decide +kernel
theorem d13_10 : decode jdk_42_method_54_code 10 = .ok (.ireturn, 1) := by decide +kernel
theorem pd13 : parseMethodDescriptor "()I" = some ⟨[], some .int⟩ := by decide +kernel
theorem pn13 : plainFor (⟨"java/lang/String", "length", "()I"⟩ : MethodName) = true := by first | (refine plainFor_of_name ?_; simp [plainName, overriddenIn]; done) | (refine plainFor_of_name ?_; decide +kernel) | decide +kernel
abbrev B13 : Bd := ((⟨"java/lang/String", "length", "()I"⟩ : MethodName), jdk_42_method_54_code, 1, (some .int), ({ frames := 1, cells := 0, slots := 0, locals := 13 } : Room), tables_1)
def Q13k0 (R : Int32) (h0 : Heap) (v : Option Value) (h : Heap) : Prop := v = some (.int R) ∧ h0 = h
theorem c13k0 (Z : State) (hw : Wd Z tables_1) (h0 : Heap) (a : Addr) (R : Int32) (cs : Int32) (hS : YCs Z cs) (hcs : ¬ cs = 0) (t : Addr) (vs : List Value) (L : Int32) (hL : L.toInt = vs.length) (hR : L >>> ((0 : Int32) &&& 31) = R) (hE : YEs Z h0 a) (hV : YSv Z h0 a (.ref t)) (hC : YSc Z h0 a (.int 0)) (hA : Ary Z h0 t .byte vs) : Con Z B13 (List.toArray [.ref a]) h0 (Q13k0 R h0) := by
  refine Con.mk (Ls := #[.val (.ref a)]) hw pn13 (fun mid => by first | (simp [entryFrame, mkF, argsToLocals, Value.category, Jvm.Ow.Bd.ml, B13]; done) | rfl) (Go.old fun hle' => ?_)
  have hle := hle'.1
  refine Go.aloadN 1 rfl d13_0 rfl rfl ?_
  refine Go.getF 4 rfl (v := .ref t) 75 d13_1 rfl hV ?_
  refine Go.alen 5 rfl L d13_4 hA hL ?_
  refine Go.aloadN 6 rfl d13_5 rfl rfl ?_
  refine Go.callV 9 rfl (C := B14) a [] (rest := [.int L]) 92 93 95 94 20 96 (c14k0 Z hw h0 a cs hS hcs hC) hE d13_6 rfl rfl rfl rfl rfl rfl (by decide) pd14 rfl rfl rfl (W := 1) (lb rfl) (by decide) (by decide) (by decide) (by decide) fun v101 h102 q103 => ?_
  obtain ⟨rfl, rfl⟩ := q103
  refine Go.ishr 10 rfl d13_9 ?_
  refine Go.eqI (w := R) hR ?_
  exact Go.retI d13_10 rfl (by decide) (by decide) ⟨rfl, rfl⟩
def Q14k1 (h0 : Heap) (v : Option Value) (h : Heap) : Prop := v = some (.int 1) ∧ h0 = h
theorem c14k1 (Z : State) (hw : Wd Z tables_1) (h0 : Heap) (a : Addr)  (cs : Int32) (hS : YCs Z cs) (hcs : ¬ cs = 0) (hC : YSc Z h0 a (.int 1)) : Con Z B14 (List.toArray [.ref a]) h0 (Q14k1 h0) := by
  refine Con.mk (Ls := #[.val (.ref a)]) hw pn14 (fun mid => by first | (simp [entryFrame, mkF, argsToLocals, Value.category, Jvm.Ow.Bd.ml, B14]; done) | rfl) (Go.old fun hle' => ?_)
  have hle := hle'.1
  refine Go.getS 3 rfl (v := .int cs) 97 d14_0 rfl hS ?_
  refine Go.if_eq 13 6 d14_3 (by decide) rfl rfl (fun (b101 : cs = 0) => ?_) (fun (b101 : ¬ cs = 0) => ?_)
  · exact absurd b101 (show ¬ cs = 0 from hcs)
  · refine Go.aloadN 7 rfl d14_6 rfl rfl ?_
    refine Go.getF 10 rfl (v := .int (1 : Int32)) 76 d14_7 rfl hC ?_
    refine Go.goto 14 d14_10 (by decide) (by decide) ?_
    exact Go.retN (t := .byte) (z' := 1) d14_14 rfl (by decide) (by decide) (by decide) (by decide) ⟨rfl, rfl⟩
def Q31k1 (h0 : Heap) (v : Option Value) (h : Heap) : Prop := v = some (.int 0) ∧ h0 = h
theorem c31k1 (Z : State) (hw : Wd Z tables_1) (h0 : Heap) (a : Addr)  (cs : Int32) (hS : YCs Z cs) (hcs : ¬ cs = 0) (hC : YSc Z h0 a (.int 1)) : Con Z B31 (List.toArray [.ref a]) h0 (Q31k1 h0) := by
  refine Con.mk (Ls := #[.val (.ref a)]) hw pn31 (fun mid => by first | (simp [entryFrame, mkF, argsToLocals, Value.category, Jvm.Ow.Bd.ml, B31]; done) | rfl) (Go.old fun hle' => ?_)
  have hle := hle'.1
  refine Go.getS 3 rfl (v := .int cs) 97 d31_0 rfl hS ?_
  refine Go.if_eq 17 6 d31_3 (by decide) rfl rfl (fun (b101 : cs = 0) => ?_) (fun (b101 : ¬ cs = 0) => ?_)
  · exact absurd b101 (show ¬ cs = 0 from hcs)
  · refine Go.aloadN 7 rfl d31_6 rfl rfl ?_
    refine Go.getF 10 rfl (v := .int (1 : Int32)) 76 d31_7 rfl hC ?_
    refine Go.if_ne 17 13 d31_10 (by decide) rfl rfl (fun (b102 : ¬ (1 : Int32) = 0) => ?_) (fun (b102 : (1 : Int32) = 0) => ?_)
    · refine Go.iconst 18 rfl (0 : Int32) d31_17 rfl ?_
      exact Go.retN (t := .boolean) (z' := 0) d31_18 rfl (by decide) (by decide) (by decide) (by decide) ⟨rfl, rfl⟩
    · exact absurd b102 (show ¬ (1 : Int32) = 0 from (by decide))
def Q13k1 (R : Int32) (h0 : Heap) (v : Option Value) (h : Heap) : Prop := v = some (.int R) ∧ h0 = h
theorem c13k1 (Z : State) (hw : Wd Z tables_1) (h0 : Heap) (a : Addr) (R : Int32) (cs : Int32) (hS : YCs Z cs) (hcs : ¬ cs = 0) (t : Addr) (vs : List Value) (L : Int32) (hL : L.toInt = vs.length) (hR : L >>> ((1 : Int32) &&& 31) = R) (hE : YEs Z h0 a) (hV : YSv Z h0 a (.ref t)) (hC : YSc Z h0 a (.int 1)) (hA : Ary Z h0 t .byte vs) : Con Z B13 (List.toArray [.ref a]) h0 (Q13k1 R h0) := by
  refine Con.mk (Ls := #[.val (.ref a)]) hw pn13 (fun mid => by first | (simp [entryFrame, mkF, argsToLocals, Value.category, Jvm.Ow.Bd.ml, B13]; done) | rfl) (Go.old fun hle' => ?_)
  have hle := hle'.1
  refine Go.aloadN 1 rfl d13_0 rfl rfl ?_
  refine Go.getF 4 rfl (v := .ref t) 75 d13_1 rfl hV ?_
  refine Go.alen 5 rfl L d13_4 hA hL ?_
  refine Go.aloadN 6 rfl d13_5 rfl rfl ?_
  refine Go.callV 9 rfl (C := B14) a [] (rest := [.int L]) 92 93 95 94 20 96 (c14k1 Z hw h0 a cs hS hcs hC) hE d13_6 rfl rfl rfl rfl rfl rfl (by decide) pd14 rfl rfl rfl (W := 1) (lb rfl) (by decide) (by decide) (by decide) (by decide) fun v101 h102 q103 => ?_
  obtain ⟨rfl, rfl⟩ := q103
  refine Go.ishr 10 rfl d13_9 ?_
  refine Go.eqI (w := R) hR ?_
  exact Go.retI d13_10 rfl (by decide) (by decide) ⟨rfl, rfl⟩
theorem d34_0 : decode jdk_41_method_11_code 0 = .ok (.iload_n 0, 1) := by decide +kernel
theorem d34_1 : decode jdk_41_method_11_code 1 = .ok (.ifCond .lt 8, 3) := by decide +kernel
theorem d34_4 : decode jdk_41_method_11_code 4 = .ok (.iload_n 0, 1) := by decide +kernel
theorem d34_5 : decode jdk_41_method_11_code 5 = .ok (.iload_n 1, 1) := by decide +kernel
theorem d34_6 : decode jdk_41_method_11_code 6 = .ok (.if_icmp .lt 10, 3) := by decide +kernel
theorem d34_16 : decode jdk_41_method_11_code 16 = .ok (.iload_n 0, 1) := by decide +kernel
theorem d34_17 : decode jdk_41_method_11_code 17 = .ok (.ireturn, 1) := by decide +kernel
theorem pd34 : parseMethodDescriptor "(IILjava/util/function/BiFunction;)I" = some ⟨[.int, .int, (.object "java/util/function/BiFunction")], some .int⟩ := by decide +kernel
theorem pn34 : plainFor (⟨"jdk/internal/util/Preconditions", "checkIndex", "(IILjava/util/function/BiFunction;)I"⟩ : MethodName) = true := by first | (refine plainFor_of_name ?_; simp [plainName, overriddenIn]; done) | (refine plainFor_of_name ?_; decide +kernel) | decide +kernel
abbrev B34 : Bd := ((⟨"jdk/internal/util/Preconditions", "checkIndex", "(IILjava/util/function/BiFunction;)I"⟩ : MethodName), jdk_41_method_11_code, 3, (some .int), ({ frames := 0, cells := 0, slots := 0, locals := 0 } : Room), tables_1)
def Q34m (i : Int32) (h0 : Heap) (v : Option Value) (h : Heap) : Prop := v = some (.int i) ∧ h0 = h
theorem c34m (Z : State) (hw : Wd Z tables_1) (h0 : Heap) (i : Int32) (l : Int32) (m : Addr)  (h1 : ¬ i < 0) (h2 : i < l) : Con Z B34 (List.toArray [.int i, .int l, .ref m]) h0 (Q34m i h0) := by
  refine Con.mk (Ls := #[.val (.int i), .val (.int l), .val (.ref m)]) hw pn34 (fun mid => by first | (simp [entryFrame, mkF, argsToLocals, Value.category, Jvm.Ow.Bd.ml, B34]; done) | rfl) (Go.old fun hle' => ?_)
  have hle := hle'.1
  refine Go.iloadN 1 rfl d34_0 rfl ?_
  refine Go.if_lt 9 4 d34_1 (by decide) rfl rfl (fun (b101 : i < 0) => ?_) (fun (b101 : ¬ i < 0) => ?_)
  · exact absurd b101 (show ¬ i < 0 from h1)
  · refine Go.iloadN 5 rfl d34_4 rfl ?_
    refine Go.iloadN 6 rfl d34_5 rfl ?_
    refine Go.icmp_lt 16 9 d34_6 (by decide) rfl rfl (fun (b102 : i < l) => ?_) (fun (b102 : ¬ i < l) => ?_)
    · refine Go.iloadN 17 rfl d34_16 rfl ?_
      exact Go.retI d34_17 rfl (by decide) (by decide) ⟨rfl, rfl⟩
    · exact absurd (show i < l from h2) b102
def Q34u (i : Int32) (h0 : Heap) (v : Option Value) (h : Heap) : Prop := v = some (.int i) ∧ h0 = h
theorem c34u (Z : State) (hw : Wd Z tables_1) (h0 : Heap) (i : Int32) (l : Int32)  (h1 : ¬ i < 0) (h2 : i < l) : Con Z B34 (List.toArray [.int i, .int l, .null]) h0 (Q34u i h0) := by
  refine Con.mk (Ls := #[.val (.int i), .val (.int l), .val (.null)]) hw pn34 (fun mid => by first | (simp [entryFrame, mkF, argsToLocals, Value.category, Jvm.Ow.Bd.ml, B34]; done) | rfl) (Go.old fun hle' => ?_)
  have hle := hle'.1
  refine Go.iloadN 1 rfl d34_0 rfl ?_
  refine Go.if_lt 9 4 d34_1 (by decide) rfl rfl (fun (b101 : i < 0) => ?_) (fun (b101 : ¬ i < 0) => ?_)
  · exact absurd b101 (show ¬ i < 0 from h1)
  · refine Go.iloadN 5 rfl d34_4 rfl ?_
    refine Go.iloadN 6 rfl d34_5 rfl ?_
    refine Go.icmp_lt 16 9 d34_6 (by decide) rfl rfl (fun (b102 : i < l) => ?_) (fun (b102 : ¬ i < l) => ?_)
    · refine Go.iloadN 17 rfl d34_16 rfl ?_
      exact Go.retI d34_17 rfl (by decide) (by decide) ⟨rfl, rfl⟩
    · exact absurd (show i < l from h2) b102
theorem d33_0 : decode jdk_42_method_155_code 0 = .ok (.iload_n 0, 1) := by decide +kernel
theorem d33_1 : decode jdk_42_method_155_code 1 = .ok (.iload_n 1, 1) := by decide +kernel
theorem d33_2 : decode jdk_42_method_155_code 2 = .ok (.getstatic 1053, 3) := by decide +kernel
theorem d33_5 : decode jdk_42_method_155_code 5 = .ok (.invokestatic 1059, 3) := by decide +kernel
theorem d33_8 : decode jdk_42_method_155_code 8 = .ok (.pop, 1) := by decide +kernel
theorem d33_9 : decode jdk_42_method_155_code 9 = .ok (.return_, 1) := by decide +kernel
theorem pd33 : parseMethodDescriptor "(II)V" = some ⟨[.int, .int], none⟩ := by decide +kernel
theorem pn33 : plainFor (⟨"java/lang/String", "checkIndex", "(II)V"⟩ : MethodName) = true := by first | (refine plainFor_of_name ?_; simp [plainName, overriddenIn]; done) | (refine plainFor_of_name ?_; decide +kernel) | decide +kernel
abbrev B33 : Bd := ((⟨"java/lang/String", "checkIndex", "(II)V"⟩ : MethodName), jdk_42_method_155_code, 2, none, ({ frames := 1, cells := 0, slots := 0, locals := 14 } : Room), tables_1)
def Q33 (h0 : Heap) (v : Option Value) (h : Heap) : Prop := v = none ∧ h0 = h
theorem c33 (Z : State) (hw : Wd Z tables_1) (h0 : Heap) (i : Int32) (l : Int32)  (hfm : YFm Z) (h1 : ¬ i < 0) (h2 : i < l) : Con Z B33 (List.toArray [.int i, .int l]) h0 (Q33 h0) := by
  refine Con.mk (Ls := #[.val (.int i), .val (.int l)]) hw pn33 (fun mid => by first | (simp [entryFrame, mkF, argsToLocals, Value.category, Jvm.Ow.Bd.ml, B33]; done) | rfl) (Go.old fun hle' => ?_)
  have hle := hle'.1
  rcases hfm with hfm | ⟨m, hfm⟩
  · refine Go.iloadN 1 rfl d33_0 rfl ?_
    refine Go.iloadN 2 rfl d33_1 rfl ?_
    refine Go.getS 5 rfl (v := .null) 189 d33_2 rfl hfm ?_
    refine Go.callS 8 rfl (C := B34) [.int i, .int l, .null] (rest := []) 191 192 190 193 (c34u Z hw h0 i l h1 h2) d33_5 rfl rfl rfl rfl (by decide) pd34 rfl rfl rfl (W := 0) (lb rfl) (by decide) (by decide) (by decide) (by decide) fun v101 h102 q103 => ?_
    obtain ⟨rfl, rfl⟩ := q103
    refine Go.pop 9 rfl d33_8 rfl ?_
    exact Go.retV d33_9 rfl (by decide) (by decide) ⟨rfl, rfl⟩
  · refine Go.iloadN 1 rfl d33_0 rfl ?_
    refine Go.iloadN 2 rfl d33_1 rfl ?_
    refine Go.getS 5 rfl (v := .ref m) 189 d33_2 rfl hfm ?_
    refine Go.callS 8 rfl (C := B34) [.int i, .int l, .ref m] (rest := []) 191 192 190 193 (c34m Z hw h0 i l m h1 h2) d33_5 rfl rfl rfl rfl (by decide) pd34 rfl rfl rfl (W := 0) (lb rfl) (by decide) (by decide) (by decide) (by decide) fun v104 h105 q106 => ?_
    obtain ⟨rfl, rfl⟩ := q106
    refine Go.pop 9 rfl d33_8 rfl ?_
    exact Go.retV d33_9 rfl (by decide) (by decide) ⟨rfl, rfl⟩
theorem d32_0 : decode jdk_43_method_2_code 0 = .ok (.iload_n 1, 1) := by decide +kernel
theorem d32_1 : decode jdk_43_method_2_code 1 = .ok (.aload_n 0, 1) := by decide +kernel
theorem d32_2 : decode jdk_43_method_2_code 2 = .ok (.arraylength, 1) := by decide +kernel
theorem d32_3 : decode jdk_43_method_2_code 3 = .ok (.invokestatic 9, 3) := by decide +kernel
theorem d32_6 : decode jdk_43_method_2_code 6 = .ok (.aload_n 0, 1) := by decide +kernel
theorem d32_7 : decode jdk_43_method_2_code 7 = .ok (.iload_n 1, 1) := by decide +kernel
theorem d32_8 : decode jdk_43_method_2_code 8 = .ok (.baload, 1) := by decide +kernel
theorem d32_9 : decode jdk_43_method_2_code 9 = .ok (.sipush 255, 3) := by decide +kernel
theorem d32_12 : decode jdk_43_method_2_code 12 = .ok (.iand, 1) := by decide +kernel
theorem d32_13 : decode jdk_43_method_2_code 13 = .ok (.i2c, 1) := by decide +kernel
theorem d32_14 : decode jdk_43_method_2_code 14 = .ok (.ireturn, 1) := by decide +kernel
theorem pd32 : parseMethodDescriptor "([BI)C" = some ⟨[(.array .byte), .int], some .char⟩ := by decide +kernel
theorem pn32 : plainFor (⟨"java/lang/StringLatin1", "charAt", "([BI)C"⟩ : MethodName) = true := by first | (refine plainFor_of_name ?_; simp [plainName, overriddenIn]; done) | (refine plainFor_of_name ?_; decide +kernel) | decide +kernel
abbrev B32 : Bd := ((⟨"java/lang/StringLatin1", "charAt", "([BI)C"⟩ : MethodName), jdk_43_method_2_code, 2, (some .char), ({ frames := 2, cells := 0, slots := 0, locals := 27 } : Room), tables_1)
def Q32 (x : Int32) (h0 : Heap) (v : Option Value) (h : Heap) : Prop := v = some (.int x) ∧ h0 = h
theorem c32 (Z : State) (hw : Wd Z tables_1) (h0 : Heap) (t : Addr) (j : Int32) (x : Int32) (us : List Int32) (jn : Nat) (hj : j.toInt = jn) (hj9 : jn < 9) (hfm : YFm Z) (hlen : us.length < 2 ^ 31) (hlt : jn < us.length) (hc : gl (us.getD jn 0) = x) (hA : Ary Z h0 t .byte (IL us)) : Con Z B32 (List.toArray [.ref t, .int j]) h0 (Q32 x h0) := by
  refine Con.mk (Ls := #[.val (.ref t), .val (.int j)]) hw pn32 (fun mid => by first | (simp [entryFrame, mkF, argsToLocals, Value.category, Jvm.Ow.Bd.ml, B32]; done) | rfl) (Go.old fun hle' => ?_)
  have hle := hle'.1
  refine Go.iloadN 1 rfl d32_0 rfl ?_
  refine Go.aloadN 2 rfl d32_1 rfl rfl ?_
  refine Go.alen 3 rfl (Int32.ofNat us.length) d32_2 hA (by rw [IL.len]; exact len_ofNat hlen) ?_
  refine Go.callS 6 rfl (C := B33) [.int j, .int (Int32.ofNat us.length)] (rest := []) 186 187 20 188 (c33 Z hw h0 j (Int32.ofNat us.length) hfm (own_jn hj) (own_jl hj hlt hlen)) d32_3 rfl rfl rfl rfl (by decide) pd33 rfl rfl rfl (W := 0) (lb rfl) (by decide) (by decide) (by decide) (by decide) fun v101 h102 q103 => ?_
  obtain ⟨rfl, rfl⟩ := q103
  refine Go.aloadN 7 rfl d32_6 rfl rfl ?_
  refine Go.iloadN 8 rfl d32_7 rfl ?_
  refine Go.baload 9 rfl (us.getD jn 0) d32_8 hA jn hj (IL.get hlt) ?_
  refine Go.sipush 12 rfl (255 : Int32) d32_9 rfl ?_
  refine Go.iand 13 rfl d32_12 ?_
  refine Go.i2c 14 rfl d32_13 ?_
  exact Go.retN (t := .char) (z' := (gl (us.getD jn 0))) d32_14 rfl (by decide) rfl (by decide) (by decide) ⟨by rw [← hc], rfl⟩
theorem d49_0 : decode jdk_52_method_91_code 0 = .ok (.iload_n 0, 1) := by decide +kernel
theorem d49_1 : decode jdk_52_method_91_code 1 = .ok (.aload_n 1, 1) := by decide +kernel
theorem d49_2 : decode jdk_52_method_91_code 2 = .ok (.invokestatic 48, 3) := by decide +kernel
theorem d49_5 : decode jdk_52_method_91_code 5 = .ok (.invokestatic 414, 3) := by decide +kernel
theorem d49_8 : decode jdk_52_method_91_code 8 = .ok (.return_, 1) := by decide +kernel
theorem pd49 : parseMethodDescriptor "(I[B)V" = some ⟨[.int, (.array .byte)], none⟩ := by decide +kernel
theorem pn49 : plainFor (⟨"java/lang/StringUTF16", "checkIndex", "(I[B)V"⟩ : MethodName) = true := by first | (refine plainFor_of_name ?_; simp [plainName, overriddenIn]; done) | (refine plainFor_of_name ?_; decide +kernel) | decide +kernel
abbrev B49 : Bd := ((⟨"java/lang/StringUTF16", "checkIndex", "(I[B)V"⟩ : MethodName), jdk_52_method_91_code, 2, none, ({ frames := 2, cells := 0, slots := 0, locals := 27 } : Room), tables_1)
def Q49 (h0 : Heap) (v : Option Value) (h : Heap) : Prop := v = none ∧ h0 = h
theorem c49 (Z : State) (hw : Wd Z tables_1) (h0 : Heap) (j : Int32) (t : Addr)  (us : List Int32) (hfm : YFm Z) (L : Int32) (R : Int32) (hL : L.toInt = us.length) (hR : L >>> ((1 : Int32) &&& 31) = R) (hjR : j < R) (h1 : ¬ j < 0) (hA : Ary Z h0 t .byte (IL us)) : Con Z B49 (List.toArray [.int j, .ref t]) h0 (Q49 h0) := by
  refine Con.mk (Ls := #[.val (.int j), .val (.ref t)]) hw pn49 (fun mid => by first | (simp [entryFrame, mkF, argsToLocals, Value.category, Jvm.Ow.Bd.ml, B49]; done) | rfl) (Go.old fun hle' => ?_)
  have hle := hle'.1
  refine Go.iloadN 1 rfl d49_0 rfl ?_
  refine Go.aloadN 2 rfl d49_1 rfl rfl ?_
  refine Go.callS 5 rfl (C := B42) [.ref t] (rest := [.int j]) 229 230 214 231 (c42 Z hw h0 t R (IL us) L (by rw [IL.len]; exact hL) hR hA) d49_2 rfl rfl rfl rfl (by decide) pd42 rfl rfl rfl (W := 1) (lb rfl) (by decide) (by decide) (by decide) (by decide) fun v101 h102 q103 => ?_
  obtain ⟨rfl, rfl⟩ := q103
  refine Go.callS 8 rfl (C := B33) [.int j, .int R] (rest := []) 265 187 20 188 (c33 Z hw h0 j R hfm h1 hjR) d49_5 rfl rfl rfl rfl (by decide) pd33 rfl rfl rfl (W := 0) (lb rfl) (by decide) (by decide) (by decide) (by decide) fun v104 h105 q106 => ?_
  obtain ⟨rfl, rfl⟩ := q106
  exact Go.retV d49_8 rfl (by decide) (by decide) ⟨rfl, rfl⟩
theorem d48_0 : decode jdk_52_method_83_code 0 = .ok (.iload_n 1, 1) := by decide +kernel
theorem d48_1 : decode jdk_52_method_83_code 1 = .ok (.aload_n 0, 1) := by decide +kernel
theorem d48_2 : decode jdk_52_method_83_code 2 = .ok (.invokestatic 67, 3) := by decide +kernel
theorem d48_5 : decode jdk_52_method_83_code 5 = .ok (.aload_n 0, 1) := by decide +kernel
theorem d48_6 : decode jdk_52_method_83_code 6 = .ok (.iload_n 1, 1) := by decide +kernel
theorem d48_7 : decode jdk_52_method_83_code 7 = .ok (.invokestatic 71, 3) := by decide +kernel
theorem d48_10 : decode jdk_52_method_83_code 10 = .ok (.ireturn, 1) := by decide +kernel
theorem pd48 : parseMethodDescriptor "([BI)C" = some ⟨[(.array .byte), .int], some .char⟩ := by decide +kernel
theorem pn48 : plainFor (⟨"java/lang/StringUTF16", "charAt", "([BI)C"⟩ : MethodName) = true := by first | (refine plainFor_of_name ?_; simp [plainName, overriddenIn]; done) | (refine plainFor_of_name ?_; decide +kernel) | decide +kernel
abbrev B48 : Bd := ((⟨"java/lang/StringUTF16", "charAt", "([BI)C"⟩ : MethodName), jdk_52_method_83_code, 2, (some .char), ({ frames := 3, cells := 0, slots := 0, locals := 40 } : Room), tables_1)
def Q48 (x : Int32) (h0 : Heap) (v : Option Value) (h : Heap) : Prop := v = some (.int x) ∧ h0 = h
theorem c48 (Z : State) (hw : Wd Z tables_1) (h0 : Heap) (t : Addr) (j : Int32) (x : Int32) (us : List Int32) (jn : Nat) (hj : j.toInt = jn) (hj9 : jn < 9) (hAs : YAs Z) (hHi : YHi Z) (hLo : YLo Z) (hfm : YFm Z) (L : Int32) (R : Int32) (hL : L.toInt = us.length) (hR : L >>> ((1 : Int32) &&& 31) = R) (hjR : j < R) (hlt : 2 * jn + 1 < us.length) (hc : gc (us.getD (2 * jn) 0) (us.getD (2 * jn + 1) 0) = x) (hx : Ch x) (hA : Ary Z h0 t .byte (IL us)) : Con Z B48 (List.toArray [.ref t, .int j]) h0 (Q48 x h0) := by
  refine Con.mk (Ls := #[.val (.ref t), .val (.int j)]) hw pn48 (fun mid => by first | (simp [entryFrame, mkF, argsToLocals, Value.category, Jvm.Ow.Bd.ml, B48]; done) | rfl) (Go.old fun hle' => ?_)
  have hle := hle'.1
  refine Go.iloadN 1 rfl d48_0 rfl ?_
  refine Go.aloadN 2 rfl d48_1 rfl rfl ?_
  refine Go.callS 5 rfl (C := B49) [.int j, .ref t] (rest := []) 262 263 214 264 (c49 Z hw h0 j t us hfm L R hL hR hjR (own_jn hj) hA) d48_2 rfl rfl rfl rfl (by decide) pd49 rfl rfl rfl (W := 0) (lb rfl) (by decide) (by decide) (by decide) (by decide) fun v101 h102 q103 => ?_
  obtain ⟨rfl, rfl⟩ := q103
  refine Go.aloadN 6 rfl d48_5 rfl rfl ?_
  refine Go.iloadN 7 rfl d48_6 rfl ?_
  refine Go.callS 10 rfl (C := B50) [.ref t, .int j] (rest := []) 266 267 214 268 (c50 Z hw h0 t j us jn hj hj9 hAs hHi hLo hlt hA) d48_7 rfl rfl rfl rfl (by decide) pd50 rfl rfl rfl (W := 0) (lb rfl) (by decide) (by decide) (by decide) (by decide) fun v104 h105 q106 => ?_
  obtain ⟨rfl, rfl⟩ := q106
  refine Go.eqI (w := x) hc ?_
  exact Go.retN (t := .char) (z' := x) d48_10 rfl (by decide) (own_nc hx) (by decide) (by decide) ⟨rfl, rfl⟩
theorem d30_0 : decode jdk_42_method_56_code 0 = .ok (.aload_n 0, 1) := by decide +kernel
theorem d30_1 : decode jdk_42_method_56_code 1 = .ok (.invokevirtual 492, 3) := by decide +kernel
theorem d30_4 : decode jdk_42_method_56_code 4 = .ok (.ifCond .eq 12, 3) := by decide +kernel
theorem d30_7 : decode jdk_42_method_56_code 7 = .ok (.aload_n 0, 1) := by decide +kernel
theorem d30_8 : decode jdk_42_method_56_code 8 = .ok (.getfield 9, 3) := by decide +kernel
theorem d30_11 : decode jdk_42_method_56_code 11 = .ok (.iload_n 1, 1) := by decide +kernel
theorem d30_12 : decode jdk_42_method_56_code 12 = .ok (.invokestatic 495, 3) := by decide +kernel
theorem d30_15 : decode jdk_42_method_56_code 15 = .ok (.ireturn, 1) := by decide +kernel
theorem d30_16 : decode jdk_42_method_56_code 16 = .ok (.aload_n 0, 1) := by decide +kernel
theorem d30_17 : decode jdk_42_method_56_code 17 = .ok (.getfield 9, 3) := by decide +kernel
theorem d30_20 : decode jdk_42_method_56_code 20 = .ok (.iload_n 1, 1) := by decide +kernel
theorem d30_21 : decode jdk_42_method_56_code 21 = .ok (.invokestatic 498, 3) := by decide +kernel
theorem d30_24 : decode jdk_42_method_56_code 24 = .ok (.ireturn, 1) := by decide +kernel
theorem pd30 : parseMethodDescriptor "(I)C" = some ⟨[.int], some .char⟩ := by decide +kernel
theorem pn30 : plainFor (⟨"java/lang/String", "charAt", "(I)C"⟩ : MethodName) = true := by first | (refine plainFor_of_name ?_; simp [plainName, overriddenIn]; done) | (refine plainFor_of_name ?_; decide +kernel) | decide +kernel
abbrev B30 : Bd := ((⟨"java/lang/String", "charAt", "(I)C"⟩ : MethodName), jdk_42_method_56_code, 2, (some .char), ({ frames := 4, cells := 0, slots := 0, locals := 53 } : Room), tables_1)
def Q30k1 (x : Int32) (h0 : Heap) (v : Option Value) (h : Heap) : Prop := v = some (.int x) ∧ h0 = h
theorem c30k1 (Z : State) (hw : Wd Z tables_1) (h0 : Heap) (a : Addr) (j : Int32) (x : Int32) (cs : Int32) (hS : YCs Z cs) (hcs : ¬ cs = 0) (hAs : YAs Z) (hHi : YHi Z) (hLo : YLo Z) (hfm : YFm Z) (t : Addr) (us : List Int32) (jn : Nat) (hj : j.toInt = jn) (hj9 : jn < 9) (hE : YEs Z h0 a) (hV : YSv Z h0 a (.ref t)) (hA : Ary Z h0 t .byte (IL us)) (hx : Ch x) (hC : YSc Z h0 a (.int 1)) (L : Int32) (R : Int32) (hL : L.toInt = us.length) (hR : L >>> ((1 : Int32) &&& 31) = R) (hjR : j < R) (hlt : 2 * jn + 1 < us.length) (hc : gc (us.getD (2 * jn) 0) (us.getD (2 * jn + 1) 0) = x) : Con Z B30 (List.toArray [.ref a, .int j]) h0 (Q30k1 x h0) := by
  refine Con.mk (Ls := #[.val (.ref a), .val (.int j)]) hw pn30 (fun mid => by first | (simp [entryFrame, mkF, argsToLocals, Value.category, Jvm.Ow.Bd.ml, B30]; done) | rfl) (Go.old fun hle' => ?_)
  have hle := hle'.1
  refine Go.aloadN 1 rfl d30_0 rfl rfl ?_
  refine Go.callV 4 rfl (C := B31) a [] (rest := []) 177 178 180 179 20 181 (c31k1 Z hw h0 a cs hS hcs hC) hE d30_1 rfl rfl rfl rfl rfl rfl (by decide) pd31 rfl rfl rfl (W := 0) (lb rfl) (by decide) (by decide) (by decide) (by decide) fun v101 h102 q103 => ?_
  obtain ⟨rfl, rfl⟩ := q103
  refine Go.if_eq 16 7 d30_4 (by decide) rfl rfl (fun (b104 : (0 : Int32) = 0) => ?_) (fun (b104 : ¬ (0 : Int32) = 0) => ?_)
  · refine Go.aloadN 17 rfl d30_16 rfl rfl ?_
    refine Go.getF 20 rfl (v := .ref t) 75 d30_17 rfl hV ?_
    refine Go.iloadN 21 rfl d30_20 rfl ?_
    refine Go.callS 24 rfl (C := B48) [.ref t, .int j] (rest := []) 259 260 214 261 (c48 Z hw h0 t j x us jn hj hj9 hAs hHi hLo hfm L R hL hR hjR hlt hc hx hA) d30_21 rfl rfl rfl rfl (by decide) pd48 rfl rfl rfl (W := 0) (lb rfl) (by decide) (by decide) (by decide) (by decide) fun v105 h106 q107 => ?_
    obtain ⟨rfl, rfl⟩ := q107
    exact Go.retN (t := .char) (z' := x) d30_24 rfl (by decide) (own_nc hx) (by decide) (by decide) ⟨rfl, rfl⟩
  · exact absurd (show (0 : Int32) = 0 from (by decide)) b104
def Q30k0 (x : Int32) (h0 : Heap) (v : Option Value) (h : Heap) : Prop := v = some (.int x) ∧ h0 = h
theorem c30k0 (Z : State) (hw : Wd Z tables_1) (h0 : Heap) (a : Addr) (j : Int32) (x : Int32) (cs : Int32) (hS : YCs Z cs) (hcs : ¬ cs = 0) (hAs : YAs Z) (hHi : YHi Z) (hLo : YLo Z) (hfm : YFm Z) (t : Addr) (us : List Int32) (jn : Nat) (hj : j.toInt = jn) (hj9 : jn < 9) (hE : YEs Z h0 a) (hV : YSv Z h0 a (.ref t)) (hA : Ary Z h0 t .byte (IL us)) (hx : Ch x) (hC : YSc Z h0 a (.int 0)) (hlen : us.length < 2 ^ 31) (hlt : jn < us.length) (hc : gl (us.getD jn 0) = x) : Con Z B30 (List.toArray [.ref a, .int j]) h0 (Q30k0 x h0) := by
  refine Con.mk (Ls := #[.val (.ref a), .val (.int j)]) hw pn30 (fun mid => by first | (simp [entryFrame, mkF, argsToLocals, Value.category, Jvm.Ow.Bd.ml, B30]; done) | rfl) (Go.old fun hle' => ?_)
  have hle := hle'.1
  refine Go.aloadN 1 rfl d30_0 rfl rfl ?_
  refine Go.callV 4 rfl (C := B31) a [] (rest := []) 177 178 180 179 20 181 (c31k0 Z hw h0 a cs hS hcs hC) hE d30_1 rfl rfl rfl rfl rfl rfl (by decide) pd31 rfl rfl rfl (W := 0) (lb rfl) (by decide) (by decide) (by decide) (by decide) fun v101 h102 q103 => ?_
  obtain ⟨rfl, rfl⟩ := q103
  refine Go.if_eq 16 7 d30_4 (by decide) rfl rfl (fun (b104 : (1 : Int32) = 0) => ?_) (fun (b104 : ¬ (1 : Int32) = 0) => ?_)
  · exact absurd b104 (show ¬ (1 : Int32) = 0 from (by decide))
  · refine Go.aloadN 8 rfl d30_7 rfl rfl ?_
    refine Go.getF 11 rfl (v := .ref t) 75 d30_8 rfl hV ?_
    refine Go.iloadN 12 rfl d30_11 rfl ?_
    refine Go.callS 15 rfl (C := B32) [.ref t, .int j] (rest := []) 182 183 184 185 (c32 Z hw h0 t j x us jn hj hj9 hfm hlen hlt hc hA) d30_12 rfl rfl rfl rfl (by decide) pd32 rfl rfl rfl (W := 0) (lb rfl) (by decide) (by decide) (by decide) (by decide) fun v105 h106 q107 => ?_
    obtain ⟨rfl, rfl⟩ := q107
    exact Go.retN (t := .char) (z' := x) d30_15 rfl (by decide) (own_nc hx) (by decide) (by decide) ⟨rfl, rfl⟩
theorem c13d (Z : State) (hw : Wd Z tables_1) (h0 : Heap) (a : Addr) (n : Nat) (xs : List Int32) (hn : xs.length = n) (hn9 : n < 9) (cs : Int32) (hS : YCs Z cs) (hcs : ¬ cs = 0) (t : Addr) (hT : Str Z h0 a t xs) : Con Z B13 (List.toArray [.ref a]) h0 (Q13k0 (Int32.ofNat n) h0) := by
  obtain ⟨hE, hV, hD⟩ := hT
  rcases hD with ⟨C, us, hA, S⟩ | ⟨C, us, hA, S⟩
  · exact c13k0 Z hw h0 a (Int32.ofNat n) cs hS hcs t (IL us) (Int32.ofNat n) (by rw [IL.len, S.len, hn]; exact len_ofNat (by omega)) (own_r0 _) hE hV C hA
  · exact c13k1 Z hw h0 a (Int32.ofNat n) cs hS hcs t (IL us) (Int32.ofNat (2 * n)) (by rw [IL.len, S.len, hn]; exact len_ofNat (by omega)) (own_r1 hn9) hE hV C hA
theorem c30d (Z : State) (hw : Wd Z tables_1) (h0 : Heap) (a : Addr) {jn : Nat} (j x : Int32) (n : Nat) (xs : List Int32) (hn : xs.length = n) (hn9 : n < 9) (hjn : jn < n) (hc : xs.getD jn 0 = x) (cs : Int32) (hS : YCs Z cs) (hcs : ¬ cs = 0) (hAs : YAs Z) (hHi : YHi Z) (hLo : YLo Z) (hfm : YFm Z) (t : Addr) (hj : j.toInt = jn) (hj9 : jn < 9) (hx : Ch x) (hT : Str Z h0 a t xs) : Con Z B30 (List.toArray [.ref a, .int j]) h0 (Q30k0 x h0) := by
  obtain ⟨hE, hV, hD⟩ := hT
  rcases hD with ⟨C, us, hA, S⟩ | ⟨C, us, hA, S⟩
  · exact c30k0 Z hw h0 a j x cs hS hcs hAs hHi hLo hfm t us jn hj hj9 hE hV hA hx C (by rw [S.len]; omega) (by rw [S.len]; omega) ((S.get (by omega)).trans hc)
  · exact c30k1 Z hw h0 a j x cs hS hcs hAs hHi hLo hfm t us jn hj hj9 hE hV hA hx C (Int32.ofNat (2 * n)) (Int32.ofNat n) (by rw [S.len, hn]; exact len_ofNat (by omega)) (own_r1 hn9) (own_jl hj hjn (by omega)) (by rw [S.len]; omega) ((S.get (by omega)).trans hc)
theorem d8_0 : decode jdk_68_method_2_code 0 = .ok (.aload_n 0, 1) := by decide +kernel
theorem d8_1 : decode jdk_68_method_2_code 1 = .ok (.invokespecial 3, 3) := by decide +kernel
theorem d8_4 : decode jdk_68_method_2_code 4 = .ok (.getstatic 18, 3) := by decide +kernel
theorem d8_7 : decode jdk_68_method_2_code 7 = .ok (.ifCond .eq 18, 3) := by decide +kernel
theorem d8_10 : decode jdk_68_method_2_code 10 = .ok (.aload_n 0, 1) := by decide +kernel
theorem d8_11 : decode jdk_68_method_2_code 11 = .ok (.iload_n 1, 1) := by decide +kernel
theorem d8_12 : decode jdk_68_method_2_code 12 = .ok (.newarray .byte, 2) := by decide +kernel
theorem d8_14 : decode jdk_68_method_2_code 14 = .ok (.putfield 15, 3) := by decide +kernel
theorem d8_17 : decode jdk_68_method_2_code 17 = .ok (.aload_n 0, 1) := by decide +kernel
theorem d8_18 : decode jdk_68_method_2_code 18 = .ok (.iconst 0, 1) := by decide +kernel
theorem d8_19 : decode jdk_68_method_2_code 19 = .ok (.putfield 22, 3) := by decide +kernel
theorem d8_22 : decode jdk_68_method_2_code 22 = .ok (.goto 16, 3) := by decide +kernel
theorem d8_38 : decode jdk_68_method_2_code 38 = .ok (.return_, 1) := by decide +kernel
theorem pd8 : parseMethodDescriptor "(I)V" = some ⟨[.int], none⟩ := by decide +kernel
theorem pn8 : plainFor (⟨"java/lang/AbstractStringBuilder", "<init>", "(I)V"⟩ : MethodName) = true := by first | (refine plainFor_of_name ?_; simp [plainName, overriddenIn]; done) | (refine plainFor_of_name ?_; decide +kernel) | decide +kernel
abbrev B8 : Bd := ((⟨"java/lang/AbstractStringBuilder", "<init>", "(I)V"⟩ : MethodName), jdk_68_method_2_code, 2, none, ({ frames := 1, cells := 1, slots := 16, locals := 12 } : Room), tables_1)
def Q8 (Z : State) (sb : Addr) (h0 : Heap) (v : Option Value) (h : Heap) : Prop := v = none ∧ ∃ t, h0.size ≤ t ∧ Keep h0 h [sb] ∧ YBv Z h sb (.ref t) ∧ YBc Z h sb (.int 0) ∧ YBn Z h sb (.int 0) ∧ YBm Z h sb (.int 0) ∧ Ary Z h t .byte (IL (zer 16))
theorem c8 (Z : State) (hw : Wd Z tables_1) (h0 : Heap) (sb : Addr)  (cs : Int32) (hS : YCs Z cs) (hcs : ¬ cs = 0) (hge : Z.heap.size ≤ sb) (hE : YEb Z h0 sb) (hV : YBv Z h0 sb .null) (hC : YBc Z h0 sb (.int 0)) (hN : YBn Z h0 sb (.int 0)) (hY : YBm Z h0 sb (.int 0)) : Con Z B8 (List.toArray [.ref sb, .int (16 : Int32)]) h0 (Q8 Z sb h0) := by
  refine Con.mk (Ls := #[.val (.ref sb), .val (.int (16 : Int32))]) hw pn8 (fun mid => by first | (simp [entryFrame, mkF, argsToLocals, Value.category, Jvm.Ow.Bd.ml, B8]; done) | rfl) (Go.old fun hle' => ?_)
  have hle := hle'.1
  refine Go.aloadN 1 rfl d8_0 rfl rfl ?_
  refine Go.initO 4 rfl 52 17 18 d8_1 rfl rfl rfl rfl (by decide) (W := 0) (lb rfl) (by decide) ?_
  refine Go.getS 7 rfl (v := .int cs) 53 d8_4 rfl hS ?_
  refine Go.if_eq 25 10 d8_7 (by decide) rfl rfl (fun (b101 : cs = 0) => ?_) (fun (b101 : ¬ cs = 0) => ?_)
  · exact absurd b101 (show ¬ cs = 0 from hcs)
  · refine Go.aloadN 11 rfl d8_10 rfl rfl ?_
    refine Go.iloadN 12 rfl d8_11 rfl ?_
    refine Go.newA 14 rfl 4 16 16 d8_12 rfl rfl (by decide) (by decide) (by decide) (by decide) fun h103 a102 g104 z105 K106 A107 E108 => ?_
    have A109 : Ary Z h103 a102 .byte [.int 0, .int 0, .int 0, .int 0, .int 0, .int 0, .int 0, .int 0, .int 0, .int 0, .int 0, .int 0, .int 0, .int 0, .int 0, .int 0] := A107
    have A110 : Ary Z h103 a102 .byte (IL (zer 16)) := A109
    have F111 : YBv Z h103 sb (.null) := (hV.keep K106 nin0)
    have F112 : YEb Z h103 sb := (hE.keep K106)
    refine Go.putF 17 rfl (v' := .ref a102) (ty := (.array .byte)) 54 55 41 d8_14 rfl F111 F112 (Or.inl rfl) rfl (by decide) rfl rfl hge fun h113 K114 W115 F116 => ?_
    refine Go.aloadN 18 rfl d8_17 rfl rfl ?_
    refine Go.iconst 19 rfl (0 : Int32) d8_18 rfl ?_
    have F117 : YBc Z h113 sb (.int (0 : Int32)) := (Fld.oth hw (hC.keep K106 nin0) W115 57 55 (Or.inl rfl) (Or.inl rfl) (by decide) rfl rfl)
    have F118 : YEb Z h113 sb := (F112.keep K114)
    refine Go.putF 22 rfl (v' := .int (0 : Int32)) (ty := .byte) 56 57 41 d8_19 rfl F117 F118 (Or.inl rfl) rfl (by decide) rfl rfl hge fun h119 K120 W121 F122 => ?_
    refine Go.goto 38 d8_22 (by decide) (by decide) ?_
    have kc123 : Keep h0 h119 [sb] := ((((Keep.refl h0 [sb]).trans K106 all0).trans K114 (by simp)).trans K120 (by simp))
    have F124 : YBv Z h119 sb (.ref a102) := (Fld.oth hw F116 W121 55 57 (Or.inl rfl) (Or.inl rfl) (by decide) rfl rfl)
    have F125 : YBn Z h119 sb (.int (0 : Int32)) := (Fld.oth hw (Fld.oth hw (hN.keep K106 nin0) W115 99 55 (Or.inl rfl) (Or.inl rfl) (by decide) rfl rfl) W121 99 57 (Or.inl rfl) (Or.inl rfl) (by decide) rfl rfl)
    have F126 : YBm Z h119 sb (.int (0 : Int32)) := (Fld.oth hw (Fld.oth hw (hY.keep K106 nin0) W115 258 55 (Or.inl rfl) (Or.inl rfl) (by decide) rfl rfl) W121 258 57 (Or.inl rfl) (Or.inl rfl) (by decide) rfl rfl)
    have ne127 : a102 ≠ sb := (show @Ne Nat a102 sb from by have := ltN hE.lt; have := g104; omega)
    have F128 : Ary Z h119 a102 .byte (IL (zer 16)) := ((A110.keep K114 (ninS ne127 nin0)).keep K120 (ninS ne127 nin0))
    exact Go.retV d8_38 rfl (by decide) (by decide) ⟨rfl, a102, Nat.le_of_eq g104.symm, kc123, F124, F122, F125, F126, F128⟩
theorem d7_0 : decode jdk_67_method_1_code 0 = .ok (.aload_n 0, 1) := by decide +kernel
theorem d7_1 : decode jdk_67_method_1_code 1 = .ok (.bipush 16, 2) := by decide +kernel
theorem d7_3 : decode jdk_67_method_1_code 3 = .ok (.invokespecial 1, 3) := by decide +kernel
theorem d7_6 : decode jdk_67_method_1_code 6 = .ok (.return_, 1) := by decide +kernel
theorem pd7 : parseMethodDescriptor "()V" = some ⟨[], none⟩ := by decide +kernel
theorem pn7 : plainFor (⟨"java/lang/StringBuilder", "<init>", "()V"⟩ : MethodName) = true := by first | (refine plainFor_of_name ?_; simp [plainName, overriddenIn]; done) | (refine plainFor_of_name ?_; decide +kernel) | decide +kernel
abbrev B7 : Bd := ((⟨"java/lang/StringBuilder", "<init>", "()V"⟩ : MethodName), jdk_67_method_1_code, 1, none, ({ frames := 2, cells := 1, slots := 16, locals := 25 } : Room), tables_1)
def Q7 (Z : State) (sb : Addr) (h0 : Heap) (v : Option Value) (h : Heap) : Prop := v = none ∧ ∃ t, h0.size ≤ t ∧ Keep h0 h [sb] ∧ YBv Z h sb (.ref t) ∧ YBc Z h sb (.int 0) ∧ YBn Z h sb (.int 0) ∧ YBm Z h sb (.int 0) ∧ Ary Z h t .byte (IL (zer 16))
theorem c7 (Z : State) (hw : Wd Z tables_1) (h0 : Heap) (sb : Addr)  (cs : Int32) (hS : YCs Z cs) (hcs : ¬ cs = 0) (hge : Z.heap.size ≤ sb) (hE : YEb Z h0 sb) (hV : YBv Z h0 sb .null) (hC : YBc Z h0 sb (.int 0)) (hN : YBn Z h0 sb (.int 0)) (hY : YBm Z h0 sb (.int 0)) : Con Z B7 (List.toArray [.ref sb]) h0 (Q7 Z sb h0) := by
  refine Con.mk (Ls := #[.val (.ref sb)]) hw pn7 (fun mid => by first | (simp [entryFrame, mkF, argsToLocals, Value.category, Jvm.Ow.Bd.ml, B7]; done) | rfl) (Go.old fun hle' => ?_)
  have hle := hle'.1
  refine Go.aloadN 1 rfl d7_0 rfl rfl ?_
  refine Go.bipush 3 rfl (16 : Int32) d7_1 rfl ?_
  refine Go.callI 6 rfl (C := B8) sb [.int (16 : Int32)] (rest := []) 46 47 50 51 (c8 Z hw h0 sb cs hS hcs hge hE hV hC hN hY) d7_3 rfl rfl rfl rfl rfl rfl (by decide) pd8 rfl rfl rfl (W := 0) (lb rfl) (by decide) (by decide) (by decide) (by decide) fun v101 h102 q103 => ?_
  obtain ⟨rfl, t, g, K, R⟩ := q103
  exact Go.retV d7_6 rfl (by decide) (by decide) ⟨rfl, t, g, K, R⟩
theorem d25_0 : decode jdk_68_method_68_code 0 = .ok (.getstatic 18, 3) := by decide +kernel
theorem d25_3 : decode jdk_68_method_68_code 3 = .ok (.ifCond .eq 14, 3) := by decide +kernel
theorem d25_6 : decode jdk_68_method_68_code 6 = .ok (.aload_n 0, 1) := by decide +kernel
theorem d25_7 : decode jdk_68_method_68_code 7 = .ok (.getfield 22, 3) := by decide +kernel
theorem d25_10 : decode jdk_68_method_68_code 10 = .ok (.ifCond .ne 7, 3) := by decide +kernel
theorem d25_13 : decode jdk_68_method_68_code 13 = .ok (.iconst 1, 1) := by decide +kernel
theorem d25_14 : decode jdk_68_method_68_code 14 = .ok (.goto 4, 3) := by decide +kernel
theorem d25_17 : decode jdk_68_method_68_code 17 = .ok (.iconst 0, 1) := by decide +kernel
theorem d25_18 : decode jdk_68_method_68_code 18 = .ok (.ireturn, 1) := by decide +kernel
theorem pd25 : parseMethodDescriptor "()Z" = some ⟨[], some .boolean⟩ := by decide +kernel
theorem pn25 : plainFor (⟨"java/lang/AbstractStringBuilder", "isLatin1", "()Z"⟩ : MethodName) = true := by first | (refine plainFor_of_name ?_; simp [plainName, overriddenIn]; done) | (refine plainFor_of_name ?_; decide +kernel) | decide +kernel
abbrev B25 : Bd := ((⟨"java/lang/AbstractStringBuilder", "isLatin1", "()Z"⟩ : MethodName), jdk_68_method_68_code, 1, (some .boolean), ({ frames := 0, cells := 0, slots := 0, locals := 0 } : Room), tables_1)
def Q25k0 (h0 : Heap) (v : Option Value) (h : Heap) : Prop := v = some (.int 1) ∧ h0 = h
theorem c25k0 (Z : State) (hw : Wd Z tables_1) (h0 : Heap) (sb : Addr)  (cs : Int32) (hS : YCs Z cs) (hcs : ¬ cs = 0) (hC : YBc Z h0 sb (.int 0)) : Con Z B25 (List.toArray [.ref sb]) h0 (Q25k0 h0) := by
  refine Con.mk (Ls := #[.val (.ref sb)]) hw pn25 (fun mid => by first | (simp [entryFrame, mkF, argsToLocals, Value.category, Jvm.Ow.Bd.ml, B25]; done) | rfl) (Go.old fun hle' => ?_)
  have hle := hle'.1
  refine Go.getS 3 rfl (v := .int cs) 53 d25_0 rfl hS ?_
  refine Go.if_eq 17 6 d25_3 (by decide) rfl rfl (fun (b101 : cs = 0) => ?_) (fun (b101 : ¬ cs = 0) => ?_)
  · exact absurd b101 (show ¬ cs = 0 from hcs)
  · refine Go.aloadN 7 rfl d25_6 rfl rfl ?_
    refine Go.getF 10 rfl (v := .int (0 : Int32)) 56 d25_7 rfl hC ?_
    refine Go.if_ne 17 13 d25_10 (by decide) rfl rfl (fun (b102 : ¬ (0 : Int32) = 0) => ?_) (fun (b102 : (0 : Int32) = 0) => ?_)
    · exact absurd (show (0 : Int32) = 0 from (by decide)) b102
    · refine Go.iconst 14 rfl (1 : Int32) d25_13 rfl ?_
      refine Go.goto 18 d25_14 (by decide) (by decide) ?_
      exact Go.retN (t := .boolean) (z' := 1) d25_18 rfl (by decide) (by decide) (by decide) (by decide) ⟨rfl, rfl⟩
def Q25k1 (h0 : Heap) (v : Option Value) (h : Heap) : Prop := v = some (.int 0) ∧ h0 = h
theorem c25k1 (Z : State) (hw : Wd Z tables_1) (h0 : Heap) (sb : Addr)  (cs : Int32) (hS : YCs Z cs) (hcs : ¬ cs = 0) (hC : YBc Z h0 sb (.int 1)) : Con Z B25 (List.toArray [.ref sb]) h0 (Q25k1 h0) := by
  refine Con.mk (Ls := #[.val (.ref sb)]) hw pn25 (fun mid => by first | (simp [entryFrame, mkF, argsToLocals, Value.category, Jvm.Ow.Bd.ml, B25]; done) | rfl) (Go.old fun hle' => ?_)
  have hle := hle'.1
  refine Go.getS 3 rfl (v := .int cs) 53 d25_0 rfl hS ?_
  refine Go.if_eq 17 6 d25_3 (by decide) rfl rfl (fun (b101 : cs = 0) => ?_) (fun (b101 : ¬ cs = 0) => ?_)
  · exact absurd b101 (show ¬ cs = 0 from hcs)
  · refine Go.aloadN 7 rfl d25_6 rfl rfl ?_
    refine Go.getF 10 rfl (v := .int (1 : Int32)) 56 d25_7 rfl hC ?_
    refine Go.if_ne 17 13 d25_10 (by decide) rfl rfl (fun (b102 : ¬ (1 : Int32) = 0) => ?_) (fun (b102 : (1 : Int32) = 0) => ?_)
    · refine Go.iconst 18 rfl (0 : Int32) d25_17 rfl ?_
      exact Go.retN (t := .boolean) (z' := 0) d25_18 rfl (by decide) (by decide) (by decide) (by decide) ⟨rfl, rfl⟩
    · exact absurd b102 (show ¬ (1 : Int32) = 0 from (by decide))
theorem d22_0 : decode jdk_68_method_64_code 0 = .ok (.aload_n 0, 1) := by decide +kernel
theorem d22_1 : decode jdk_68_method_64_code 1 = .ok (.getfield 15, 3) := by decide +kernel
theorem d22_4 : decode jdk_68_method_64_code 4 = .ok (.areturn, 1) := by decide +kernel
theorem pd22 : parseMethodDescriptor "()[B" = some ⟨[], some (.array .byte)⟩ := by decide +kernel
theorem pn22 : plainFor (⟨"java/lang/AbstractStringBuilder", "getValue", "()[B"⟩ : MethodName) = true := by first | (refine plainFor_of_name ?_; simp [plainName, overriddenIn]; done) | (refine plainFor_of_name ?_; decide +kernel) | decide +kernel
abbrev B22 : Bd := ((⟨"java/lang/AbstractStringBuilder", "getValue", "()[B"⟩ : MethodName), jdk_68_method_64_code, 1, (some (.array .byte)), ({ frames := 0, cells := 0, slots := 0, locals := 0 } : Room), tables_1)
def Q22 (val : Addr) (h0 : Heap) (v : Option Value) (h : Heap) : Prop := v = some (.ref val) ∧ h0 = h
theorem c22 (Z : State) (hw : Wd Z tables_1) (h0 : Heap) (sb : Addr) (val : Addr) (hV : YBv Z h0 sb (.ref val)) : Con Z B22 (List.toArray [.ref sb]) h0 (Q22 val h0) := by
  refine Con.mk (Ls := #[.val (.ref sb)]) hw pn22 (fun mid => by first | (simp [entryFrame, mkF, argsToLocals, Value.category, Jvm.Ow.Bd.ml, B22]; done) | rfl) (Go.old fun hle' => ?_)
  have hle := hle'.1
  refine Go.aloadN 1 rfl d22_0 rfl rfl ?_
  refine Go.getF 4 rfl (v := .ref val) 54 d22_1 rfl hV ?_
  exact Go.retA d22_4 rfl rfl rfl (by decide) (by decide) ⟨rfl, rfl⟩
theorem d24_0 : decode jdk_68_method_6_code 0 = .ok (.aload_n 0, 1) := by decide +kernel
theorem d24_1 : decode jdk_68_method_6_code 1 = .ok (.getfield 79, 3) := by decide +kernel
theorem d24_4 : decode jdk_68_method_6_code 4 = .ok (.ireturn, 1) := by decide +kernel
theorem pd24 : parseMethodDescriptor "()I" = some ⟨[], some .int⟩ := by decide +kernel
theorem pn24 : plainFor (⟨"java/lang/AbstractStringBuilder", "length", "()I"⟩ : MethodName) = true := by first | (refine plainFor_of_name ?_; simp [plainName, overriddenIn]; done) | (refine plainFor_of_name ?_; decide +kernel) | decide +kernel
abbrev B24 : Bd := ((⟨"java/lang/AbstractStringBuilder", "length", "()I"⟩ : MethodName), jdk_68_method_6_code, 1, (some .int), ({ frames := 0, cells := 0, slots := 0, locals := 0 } : Room), tables_1)
def Q24 (cnt : Int32) (h0 : Heap) (v : Option Value) (h : Heap) : Prop := v = some (.int cnt) ∧ h0 = h
theorem c24 (Z : State) (hw : Wd Z tables_1) (h0 : Heap) (sb : Addr) (cnt : Int32) (hN : YBn Z h0 sb (.int cnt)) : Con Z B24 (List.toArray [.ref sb]) h0 (Q24 cnt h0) := by
  refine Con.mk (Ls := #[.val (.ref sb)]) hw pn24 (fun mid => by first | (simp [entryFrame, mkF, argsToLocals, Value.category, Jvm.Ow.Bd.ml, B24]; done) | rfl) (Go.old fun hle' => ?_)
  have hle := hle'.1
  refine Go.aloadN 1 rfl d24_0 rfl rfl ?_
  refine Go.getF 4 rfl (v := .int cnt) 98 d24_1 rfl hN ?_
  exact Go.retI d24_4 rfl (by decide) (by decide) ⟨rfl, rfl⟩
theorem d23_0 : decode jdk_67_method_93_code 0 = .ok (.aload_n 0, 1) := by decide +kernel
theorem d23_1 : decode jdk_67_method_93_code 1 = .ok (.invokespecial 343, 3) := by decide +kernel
theorem d23_4 : decode jdk_67_method_93_code 4 = .ok (.ireturn, 1) := by decide +kernel
theorem pd23 : parseMethodDescriptor "()I" = some ⟨[], some .int⟩ := by decide +kernel
theorem pn23 : plainFor (⟨"java/lang/StringBuilder", "length", "()I"⟩ : MethodName) = true := by first | (refine plainFor_of_name ?_; simp [plainName, overriddenIn]; done) | (refine plainFor_of_name ?_; decide +kernel) | decide +kernel
abbrev B23 : Bd := ((⟨"java/lang/StringBuilder", "length", "()I"⟩ : MethodName), jdk_67_method_93_code, 1, (some .int), ({ frames := 1, cells := 0, slots := 0, locals := 12 } : Room), tables_1)
def Q23 (cnt : Int32) (h0 : Heap) (v : Option Value) (h : Heap) : Prop := v = some (.int cnt) ∧ h0 = h
theorem c23 (Z : State) (hw : Wd Z tables_1) (h0 : Heap) (sb : Addr) (cnt : Int32) (hE : YEb Z h0 sb) (hN : YBn Z h0 sb (.int cnt)) : Con Z B23 (List.toArray [.ref sb]) h0 (Q23 cnt h0) := by
  refine Con.mk (Ls := #[.val (.ref sb)]) hw pn23 (fun mid => by first | (simp [entryFrame, mkF, argsToLocals, Value.category, Jvm.Ow.Bd.ml, B23]; done) | rfl) (Go.old fun hle' => ?_)
  have hle := hle'.1
  refine Go.aloadN 1 rfl d23_0 rfl rfl ?_
  refine Go.callU 4 rfl (C := B24) sb [] (rest := []) 149 145 50 150 84 103 (c24 Z hw h0 sb cnt hN) (Ins.self hE) d23_1 rfl rfl rfl rfl rfl rfl rfl (by decide) (by decide) pd24 rfl rfl rfl (W := 0) (lb rfl) (by decide) (by decide) (by decide) (by decide) fun v101 h102 q103 => ?_
  obtain ⟨rfl, rfl⟩ := q103
  exact Go.retI d23_4 rfl (by decide) (by decide) ⟨rfl, rfl⟩
theorem d15_0 : decode jdk_68_method_9_code 0 = .ok (.aload_n 0, 1) := by decide +kernel
theorem d15_1 : decode jdk_68_method_9_code 1 = .ok (.getfield 15, 3) := by decide +kernel
theorem d15_4 : decode jdk_68_method_9_code 4 = .ok (.arraylength, 1) := by decide +kernel
theorem d15_5 : decode jdk_68_method_9_code 5 = .ok (.aload_n 0, 1) := by decide +kernel
theorem d15_6 : decode jdk_68_method_9_code 6 = .ok (.getfield 22, 3) := by decide +kernel
theorem d15_9 : decode jdk_68_method_9_code 9 = .ok (.ishr, 1) := by decide +kernel
theorem d15_10 : decode jdk_68_method_9_code 10 = .ok (.istore_n 2, 1) := by decide +kernel
theorem d15_11 : decode jdk_68_method_9_code 11 = .ok (.iload_n 1, 1) := by decide +kernel
theorem d15_12 : decode jdk_68_method_9_code 12 = .ok (.iload_n 2, 1) := by decide +kernel
theorem d15_13 : decode jdk_68_method_9_code 13 = .ok (.isub, 1) := by decide +kernel
theorem d15_14 : decode jdk_68_method_9_code 14 = .ok (.ifCond .le 24, 3) := by decide +kernel
theorem d15_38 : decode jdk_68_method_9_code 38 = .ok (.return_, 1) := by decide +kernel
theorem pd15 : parseMethodDescriptor "(I)V" = some ⟨[.int], none⟩ := by decide +kernel
theorem pn15 : plainFor (⟨"java/lang/AbstractStringBuilder", "ensureCapacityInternal", "(I)V"⟩ : MethodName) = true := by first | (refine plainFor_of_name ?_; simp [plainName, overriddenIn]; done) | (refine plainFor_of_name ?_; decide +kernel) | decide +kernel
abbrev B15 : Bd := ((⟨"java/lang/AbstractStringBuilder", "ensureCapacityInternal", "(I)V"⟩ : MethodName), jdk_68_method_9_code, 3, none, ({ frames := 0, cells := 0, slots := 0, locals := 0 } : Room), tables_1)
def Q15k0 (h0 : Heap) (v : Option Value) (h : Heap) : Prop := v = none ∧ h0 = h
theorem c15k0 (Z : State) (hw : Wd Z tables_1) (h0 : Heap) (sb : Addr) (x : Int32)  (val : Addr) (us : List Int32) (hul : us.length = 16) (hm : ¬ (0 : Int32) < x - (16 : Int32)) (hV : YBv Z h0 sb (.ref val)) (hC : YBc Z h0 sb (.int 0)) (hA : Ary Z h0 val .byte (IL us)) : Con Z B15 (List.toArray [.ref sb, .int x]) h0 (Q15k0 h0) := by
  refine Con.mk (Ls := #[.val (.ref sb), .val (.int x), .unset]) hw pn15 (fun mid => by first | (simp [entryFrame, mkF, argsToLocals, Value.category, Jvm.Ow.Bd.ml, B15]; done) | rfl) (Go.old fun hle' => ?_)
  have hle := hle'.1
  refine Go.aloadN 1 rfl d15_0 rfl rfl ?_
  refine Go.getF 4 rfl (v := .ref val) 54 d15_1 rfl hV ?_
  refine Go.alen 5 rfl (16 : Int32) d15_4 hA (by rw [IL.len, hul]; rfl) ?_
  refine Go.aloadN 6 rfl d15_5 rfl rfl ?_
  refine Go.getF 9 rfl (v := .int (0 : Int32)) 56 d15_6 rfl hC ?_
  refine Go.ishr 10 rfl d15_9 ?_
  refine Go.eqI (w := (16 : Int32)) (by decide) ?_
  refine Go.istoreN 11 rfl d15_10 (Ls' := #[.val (.ref sb), .val (.int x), .val (.int (16 : Int32))]) rfl ?_
  refine Go.iloadN 12 rfl d15_11 rfl ?_
  refine Go.iloadN 13 rfl d15_12 rfl ?_
  refine Go.isub 14 rfl d15_13 ?_
  refine Go.if_le 38 17 d15_14 (by decide) rfl rfl (fun (b101 : ¬ 0 < (x - (16 : Int32))) => ?_) (fun (b101 : 0 < (x - (16 : Int32))) => ?_)
  · exact Go.retV d15_38 rfl (by decide) (by decide) ⟨rfl, rfl⟩
  · exact absurd b101 (show ¬ 0 < (x - (16 : Int32)) from hm)
def Q15k1 (h0 : Heap) (v : Option Value) (h : Heap) : Prop := v = none ∧ h0 = h
theorem c15k1 (Z : State) (hw : Wd Z tables_1) (h0 : Heap) (sb : Addr) (x : Int32)  (val : Addr) (us : List Int32) (hul : us.length = 32) (hm : ¬ (0 : Int32) < x - (16 : Int32)) (hV : YBv Z h0 sb (.ref val)) (hC : YBc Z h0 sb (.int 1)) (hA : Ary Z h0 val .byte (IL us)) : Con Z B15 (List.toArray [.ref sb, .int x]) h0 (Q15k1 h0) := by
  refine Con.mk (Ls := #[.val (.ref sb), .val (.int x), .unset]) hw pn15 (fun mid => by first | (simp [entryFrame, mkF, argsToLocals, Value.category, Jvm.Ow.Bd.ml, B15]; done) | rfl) (Go.old fun hle' => ?_)
  have hle := hle'.1
  refine Go.aloadN 1 rfl d15_0 rfl rfl ?_
  refine Go.getF 4 rfl (v := .ref val) 54 d15_1 rfl hV ?_
  refine Go.alen 5 rfl (32 : Int32) d15_4 hA (by rw [IL.len, hul]; rfl) ?_
  refine Go.aloadN 6 rfl d15_5 rfl rfl ?_
  refine Go.getF 9 rfl (v := .int (1 : Int32)) 56 d15_6 rfl hC ?_
  refine Go.ishr 10 rfl d15_9 ?_
  refine Go.eqI (w := (16 : Int32)) (by decide) ?_
  refine Go.istoreN 11 rfl d15_10 (Ls' := #[.val (.ref sb), .val (.int x), .val (.int (16 : Int32))]) rfl ?_
  refine Go.iloadN 12 rfl d15_11 rfl ?_
  refine Go.iloadN 13 rfl d15_12 rfl ?_
  refine Go.isub 14 rfl d15_13 ?_
  refine Go.if_le 38 17 d15_14 (by decide) rfl rfl (fun (b101 : ¬ 0 < (x - (16 : Int32))) => ?_) (fun (b101 : 0 < (x - (16 : Int32))) => ?_)
  · exact Go.retV d15_38 rfl (by decide) (by decide) ⟨rfl, rfl⟩
  · exact absurd b101 (show ¬ 0 < (x - (16 : Int32)) from hm)
theorem d47_0 : decode jdk_68_method_11_code 0 = .ok (.aload_n 0, 1) := by decide +kernel
theorem d47_1 : decode jdk_68_method_11_code 1 = .ok (.invokevirtual 83, 3) := by decide +kernel
theorem d47_4 : decode jdk_68_method_11_code 4 = .ok (.ifCond .ne 4, 3) := by decide +kernel
theorem d47_7 : decode jdk_68_method_11_code 7 = .ok (.return_, 1) := by decide +kernel
theorem d47_8 : decode jdk_68_method_11_code 8 = .ok (.aload_n 0, 1) := by decide +kernel
theorem d47_9 : decode jdk_68_method_11_code 9 = .ok (.getfield 15, 3) := by decide +kernel
theorem d47_12 : decode jdk_68_method_11_code 12 = .ok (.arraylength, 1) := by decide +kernel
theorem d47_13 : decode jdk_68_method_11_code 13 = .ok (.invokestatic 26, 3) := by decide +kernel
theorem d47_16 : decode jdk_68_method_11_code 16 = .ok (.astore_n 1, 1) := by decide +kernel
theorem d47_17 : decode jdk_68_method_11_code 17 = .ok (.aload_n 0, 1) := by decide +kernel
theorem d47_18 : decode jdk_68_method_11_code 18 = .ok (.getfield 15, 3) := by decide +kernel
theorem d47_21 : decode jdk_68_method_11_code 21 = .ok (.iconst 0, 1) := by decide +kernel
theorem d47_22 : decode jdk_68_method_11_code 22 = .ok (.aload_n 1, 1) := by decide +kernel
theorem d47_23 : decode jdk_68_method_11_code 23 = .ok (.iconst 0, 1) := by decide +kernel
theorem d47_24 : decode jdk_68_method_11_code 24 = .ok (.aload_n 0, 1) := by decide +kernel
theorem d47_25 : decode jdk_68_method_11_code 25 = .ok (.getfield 79, 3) := by decide +kernel
theorem d47_28 : decode jdk_68_method_11_code 28 = .ok (.invokestatic 125, 3) := by decide +kernel
theorem d47_31 : decode jdk_68_method_11_code 31 = .ok (.aload_n 0, 1) := by decide +kernel
theorem d47_32 : decode jdk_68_method_11_code 32 = .ok (.aload_n 1, 1) := by decide +kernel
theorem d47_33 : decode jdk_68_method_11_code 33 = .ok (.putfield 15, 3) := by decide +kernel
theorem d47_36 : decode jdk_68_method_11_code 36 = .ok (.aload_n 0, 1) := by decide +kernel
theorem d47_37 : decode jdk_68_method_11_code 37 = .ok (.iconst 1, 1) := by decide +kernel
theorem d47_38 : decode jdk_68_method_11_code 38 = .ok (.putfield 22, 3) := by decide +kernel
theorem d47_41 : decode jdk_68_method_11_code 41 = .ok (.return_, 1) := by decide +kernel
theorem pd47 : parseMethodDescriptor "()V" = some ⟨[], none⟩ := by decide +kernel
theorem pn47 : plainFor (⟨"java/lang/AbstractStringBuilder", "inflate", "()V"⟩ : MethodName) = true := by first | (refine plainFor_of_name ?_; simp [plainName, overriddenIn]; done) | (refine plainFor_of_name ?_; decide +kernel) | decide +kernel
abbrev B47 : Bd := ((⟨"java/lang/AbstractStringBuilder", "inflate", "()V"⟩ : MethodName), jdk_68_method_11_code, 2, none, ({ frames := 5, cells := 1, slots := 32, locals := 76 } : Room), tables_1)
def Q47n3 (Z : State) (sb : Addr) (us : List Int32) (h0 : Heap) (v : Option Value) (h : Heap) : Prop := v = none ∧ ∃ t, h0.size ≤ t ∧ Keep h0 h [sb] ∧ YBv Z h sb (.ref t) ∧ YBc Z h sb (.int 1) ∧ YBn Z h sb (.int 3) ∧ YBm Z h sb (.int 0) ∧ Ary Z h t .byte (IL (put (put (put (zer 32) (0 + 0) (us.getD 0 0 &&& (255 : Int32))) (0 + 1) (us.getD 1 0 &&& (255 : Int32))) (0 + 2) (us.getD 2 0 &&& (255 : Int32))))
theorem c47n3 (Z : State) (hw : Wd Z tables_1) (h0 : Heap) (sb : Addr) (us : List Int32) (cs : Int32) (hS : YCs Z cs) (hcs : ¬ cs = 0) (hAs : YAs Z) (hHi : YHi Z) (hLo : YLo Z) (hfm : YFm Z) (val : Addr) (hul : us.length = 16) (hge : Z.heap.size ≤ sb) (hE : YEb Z h0 sb) (hV : YBv Z h0 sb (.ref val)) (hC : YBc Z h0 sb (.int 0)) (hN : YBn Z h0 sb (.int 3)) (hY : YBm Z h0 sb (.int 0)) (hA : Ary Z h0 val .byte (IL us)) (hgv : Z.heap.size ≤ val) : Con Z B47 (List.toArray [.ref sb]) h0 (Q47n3 Z sb us h0) := by
  refine Con.mk (Ls := #[.val (.ref sb), .unset]) hw pn47 (fun mid => by first | (simp [entryFrame, mkF, argsToLocals, Value.category, Jvm.Ow.Bd.ml, B47]; done) | rfl) (Go.old fun hle' => ?_)
  have hle := hle'.1
  have hvs : val ≠ sb := own_na hw 41 rfl hE hA
  refine Go.aloadN 1 rfl d47_0 rfl rfl ?_
  refine Go.callV 4 rfl (C := B25) sb [] (rest := []) 253 152 154 153 50 155 (c25k0 Z hw h0 sb cs hS hcs hC) hE d47_1 rfl rfl rfl rfl rfl rfl (by decide) pd25 rfl rfl rfl (W := 0) (lb rfl) (by decide) (by decide) (by decide) (by decide) fun v101 h102 q103 => ?_
  obtain ⟨rfl, rfl⟩ := q103
  refine Go.if_ne 8 7 d47_4 (by decide) rfl rfl (fun (b104 : ¬ (1 : Int32) = 0) => ?_) (fun (b104 : (1 : Int32) = 0) => ?_)
  · refine Go.aloadN 9 rfl d47_8 rfl rfl ?_
    refine Go.getF 12 rfl (v := .ref val) 54 d47_9 rfl hV ?_
    refine Go.alen 13 rfl (16 : Int32) d47_12 hA (by rw [IL.len, hul]; rfl) ?_
    refine Go.callS 16 rfl (C := B37) [.int (16 : Int32)] (rest := []) 254 213 214 215 (c37n16 Z hw h0) d47_13 rfl rfl rfl rfl (by decide) pd37 rfl rfl rfl (W := 0) (lb rfl) (by decide) (by decide) (by decide) (by decide) fun v105 h106 q107 => ?_
    obtain ⟨t, rfl, g, K, At⟩ := q107
    have z108 : Z.heap.size ≤ t := Nat.le_trans hle g
    refine Go.astoreN 17 rfl d47_16 rfl (Ls' := #[.val (.ref sb), .val (.ref t)]) rfl ?_
    refine Go.aloadN 18 rfl d47_17 rfl rfl ?_
    have F109 : YBv Z h106 sb (.ref val) := (hV.keep K nin0)
    refine Go.getF 21 rfl (v := .ref val) 54 d47_18 rfl F109 ?_
    refine Go.iconst 22 rfl (0 : Int32) d47_21 rfl ?_
    refine Go.aloadN 23 rfl d47_22 rfl rfl ?_
    refine Go.iconst 24 rfl (0 : Int32) d47_23 rfl ?_
    refine Go.aloadN 25 rfl d47_24 rfl rfl ?_
    have F110 : YBn Z h106 sb (.int (3 : Int32)) := (hN.keep K nin0)
    refine Go.getF 28 rfl (v := .int (3 : Int32)) 98 d47_25 rfl F110 ?_
    have F111 : Ary Z h106 val .byte (IL us) := (hA.keep K nin0)
    have ne112 : val ≠ t := (show @Ne Nat val t from by have := ltN hA.lt; have := g; omega)
    refine Go.callS 31 rfl (C := B39) [.ref val, .int (0 : Int32), .ref t, .int (0 : Int32), .int (3 : Int32)] (rest := []) 255 221 184 222 (c39n3 Z hw h106 val t (0 : Int32) us (zer 32) 0 rfl (by decide) (32 : Int32) (16 : Int32) rfl (by decide) (by decide) (by omega) hfm (by decide) (by decide) hAs hHi hLo F111 At z108 ne112) d47_28 rfl rfl rfl rfl (by decide) pd39 rfl rfl rfl (W := 0) (lb rfl) (by decide) (by decide) (by decide) (by decide) fun v113 h114 q115 => ?_
    obtain ⟨rfl, Ki, Ai⟩ := q115
    refine Go.aloadN 32 rfl d47_31 rfl rfl ?_
    refine Go.aloadN 33 rfl d47_32 rfl rfl ?_
    have ne116 : sb ≠ t := (show @Ne Nat sb t from by have := ltN hE.lt; have := g; omega)
    have F117 : YBv Z h114 sb (.ref val) := (F109.keep Ki (ninS ne116 nin0))
    have F118 : YEb Z h114 sb := ((hE.keep K).keep Ki)
    refine Go.putF 36 rfl (v' := .ref t) (ty := (.array .byte)) 54 55 41 d47_33 rfl F117 F118 (Or.inl rfl) rfl (by decide) rfl rfl hge fun h119 K120 W121 F122 => ?_
    refine Go.aloadN 37 rfl d47_36 rfl rfl ?_
    refine Go.iconst 38 rfl (1 : Int32) d47_37 rfl ?_
    have F123 : YBc Z h119 sb (.int (0 : Int32)) := (Fld.oth hw ((hC.keep K nin0).keep Ki (ninS ne116 nin0)) W121 57 55 (Or.inl rfl) (Or.inl rfl) (by decide) rfl rfl)
    have F124 : YEb Z h119 sb := (F118.keep K120)
    refine Go.putF 41 rfl (v' := .int (1 : Int32)) (ty := .byte) 56 57 41 d47_38 rfl F123 F124 (Or.inl rfl) rfl (by decide) rfl rfl hge fun h125 K126 W127 F128 => ?_
    have kc129 : Keep h0 h125 [sb] := (((((Keep.refl h0 [sb]).trans K all0).trans Ki (allS (Or.inr g) all0)).trans K120 (by simp)).trans K126 (by simp))
    have F130 : YBv Z h125 sb (.ref t) := (Fld.oth hw F122 W127 55 57 (Or.inl rfl) (Or.inl rfl) (by decide) rfl rfl)
    have F131 : YBn Z h125 sb (.int (3 : Int32)) := (Fld.oth hw (Fld.oth hw (F110.keep Ki (ninS ne116 nin0)) W121 99 55 (Or.inl rfl) (Or.inl rfl) (by decide) rfl rfl) W127 99 57 (Or.inl rfl) (Or.inl rfl) (by decide) rfl rfl)
    have F132 : YBm Z h125 sb (.int (0 : Int32)) := (Fld.oth hw (Fld.oth hw ((hY.keep K nin0).keep Ki (ninS ne116 nin0)) W121 258 55 (Or.inl rfl) (Or.inl rfl) (by decide) rfl rfl) W127 258 57 (Or.inl rfl) (Or.inl rfl) (by decide) rfl rfl)
    have F133 : Ary Z h125 t .byte (IL (put (put (put (zer 32) (0 + 0) (us.getD 0 0 &&& (255 : Int32))) (0 + 1) (us.getD 1 0 &&& (255 : Int32))) (0 + 2) (us.getD 2 0 &&& (255 : Int32)))) := ((Ai.keep K120 (ninS (Ne.symm ne116) nin0)).keep K126 (ninS (Ne.symm ne116) nin0))
    exact Go.retV d47_41 rfl (by decide) (by decide) ⟨rfl, t, (by skip; have := g; omega), kc129, F130, F128, F131, F132, F133⟩
  · exact absurd b104 (show ¬ (1 : Int32) = 0 from (by decide))
def Q47n2 (Z : State) (sb : Addr) (us : List Int32) (h0 : Heap) (v : Option Value) (h : Heap) : Prop := v = none ∧ ∃ t, h0.size ≤ t ∧ Keep h0 h [sb] ∧ YBv Z h sb (.ref t) ∧ YBc Z h sb (.int 1) ∧ YBn Z h sb (.int 2) ∧ YBm Z h sb (.int 0) ∧ Ary Z h t .byte (IL (put (put (zer 32) (0 + 0) (us.getD 0 0 &&& (255 : Int32))) (0 + 1) (us.getD 1 0 &&& (255 : Int32))))
theorem c47n2 (Z : State) (hw : Wd Z tables_1) (h0 : Heap) (sb : Addr) (us : List Int32) (cs : Int32) (hS : YCs Z cs) (hcs : ¬ cs = 0) (hAs : YAs Z) (hHi : YHi Z) (hLo : YLo Z) (hfm : YFm Z) (val : Addr) (hul : us.length = 16) (hge : Z.heap.size ≤ sb) (hE : YEb Z h0 sb) (hV : YBv Z h0 sb (.ref val)) (hC : YBc Z h0 sb (.int 0)) (hN : YBn Z h0 sb (.int 2)) (hY : YBm Z h0 sb (.int 0)) (hA : Ary Z h0 val .byte (IL us)) (hgv : Z.heap.size ≤ val) : Con Z B47 (List.toArray [.ref sb]) h0 (Q47n2 Z sb us h0) := by
  refine Con.mk (Ls := #[.val (.ref sb), .unset]) hw pn47 (fun mid => by first | (simp [entryFrame, mkF, argsToLocals, Value.category, Jvm.Ow.Bd.ml, B47]; done) | rfl) (Go.old fun hle' => ?_)
  have hle := hle'.1
  have hvs : val ≠ sb := own_na hw 41 rfl hE hA
  refine Go.aloadN 1 rfl d47_0 rfl rfl ?_
  refine Go.callV 4 rfl (C := B25) sb [] (rest := []) 253 152 154 153 50 155 (c25k0 Z hw h0 sb cs hS hcs hC) hE d47_1 rfl rfl rfl rfl rfl rfl (by decide) pd25 rfl rfl rfl (W := 0) (lb rfl) (by decide) (by decide) (by decide) (by decide) fun v101 h102 q103 => ?_
  obtain ⟨rfl, rfl⟩ := q103
  refine Go.if_ne 8 7 d47_4 (by decide) rfl rfl (fun (b104 : ¬ (1 : Int32) = 0) => ?_) (fun (b104 : (1 : Int32) = 0) => ?_)
  · refine Go.aloadN 9 rfl d47_8 rfl rfl ?_
    refine Go.getF 12 rfl (v := .ref val) 54 d47_9 rfl hV ?_
    refine Go.alen 13 rfl (16 : Int32) d47_12 hA (by rw [IL.len, hul]; rfl) ?_
    refine Go.callS 16 rfl (C := B37) [.int (16 : Int32)] (rest := []) 254 213 214 215 (c37n16 Z hw h0) d47_13 rfl rfl rfl rfl (by decide) pd37 rfl rfl rfl (W := 0) (lb rfl) (by decide) (by decide) (by decide) (by decide) fun v105 h106 q107 => ?_
    obtain ⟨t, rfl, g, K, At⟩ := q107
    have z108 : Z.heap.size ≤ t := Nat.le_trans hle g
    refine Go.astoreN 17 rfl d47_16 rfl (Ls' := #[.val (.ref sb), .val (.ref t)]) rfl ?_
    refine Go.aloadN 18 rfl d47_17 rfl rfl ?_
    have F109 : YBv Z h106 sb (.ref val) := (hV.keep K nin0)
    refine Go.getF 21 rfl (v := .ref val) 54 d47_18 rfl F109 ?_
    refine Go.iconst 22 rfl (0 : Int32) d47_21 rfl ?_
    refine Go.aloadN 23 rfl d47_22 rfl rfl ?_
    refine Go.iconst 24 rfl (0 : Int32) d47_23 rfl ?_
    refine Go.aloadN 25 rfl d47_24 rfl rfl ?_
    have F110 : YBn Z h106 sb (.int (2 : Int32)) := (hN.keep K nin0)
    refine Go.getF 28 rfl (v := .int (2 : Int32)) 98 d47_25 rfl F110 ?_
    have F111 : Ary Z h106 val .byte (IL us) := (hA.keep K nin0)
    have ne112 : val ≠ t := (show @Ne Nat val t from by have := ltN hA.lt; have := g; omega)
    refine Go.callS 31 rfl (C := B39) [.ref val, .int (0 : Int32), .ref t, .int (0 : Int32), .int (2 : Int32)] (rest := []) 255 221 184 222 (c39n2 Z hw h106 val t (0 : Int32) us (zer 32) 0 rfl (by decide) (32 : Int32) (16 : Int32) rfl (by decide) (by decide) (by omega) hfm (by decide) (by decide) hAs hHi hLo F111 At z108 ne112) d47_28 rfl rfl rfl rfl (by decide) pd39 rfl rfl rfl (W := 0) (lb rfl) (by decide) (by decide) (by decide) (by decide) fun v113 h114 q115 => ?_
    obtain ⟨rfl, Ki, Ai⟩ := q115
    refine Go.aloadN 32 rfl d47_31 rfl rfl ?_
    refine Go.aloadN 33 rfl d47_32 rfl rfl ?_
    have ne116 : sb ≠ t := (show @Ne Nat sb t from by have := ltN hE.lt; have := g; omega)
    have F117 : YBv Z h114 sb (.ref val) := (F109.keep Ki (ninS ne116 nin0))
    have F118 : YEb Z h114 sb := ((hE.keep K).keep Ki)
    refine Go.putF 36 rfl (v' := .ref t) (ty := (.array .byte)) 54 55 41 d47_33 rfl F117 F118 (Or.inl rfl) rfl (by decide) rfl rfl hge fun h119 K120 W121 F122 => ?_
    refine Go.aloadN 37 rfl d47_36 rfl rfl ?_
    refine Go.iconst 38 rfl (1 : Int32) d47_37 rfl ?_
    have F123 : YBc Z h119 sb (.int (0 : Int32)) := (Fld.oth hw ((hC.keep K nin0).keep Ki (ninS ne116 nin0)) W121 57 55 (Or.inl rfl) (Or.inl rfl) (by decide) rfl rfl)
    have F124 : YEb Z h119 sb := (F118.keep K120)
    refine Go.putF 41 rfl (v' := .int (1 : Int32)) (ty := .byte) 56 57 41 d47_38 rfl F123 F124 (Or.inl rfl) rfl (by decide) rfl rfl hge fun h125 K126 W127 F128 => ?_
    have kc129 : Keep h0 h125 [sb] := (((((Keep.refl h0 [sb]).trans K all0).trans Ki (allS (Or.inr g) all0)).trans K120 (by simp)).trans K126 (by simp))
    have F130 : YBv Z h125 sb (.ref t) := (Fld.oth hw F122 W127 55 57 (Or.inl rfl) (Or.inl rfl) (by decide) rfl rfl)
    have F131 : YBn Z h125 sb (.int (2 : Int32)) := (Fld.oth hw (Fld.oth hw (F110.keep Ki (ninS ne116 nin0)) W121 99 55 (Or.inl rfl) (Or.inl rfl) (by decide) rfl rfl) W127 99 57 (Or.inl rfl) (Or.inl rfl) (by decide) rfl rfl)
    have F132 : YBm Z h125 sb (.int (0 : Int32)) := (Fld.oth hw (Fld.oth hw ((hY.keep K nin0).keep Ki (ninS ne116 nin0)) W121 258 55 (Or.inl rfl) (Or.inl rfl) (by decide) rfl rfl) W127 258 57 (Or.inl rfl) (Or.inl rfl) (by decide) rfl rfl)
    have F133 : Ary Z h125 t .byte (IL (put (put (zer 32) (0 + 0) (us.getD 0 0 &&& (255 : Int32))) (0 + 1) (us.getD 1 0 &&& (255 : Int32)))) := ((Ai.keep K120 (ninS (Ne.symm ne116) nin0)).keep K126 (ninS (Ne.symm ne116) nin0))
    exact Go.retV d47_41 rfl (by decide) (by decide) ⟨rfl, t, (by skip; have := g; omega), kc129, F130, F128, F131, F132, F133⟩
  · exact absurd b104 (show ¬ (1 : Int32) = 0 from (by decide))
def Q47n1 (Z : State) (sb : Addr) (us : List Int32) (h0 : Heap) (v : Option Value) (h : Heap) : Prop := v = none ∧ ∃ t, h0.size ≤ t ∧ Keep h0 h [sb] ∧ YBv Z h sb (.ref t) ∧ YBc Z h sb (.int 1) ∧ YBn Z h sb (.int 1) ∧ YBm Z h sb (.int 0) ∧ Ary Z h t .byte (IL (put (zer 32) (0 + 0) (us.getD 0 0 &&& (255 : Int32))))
theorem c47n1 (Z : State) (hw : Wd Z tables_1) (h0 : Heap) (sb : Addr) (us : List Int32) (cs : Int32) (hS : YCs Z cs) (hcs : ¬ cs = 0) (hAs : YAs Z) (hHi : YHi Z) (hLo : YLo Z) (hfm : YFm Z) (val : Addr) (hul : us.length = 16) (hge : Z.heap.size ≤ sb) (hE : YEb Z h0 sb) (hV : YBv Z h0 sb (.ref val)) (hC : YBc Z h0 sb (.int 0)) (hN : YBn Z h0 sb (.int 1)) (hY : YBm Z h0 sb (.int 0)) (hA : Ary Z h0 val .byte (IL us)) (hgv : Z.heap.size ≤ val) : Con Z B47 (List.toArray [.ref sb]) h0 (Q47n1 Z sb us h0) := by
  refine Con.mk (Ls := #[.val (.ref sb), .unset]) hw pn47 (fun mid => by first | (simp [entryFrame, mkF, argsToLocals, Value.category, Jvm.Ow.Bd.ml, B47]; done) | rfl) (Go.old fun hle' => ?_)
  have hle := hle'.1
  have hvs : val ≠ sb := own_na hw 41 rfl hE hA
  refine Go.aloadN 1 rfl d47_0 rfl rfl ?_
  refine Go.callV 4 rfl (C := B25) sb [] (rest := []) 253 152 154 153 50 155 (c25k0 Z hw h0 sb cs hS hcs hC) hE d47_1 rfl rfl rfl rfl rfl rfl (by decide) pd25 rfl rfl rfl (W := 0) (lb rfl) (by decide) (by decide) (by decide) (by decide) fun v101 h102 q103 => ?_
  obtain ⟨rfl, rfl⟩ := q103
  refine Go.if_ne 8 7 d47_4 (by decide) rfl rfl (fun (b104 : ¬ (1 : Int32) = 0) => ?_) (fun (b104 : (1 : Int32) = 0) => ?_)
  · refine Go.aloadN 9 rfl d47_8 rfl rfl ?_
    refine Go.getF 12 rfl (v := .ref val) 54 d47_9 rfl hV ?_
    refine Go.alen 13 rfl (16 : Int32) d47_12 hA (by rw [IL.len, hul]; rfl) ?_
    refine Go.callS 16 rfl (C := B37) [.int (16 : Int32)] (rest := []) 254 213 214 215 (c37n16 Z hw h0) d47_13 rfl rfl rfl rfl (by decide) pd37 rfl rfl rfl (W := 0) (lb rfl) (by decide) (by decide) (by decide) (by decide) fun v105 h106 q107 => ?_
    obtain ⟨t, rfl, g, K, At⟩ := q107
    have z108 : Z.heap.size ≤ t := Nat.le_trans hle g
    refine Go.astoreN 17 rfl d47_16 rfl (Ls' := #[.val (.ref sb), .val (.ref t)]) rfl ?_
    refine Go.aloadN 18 rfl d47_17 rfl rfl ?_
    have F109 : YBv Z h106 sb (.ref val) := (hV.keep K nin0)
    refine Go.getF 21 rfl (v := .ref val) 54 d47_18 rfl F109 ?_
    refine Go.iconst 22 rfl (0 : Int32) d47_21 rfl ?_
    refine Go.aloadN 23 rfl d47_22 rfl rfl ?_
    refine Go.iconst 24 rfl (0 : Int32) d47_23 rfl ?_
    refine Go.aloadN 25 rfl d47_24 rfl rfl ?_
    have F110 : YBn Z h106 sb (.int (1 : Int32)) := (hN.keep K nin0)
    refine Go.getF 28 rfl (v := .int (1 : Int32)) 98 d47_25 rfl F110 ?_
    have F111 : Ary Z h106 val .byte (IL us) := (hA.keep K nin0)
    have ne112 : val ≠ t := (show @Ne Nat val t from by have := ltN hA.lt; have := g; omega)
    refine Go.callS 31 rfl (C := B39) [.ref val, .int (0 : Int32), .ref t, .int (0 : Int32), .int (1 : Int32)] (rest := []) 255 221 184 222 (c39n1 Z hw h106 val t (0 : Int32) us (zer 32) 0 rfl (by decide) (32 : Int32) (16 : Int32) rfl (by decide) (by decide) (by omega) hfm (by decide) (by decide) hAs hHi hLo F111 At z108 ne112) d47_28 rfl rfl rfl rfl (by decide) pd39 rfl rfl rfl (W := 0) (lb rfl) (by decide) (by decide) (by decide) (by decide) fun v113 h114 q115 => ?_
    obtain ⟨rfl, Ki, Ai⟩ := q115
    refine Go.aloadN 32 rfl d47_31 rfl rfl ?_
    refine Go.aloadN 33 rfl d47_32 rfl rfl ?_
    have ne116 : sb ≠ t := (show @Ne Nat sb t from by have := ltN hE.lt; have := g; omega)
    have F117 : YBv Z h114 sb (.ref val) := (F109.keep Ki (ninS ne116 nin0))
    have F118 : YEb Z h114 sb := ((hE.keep K).keep Ki)
    refine Go.putF 36 rfl (v' := .ref t) (ty := (.array .byte)) 54 55 41 d47_33 rfl F117 F118 (Or.inl rfl) rfl (by decide) rfl rfl hge fun h119 K120 W121 F122 => ?_
    refine Go.aloadN 37 rfl d47_36 rfl rfl ?_
    refine Go.iconst 38 rfl (1 : Int32) d47_37 rfl ?_
    have F123 : YBc Z h119 sb (.int (0 : Int32)) := (Fld.oth hw ((hC.keep K nin0).keep Ki (ninS ne116 nin0)) W121 57 55 (Or.inl rfl) (Or.inl rfl) (by decide) rfl rfl)
    have F124 : YEb Z h119 sb := (F118.keep K120)
    refine Go.putF 41 rfl (v' := .int (1 : Int32)) (ty := .byte) 56 57 41 d47_38 rfl F123 F124 (Or.inl rfl) rfl (by decide) rfl rfl hge fun h125 K126 W127 F128 => ?_
    have kc129 : Keep h0 h125 [sb] := (((((Keep.refl h0 [sb]).trans K all0).trans Ki (allS (Or.inr g) all0)).trans K120 (by simp)).trans K126 (by simp))
    have F130 : YBv Z h125 sb (.ref t) := (Fld.oth hw F122 W127 55 57 (Or.inl rfl) (Or.inl rfl) (by decide) rfl rfl)
    have F131 : YBn Z h125 sb (.int (1 : Int32)) := (Fld.oth hw (Fld.oth hw (F110.keep Ki (ninS ne116 nin0)) W121 99 55 (Or.inl rfl) (Or.inl rfl) (by decide) rfl rfl) W127 99 57 (Or.inl rfl) (Or.inl rfl) (by decide) rfl rfl)
    have F132 : YBm Z h125 sb (.int (0 : Int32)) := (Fld.oth hw (Fld.oth hw ((hY.keep K nin0).keep Ki (ninS ne116 nin0)) W121 258 55 (Or.inl rfl) (Or.inl rfl) (by decide) rfl rfl) W127 258 57 (Or.inl rfl) (Or.inl rfl) (by decide) rfl rfl)
    have F133 : Ary Z h125 t .byte (IL (put (zer 32) (0 + 0) (us.getD 0 0 &&& (255 : Int32)))) := ((Ai.keep K120 (ninS (Ne.symm ne116) nin0)).keep K126 (ninS (Ne.symm ne116) nin0))
    exact Go.retV d47_41 rfl (by decide) (by decide) ⟨rfl, t, (by skip; have := g; omega), kc129, F130, F128, F131, F132, F133⟩
  · exact absurd b104 (show ¬ (1 : Int32) = 0 from (by decide))
def Q47n0 (Z : State) (sb : Addr) (us : List Int32) (h0 : Heap) (v : Option Value) (h : Heap) : Prop := v = none ∧ ∃ t, h0.size ≤ t ∧ Keep h0 h [sb] ∧ YBv Z h sb (.ref t) ∧ YBc Z h sb (.int 1) ∧ YBn Z h sb (.int 0) ∧ YBm Z h sb (.int 0) ∧ Ary Z h t .byte (IL (zer 32))
theorem c47n0 (Z : State) (hw : Wd Z tables_1) (h0 : Heap) (sb : Addr) (us : List Int32) (cs : Int32) (hS : YCs Z cs) (hcs : ¬ cs = 0) (hAs : YAs Z) (hHi : YHi Z) (hLo : YLo Z) (hfm : YFm Z) (val : Addr) (hul : us.length = 16) (hge : Z.heap.size ≤ sb) (hE : YEb Z h0 sb) (hV : YBv Z h0 sb (.ref val)) (hC : YBc Z h0 sb (.int 0)) (hN : YBn Z h0 sb (.int 0)) (hY : YBm Z h0 sb (.int 0)) (hA : Ary Z h0 val .byte (IL us)) (hgv : Z.heap.size ≤ val) : Con Z B47 (List.toArray [.ref sb]) h0 (Q47n0 Z sb us h0) := by
  refine Con.mk (Ls := #[.val (.ref sb), .unset]) hw pn47 (fun mid => by first | (simp [entryFrame, mkF, argsToLocals, Value.category, Jvm.Ow.Bd.ml, B47]; done) | rfl) (Go.old fun hle' => ?_)
  have hle := hle'.1
  have hvs : val ≠ sb := own_na hw 41 rfl hE hA
  refine Go.aloadN 1 rfl d47_0 rfl rfl ?_
  refine Go.callV 4 rfl (C := B25) sb [] (rest := []) 253 152 154 153 50 155 (c25k0 Z hw h0 sb cs hS hcs hC) hE d47_1 rfl rfl rfl rfl rfl rfl (by decide) pd25 rfl rfl rfl (W := 0) (lb rfl) (by decide) (by decide) (by decide) (by decide) fun v101 h102 q103 => ?_
  obtain ⟨rfl, rfl⟩ := q103
  refine Go.if_ne 8 7 d47_4 (by decide) rfl rfl (fun (b104 : ¬ (1 : Int32) = 0) => ?_) (fun (b104 : (1 : Int32) = 0) => ?_)
  · refine Go.aloadN 9 rfl d47_8 rfl rfl ?_
    refine Go.getF 12 rfl (v := .ref val) 54 d47_9 rfl hV ?_
    refine Go.alen 13 rfl (16 : Int32) d47_12 hA (by rw [IL.len, hul]; rfl) ?_
    refine Go.callS 16 rfl (C := B37) [.int (16 : Int32)] (rest := []) 254 213 214 215 (c37n16 Z hw h0) d47_13 rfl rfl rfl rfl (by decide) pd37 rfl rfl rfl (W := 0) (lb rfl) (by decide) (by decide) (by decide) (by decide) fun v105 h106 q107 => ?_
    obtain ⟨t, rfl, g, K, At⟩ := q107
    have z108 : Z.heap.size ≤ t := Nat.le_trans hle g
    refine Go.astoreN 17 rfl d47_16 rfl (Ls' := #[.val (.ref sb), .val (.ref t)]) rfl ?_
    refine Go.aloadN 18 rfl d47_17 rfl rfl ?_
    have F109 : YBv Z h106 sb (.ref val) := (hV.keep K nin0)
    refine Go.getF 21 rfl (v := .ref val) 54 d47_18 rfl F109 ?_
    refine Go.iconst 22 rfl (0 : Int32) d47_21 rfl ?_
    refine Go.aloadN 23 rfl d47_22 rfl rfl ?_
    refine Go.iconst 24 rfl (0 : Int32) d47_23 rfl ?_
    refine Go.aloadN 25 rfl d47_24 rfl rfl ?_
    have F110 : YBn Z h106 sb (.int (0 : Int32)) := (hN.keep K nin0)
    refine Go.getF 28 rfl (v := .int (0 : Int32)) 98 d47_25 rfl F110 ?_
    have F111 : Ary Z h106 val .byte (IL us) := (hA.keep K nin0)
    have ne112 : val ≠ t := (show @Ne Nat val t from by have := ltN hA.lt; have := g; omega)
    refine Go.callS 31 rfl (C := B39) [.ref val, .int (0 : Int32), .ref t, .int (0 : Int32), .int (0 : Int32)] (rest := []) 255 221 184 222 (c39n0 Z hw h106 val t (0 : Int32) us (zer 32) 0 rfl (by decide) (32 : Int32) (16 : Int32) rfl (by decide) (by decide) (by omega) hfm (by decide) (by decide) hAs hHi hLo F111 At z108 ne112) d47_28 rfl rfl rfl rfl (by decide) pd39 rfl rfl rfl (W := 0) (lb rfl) (by decide) (by decide) (by decide) (by decide) fun v113 h114 q115 => ?_
    obtain ⟨rfl, Ki, Ai⟩ := q115
    refine Go.aloadN 32 rfl d47_31 rfl rfl ?_
    refine Go.aloadN 33 rfl d47_32 rfl rfl ?_
    have ne116 : sb ≠ t := (show @Ne Nat sb t from by have := ltN hE.lt; have := g; omega)
    have F117 : YBv Z h114 sb (.ref val) := (F109.keep Ki (ninS ne116 nin0))
    have F118 : YEb Z h114 sb := ((hE.keep K).keep Ki)
    refine Go.putF 36 rfl (v' := .ref t) (ty := (.array .byte)) 54 55 41 d47_33 rfl F117 F118 (Or.inl rfl) rfl (by decide) rfl rfl hge fun h119 K120 W121 F122 => ?_
    refine Go.aloadN 37 rfl d47_36 rfl rfl ?_
    refine Go.iconst 38 rfl (1 : Int32) d47_37 rfl ?_
    have F123 : YBc Z h119 sb (.int (0 : Int32)) := (Fld.oth hw ((hC.keep K nin0).keep Ki (ninS ne116 nin0)) W121 57 55 (Or.inl rfl) (Or.inl rfl) (by decide) rfl rfl)
    have F124 : YEb Z h119 sb := (F118.keep K120)
    refine Go.putF 41 rfl (v' := .int (1 : Int32)) (ty := .byte) 56 57 41 d47_38 rfl F123 F124 (Or.inl rfl) rfl (by decide) rfl rfl hge fun h125 K126 W127 F128 => ?_
    have kc129 : Keep h0 h125 [sb] := (((((Keep.refl h0 [sb]).trans K all0).trans Ki (allS (Or.inr g) all0)).trans K120 (by simp)).trans K126 (by simp))
    have F130 : YBv Z h125 sb (.ref t) := (Fld.oth hw F122 W127 55 57 (Or.inl rfl) (Or.inl rfl) (by decide) rfl rfl)
    have F131 : YBn Z h125 sb (.int (0 : Int32)) := (Fld.oth hw (Fld.oth hw (F110.keep Ki (ninS ne116 nin0)) W121 99 55 (Or.inl rfl) (Or.inl rfl) (by decide) rfl rfl) W127 99 57 (Or.inl rfl) (Or.inl rfl) (by decide) rfl rfl)
    have F132 : YBm Z h125 sb (.int (0 : Int32)) := (Fld.oth hw (Fld.oth hw ((hY.keep K nin0).keep Ki (ninS ne116 nin0)) W121 258 55 (Or.inl rfl) (Or.inl rfl) (by decide) rfl rfl) W127 258 57 (Or.inl rfl) (Or.inl rfl) (by decide) rfl rfl)
    have F133 : Ary Z h125 t .byte (IL (zer 32)) := ((Ai.keep K120 (ninS (Ne.symm ne116) nin0)).keep K126 (ninS (Ne.symm ne116) nin0))
    exact Go.retV d47_41 rfl (by decide) (by decide) ⟨rfl, t, (by skip; have := g; omega), kc129, F130, F128, F131, F132, F133⟩
  · exact absurd b104 (show ¬ (1 : Int32) = 0 from (by decide))
def Q47u (h0 : Heap) (v : Option Value) (h : Heap) : Prop := v = none ∧ h0 = h
theorem c47u (Z : State) (hw : Wd Z tables_1) (h0 : Heap) (sb : Addr)  (cs : Int32) (hS : YCs Z cs) (hcs : ¬ cs = 0) (hE : YEb Z h0 sb) (hC : YBc Z h0 sb (.int 1)) : Con Z B47 (List.toArray [.ref sb]) h0 (Q47u h0) := by
  refine Con.mk (Ls := #[.val (.ref sb), .unset]) hw pn47 (fun mid => by first | (simp [entryFrame, mkF, argsToLocals, Value.category, Jvm.Ow.Bd.ml, B47]; done) | rfl) (Go.old fun hle' => ?_)
  have hle := hle'.1
  refine Go.aloadN 1 rfl d47_0 rfl rfl ?_
  refine Go.callV 4 rfl (C := B25) sb [] (rest := []) 253 152 154 153 50 155 (c25k1 Z hw h0 sb cs hS hcs hC) hE d47_1 rfl rfl rfl rfl rfl rfl (by decide) pd25 rfl rfl rfl (W := 0) (lb rfl) (by decide) (by decide) (by decide) (by decide) fun v101 h102 q103 => ?_
  obtain ⟨rfl, rfl⟩ := q103
  refine Go.if_ne 8 7 d47_4 (by decide) rfl rfl (fun (b104 : ¬ (0 : Int32) = 0) => ?_) (fun (b104 : (0 : Int32) = 0) => ?_)
  · exact absurd (show (0 : Int32) = 0 from (by decide)) b104
  · exact Go.retV d47_7 rfl (by decide) (by decide) ⟨rfl, rfl⟩
theorem d17_0 : decode jdk_68_method_71_code 0 = .ok (.getstatic 18, 3) := by decide +kernel
theorem d17_3 : decode jdk_68_method_71_code 3 = .ok (.ifCond .eq 18, 3) := by decide +kernel
theorem d17_6 : decode jdk_68_method_71_code 6 = .ok (.aload_n 0, 1) := by decide +kernel
theorem d17_7 : decode jdk_68_method_71_code 7 = .ok (.getfield 22, 3) := by decide +kernel
theorem d17_10 : decode jdk_68_method_71_code 10 = .ok (.aload_n 1, 1) := by decide +kernel
theorem d17_11 : decode jdk_68_method_71_code 11 = .ok (.invokevirtual 40, 3) := by decide +kernel
theorem d17_14 : decode jdk_68_method_71_code 14 = .ok (.if_icmp .eq 7, 3) := by decide +kernel
theorem d17_17 : decode jdk_68_method_71_code 17 = .ok (.aload_n 0, 1) := by decide +kernel
theorem d17_18 : decode jdk_68_method_71_code 18 = .ok (.invokevirtual 195, 3) := by decide +kernel
theorem d17_21 : decode jdk_68_method_71_code 21 = .ok (.return_, 1) := by decide +kernel
theorem pd17 : parseMethodDescriptor "(Ljava/lang/String;)V" = some ⟨[(.object "java/lang/String")], none⟩ := by decide +kernel
theorem pn17 : plainFor (⟨"java/lang/AbstractStringBuilder", "inflateIfNeededFor", "(Ljava/lang/String;)V"⟩ : MethodName) = true := by first | (refine plainFor_of_name ?_; simp [plainName, overriddenIn]; done) | (refine plainFor_of_name ?_; decide +kernel) | decide +kernel
abbrev B17 : Bd := ((⟨"java/lang/AbstractStringBuilder", "inflateIfNeededFor", "(Ljava/lang/String;)V"⟩ : MethodName), jdk_68_method_71_code, 2, none, ({ frames := 6, cells := 1, slots := 32, locals := 89 } : Room), tables_1)
def Q17n3 (Z : State) (sb : Addr) (us : List Int32) (h0 : Heap) (v : Option Value) (h : Heap) : Prop := v = none ∧ ∃ t, h0.size ≤ t ∧ Keep h0 h [sb] ∧ YBv Z h sb (.ref t) ∧ YBc Z h sb (.int 1) ∧ YBn Z h sb (.int 3) ∧ YBm Z h sb (.int 0) ∧ Ary Z h t .byte (IL (put (put (put (zer 32) (0 + 0) (us.getD 0 0 &&& (255 : Int32))) (0 + 1) (us.getD 1 0 &&& (255 : Int32))) (0 + 2) (us.getD 2 0 &&& (255 : Int32))))
theorem c17n3 (Z : State) (hw : Wd Z tables_1) (h0 : Heap) (sb : Addr) (a : Addr) (us : List Int32) (cs : Int32) (hS : YCs Z cs) (hcs : ¬ cs = 0) (hAs : YAs Z) (hHi : YHi Z) (hLo : YLo Z) (hfm : YFm Z) (val : Addr) (hul : us.length = 16) (hge : Z.heap.size ≤ sb) (hE : YEb Z h0 sb) (hV : YBv Z h0 sb (.ref val)) (hC : YBc Z h0 sb (.int 0)) (hN : YBn Z h0 sb (.int 3)) (hY : YBm Z h0 sb (.int 0)) (hA : Ary Z h0 val .byte (IL us)) (hgv : Z.heap.size ≤ val) (iE : YEs Z h0 a) (iC : YSc Z h0 a (.int 1)) : Con Z B17 (List.toArray [.ref sb, .ref a]) h0 (Q17n3 Z sb us h0) := by
  refine Con.mk (Ls := #[.val (.ref sb), .val (.ref a)]) hw pn17 (fun mid => by first | (simp [entryFrame, mkF, argsToLocals, Value.category, Jvm.Ow.Bd.ml, B17]; done) | rfl) (Go.old fun hle' => ?_)
  have hle := hle'.1
  refine Go.getS 3 rfl (v := .int cs) 53 d17_0 rfl hS ?_
  refine Go.if_eq 21 6 d17_3 (by decide) rfl rfl (fun (b101 : cs = 0) => ?_) (fun (b101 : ¬ cs = 0) => ?_)
  · exact absurd b101 (show ¬ cs = 0 from hcs)
  · refine Go.aloadN 7 rfl d17_6 rfl rfl ?_
    refine Go.getF 10 rfl (v := .int (0 : Int32)) 56 d17_7 rfl hC ?_
    refine Go.aloadN 11 rfl d17_10 rfl rfl ?_
    refine Go.callV 14 rfl (C := B14) a [] (rest := [.int (0 : Int32)]) 115 93 95 94 20 96 (c14k1 Z hw h0 a cs hS hcs iC) iE d17_11 rfl rfl rfl rfl rfl rfl (by decide) pd14 rfl rfl rfl (W := 1) (lb rfl) (by decide) (by decide) (by decide) (by decide) fun v102 h103 q104 => ?_
    obtain ⟨rfl, rfl⟩ := q104
    refine Go.icmp_eq 21 17 d17_14 (by decide) rfl rfl (fun (b105 : (0 : Int32) = (1 : Int32)) => ?_) (fun (b105 : ¬ (0 : Int32) = (1 : Int32)) => ?_)
    · exact absurd b105 (show ¬ (0 : Int32) = (1 : Int32) from (by decide))
    · refine Go.aloadN 18 rfl d17_17 rfl rfl ?_
      refine Go.callP3 21 rfl (C := B47) sb [] (rest := []) 248 249 251 250 50 252 (c47n3 Z hw h0 sb us cs hS hcs hAs hHi hLo hfm val hul hge hE hV hC hN hY hA hgv) hE d17_18 rfl rfl rfl rfl rfl rfl (by decide) pd47 rfl rfl rfl (W := 0) (lb rfl) (by decide) (by decide) (by decide) (by decide) fun v106 h107 q108 => ?_
      obtain ⟨rfl, t, g, K, R⟩ := q108
      exact Go.retV d17_21 rfl (by decide) (by decide) ⟨rfl, t, g, K, R⟩
def Q17n2 (Z : State) (sb : Addr) (us : List Int32) (h0 : Heap) (v : Option Value) (h : Heap) : Prop := v = none ∧ ∃ t, h0.size ≤ t ∧ Keep h0 h [sb] ∧ YBv Z h sb (.ref t) ∧ YBc Z h sb (.int 1) ∧ YBn Z h sb (.int 2) ∧ YBm Z h sb (.int 0) ∧ Ary Z h t .byte (IL (put (put (zer 32) (0 + 0) (us.getD 0 0 &&& (255 : Int32))) (0 + 1) (us.getD 1 0 &&& (255 : Int32))))
theorem c17n2 (Z : State) (hw : Wd Z tables_1) (h0 : Heap) (sb : Addr) (a : Addr) (us : List Int32) (cs : Int32) (hS : YCs Z cs) (hcs : ¬ cs = 0) (hAs : YAs Z) (hHi : YHi Z) (hLo : YLo Z) (hfm : YFm Z) (val : Addr) (hul : us.length = 16) (hge : Z.heap.size ≤ sb) (hE : YEb Z h0 sb) (hV : YBv Z h0 sb (.ref val)) (hC : YBc Z h0 sb (.int 0)) (hN : YBn Z h0 sb (.int 2)) (hY : YBm Z h0 sb (.int 0)) (hA : Ary Z h0 val .byte (IL us)) (hgv : Z.heap.size ≤ val) (iE : YEs Z h0 a) (iC : YSc Z h0 a (.int 1)) : Con Z B17 (List.toArray [.ref sb, .ref a]) h0 (Q17n2 Z sb us h0) := by
  refine Con.mk (Ls := #[.val (.ref sb), .val (.ref a)]) hw pn17 (fun mid => by first | (simp [entryFrame, mkF, argsToLocals, Value.category, Jvm.Ow.Bd.ml, B17]; done) | rfl) (Go.old fun hle' => ?_)
  have hle := hle'.1
  refine Go.getS 3 rfl (v := .int cs) 53 d17_0 rfl hS ?_
  refine Go.if_eq 21 6 d17_3 (by decide) rfl rfl (fun (b101 : cs = 0) => ?_) (fun (b101 : ¬ cs = 0) => ?_)
  · exact absurd b101 (show ¬ cs = 0 from hcs)
  · refine Go.aloadN 7 rfl d17_6 rfl rfl ?_
    refine Go.getF 10 rfl (v := .int (0 : Int32)) 56 d17_7 rfl hC ?_
    refine Go.aloadN 11 rfl d17_10 rfl rfl ?_
    refine Go.callV 14 rfl (C := B14) a [] (rest := [.int (0 : Int32)]) 115 93 95 94 20 96 (c14k1 Z hw h0 a cs hS hcs iC) iE d17_11 rfl rfl rfl rfl rfl rfl (by decide) pd14 rfl rfl rfl (W := 1) (lb rfl) (by decide) (by decide) (by decide) (by decide) fun v102 h103 q104 => ?_
    obtain ⟨rfl, rfl⟩ := q104
    refine Go.icmp_eq 21 17 d17_14 (by decide) rfl rfl (fun (b105 : (0 : Int32) = (1 : Int32)) => ?_) (fun (b105 : ¬ (0 : Int32) = (1 : Int32)) => ?_)
    · exact absurd b105 (show ¬ (0 : Int32) = (1 : Int32) from (by decide))
    · refine Go.aloadN 18 rfl d17_17 rfl rfl ?_
      refine Go.callP3 21 rfl (C := B47) sb [] (rest := []) 248 249 251 250 50 252 (c47n2 Z hw h0 sb us cs hS hcs hAs hHi hLo hfm val hul hge hE hV hC hN hY hA hgv) hE d17_18 rfl rfl rfl rfl rfl rfl (by decide) pd47 rfl rfl rfl (W := 0) (lb rfl) (by decide) (by decide) (by decide) (by decide) fun v106 h107 q108 => ?_
      obtain ⟨rfl, t, g, K, R⟩ := q108
      exact Go.retV d17_21 rfl (by decide) (by decide) ⟨rfl, t, g, K, R⟩
def Q17n1 (Z : State) (sb : Addr) (us : List Int32) (h0 : Heap) (v : Option Value) (h : Heap) : Prop := v = none ∧ ∃ t, h0.size ≤ t ∧ Keep h0 h [sb] ∧ YBv Z h sb (.ref t) ∧ YBc Z h sb (.int 1) ∧ YBn Z h sb (.int 1) ∧ YBm Z h sb (.int 0) ∧ Ary Z h t .byte (IL (put (zer 32) (0 + 0) (us.getD 0 0 &&& (255 : Int32))))
theorem c17n1 (Z : State) (hw : Wd Z tables_1) (h0 : Heap) (sb : Addr) (a : Addr) (us : List Int32) (cs : Int32) (hS : YCs Z cs) (hcs : ¬ cs = 0) (hAs : YAs Z) (hHi : YHi Z) (hLo : YLo Z) (hfm : YFm Z) (val : Addr) (hul : us.length = 16) (hge : Z.heap.size ≤ sb) (hE : YEb Z h0 sb) (hV : YBv Z h0 sb (.ref val)) (hC : YBc Z h0 sb (.int 0)) (hN : YBn Z h0 sb (.int 1)) (hY : YBm Z h0 sb (.int 0)) (hA : Ary Z h0 val .byte (IL us)) (hgv : Z.heap.size ≤ val) (iE : YEs Z h0 a) (iC : YSc Z h0 a (.int 1)) : Con Z B17 (List.toArray [.ref sb, .ref a]) h0 (Q17n1 Z sb us h0) := by
  refine Con.mk (Ls := #[.val (.ref sb), .val (.ref a)]) hw pn17 (fun mid => by first | (simp [entryFrame, mkF, argsToLocals, Value.category, Jvm.Ow.Bd.ml, B17]; done) | rfl) (Go.old fun hle' => ?_)
  have hle := hle'.1
  refine Go.getS 3 rfl (v := .int cs) 53 d17_0 rfl hS ?_
  refine Go.if_eq 21 6 d17_3 (by decide) rfl rfl (fun (b101 : cs = 0) => ?_) (fun (b101 : ¬ cs = 0) => ?_)
  · exact absurd b101 (show ¬ cs = 0 from hcs)
  · refine Go.aloadN 7 rfl d17_6 rfl rfl ?_
    refine Go.getF 10 rfl (v := .int (0 : Int32)) 56 d17_7 rfl hC ?_
    refine Go.aloadN 11 rfl d17_10 rfl rfl ?_
    refine Go.callV 14 rfl (C := B14) a [] (rest := [.int (0 : Int32)]) 115 93 95 94 20 96 (c14k1 Z hw h0 a cs hS hcs iC) iE d17_11 rfl rfl rfl rfl rfl rfl (by decide) pd14 rfl rfl rfl (W := 1) (lb rfl) (by decide) (by decide) (by decide) (by decide) fun v102 h103 q104 => ?_
    obtain ⟨rfl, rfl⟩ := q104
    refine Go.icmp_eq 21 17 d17_14 (by decide) rfl rfl (fun (b105 : (0 : Int32) = (1 : Int32)) => ?_) (fun (b105 : ¬ (0 : Int32) = (1 : Int32)) => ?_)
    · exact absurd b105 (show ¬ (0 : Int32) = (1 : Int32) from (by decide))
    · refine Go.aloadN 18 rfl d17_17 rfl rfl ?_
      refine Go.callP3 21 rfl (C := B47) sb [] (rest := []) 248 249 251 250 50 252 (c47n1 Z hw h0 sb us cs hS hcs hAs hHi hLo hfm val hul hge hE hV hC hN hY hA hgv) hE d17_18 rfl rfl rfl rfl rfl rfl (by decide) pd47 rfl rfl rfl (W := 0) (lb rfl) (by decide) (by decide) (by decide) (by decide) fun v106 h107 q108 => ?_
      obtain ⟨rfl, t, g, K, R⟩ := q108
      exact Go.retV d17_21 rfl (by decide) (by decide) ⟨rfl, t, g, K, R⟩
def Q17n0 (Z : State) (sb : Addr) (us : List Int32) (h0 : Heap) (v : Option Value) (h : Heap) : Prop := v = none ∧ ∃ t, h0.size ≤ t ∧ Keep h0 h [sb] ∧ YBv Z h sb (.ref t) ∧ YBc Z h sb (.int 1) ∧ YBn Z h sb (.int 0) ∧ YBm Z h sb (.int 0) ∧ Ary Z h t .byte (IL (zer 32))
theorem c17n0 (Z : State) (hw : Wd Z tables_1) (h0 : Heap) (sb : Addr) (a : Addr) (us : List Int32) (cs : Int32) (hS : YCs Z cs) (hcs : ¬ cs = 0) (hAs : YAs Z) (hHi : YHi Z) (hLo : YLo Z) (hfm : YFm Z) (val : Addr) (hul : us.length = 16) (hge : Z.heap.size ≤ sb) (hE : YEb Z h0 sb) (hV : YBv Z h0 sb (.ref val)) (hC : YBc Z h0 sb (.int 0)) (hN : YBn Z h0 sb (.int 0)) (hY : YBm Z h0 sb (.int 0)) (hA : Ary Z h0 val .byte (IL us)) (hgv : Z.heap.size ≤ val) (iE : YEs Z h0 a) (iC : YSc Z h0 a (.int 1)) : Con Z B17 (List.toArray [.ref sb, .ref a]) h0 (Q17n0 Z sb us h0) := by
  refine Con.mk (Ls := #[.val (.ref sb), .val (.ref a)]) hw pn17 (fun mid => by first | (simp [entryFrame, mkF, argsToLocals, Value.category, Jvm.Ow.Bd.ml, B17]; done) | rfl) (Go.old fun hle' => ?_)
  have hle := hle'.1
  refine Go.getS 3 rfl (v := .int cs) 53 d17_0 rfl hS ?_
  refine Go.if_eq 21 6 d17_3 (by decide) rfl rfl (fun (b101 : cs = 0) => ?_) (fun (b101 : ¬ cs = 0) => ?_)
  · exact absurd b101 (show ¬ cs = 0 from hcs)
  · refine Go.aloadN 7 rfl d17_6 rfl rfl ?_
    refine Go.getF 10 rfl (v := .int (0 : Int32)) 56 d17_7 rfl hC ?_
    refine Go.aloadN 11 rfl d17_10 rfl rfl ?_
    refine Go.callV 14 rfl (C := B14) a [] (rest := [.int (0 : Int32)]) 115 93 95 94 20 96 (c14k1 Z hw h0 a cs hS hcs iC) iE d17_11 rfl rfl rfl rfl rfl rfl (by decide) pd14 rfl rfl rfl (W := 1) (lb rfl) (by decide) (by decide) (by decide) (by decide) fun v102 h103 q104 => ?_
    obtain ⟨rfl, rfl⟩ := q104
    refine Go.icmp_eq 21 17 d17_14 (by decide) rfl rfl (fun (b105 : (0 : Int32) = (1 : Int32)) => ?_) (fun (b105 : ¬ (0 : Int32) = (1 : Int32)) => ?_)
    · exact absurd b105 (show ¬ (0 : Int32) = (1 : Int32) from (by decide))
    · refine Go.aloadN 18 rfl d17_17 rfl rfl ?_
      refine Go.callP3 21 rfl (C := B47) sb [] (rest := []) 248 249 251 250 50 252 (c47n0 Z hw h0 sb us cs hS hcs hAs hHi hLo hfm val hul hge hE hV hC hN hY hA hgv) hE d17_18 rfl rfl rfl rfl rfl rfl (by decide) pd47 rfl rfl rfl (W := 0) (lb rfl) (by decide) (by decide) (by decide) (by decide) fun v106 h107 q108 => ?_
      obtain ⟨rfl, t, g, K, R⟩ := q108
      exact Go.retV d17_21 rfl (by decide) (by decide) ⟨rfl, t, g, K, R⟩
def Q17q10 (h0 : Heap) (v : Option Value) (h : Heap) : Prop := v = none ∧ h0 = h
theorem c17q10 (Z : State) (hw : Wd Z tables_1) (h0 : Heap) (sb : Addr) (a : Addr)  (cs : Int32) (hS : YCs Z cs) (hcs : ¬ cs = 0) (hE : YEb Z h0 sb) (hC : YBc Z h0 sb (.int 1)) (iE : YEs Z h0 a) (iC : YSc Z h0 a (.int 0)) : Con Z B17 (List.toArray [.ref sb, .ref a]) h0 (Q17q10 h0) := by
  refine Con.mk (Ls := #[.val (.ref sb), .val (.ref a)]) hw pn17 (fun mid => by first | (simp [entryFrame, mkF, argsToLocals, Value.category, Jvm.Ow.Bd.ml, B17]; done) | rfl) (Go.old fun hle' => ?_)
  have hle := hle'.1
  refine Go.getS 3 rfl (v := .int cs) 53 d17_0 rfl hS ?_
  refine Go.if_eq 21 6 d17_3 (by decide) rfl rfl (fun (b101 : cs = 0) => ?_) (fun (b101 : ¬ cs = 0) => ?_)
  · exact absurd b101 (show ¬ cs = 0 from hcs)
  · refine Go.aloadN 7 rfl d17_6 rfl rfl ?_
    refine Go.getF 10 rfl (v := .int (1 : Int32)) 56 d17_7 rfl hC ?_
    refine Go.aloadN 11 rfl d17_10 rfl rfl ?_
    refine Go.callV 14 rfl (C := B14) a [] (rest := [.int (1 : Int32)]) 115 93 95 94 20 96 (c14k0 Z hw h0 a cs hS hcs iC) iE d17_11 rfl rfl rfl rfl rfl rfl (by decide) pd14 rfl rfl rfl (W := 1) (lb rfl) (by decide) (by decide) (by decide) (by decide) fun v102 h103 q104 => ?_
    obtain ⟨rfl, rfl⟩ := q104
    refine Go.icmp_eq 21 17 d17_14 (by decide) rfl rfl (fun (b105 : (1 : Int32) = (0 : Int32)) => ?_) (fun (b105 : ¬ (1 : Int32) = (0 : Int32)) => ?_)
    · exact absurd b105 (show ¬ (1 : Int32) = (0 : Int32) from (by decide))
    · refine Go.aloadN 18 rfl d17_17 rfl rfl ?_
      refine Go.callP3 21 rfl (C := B47) sb [] (rest := []) 248 249 251 250 50 252 (c47u Z hw h0 sb cs hS hcs hE hC) hE d17_18 rfl rfl rfl rfl rfl rfl (by decide) pd47 rfl rfl rfl (W := 0) (lb rfl) (by decide) (by decide) (by decide) (by decide) fun v106 h107 q108 => ?_
      obtain ⟨rfl, rfl⟩ := q108
      exact Go.retV d17_21 rfl (by decide) (by decide) ⟨rfl, rfl⟩
def Q17q11 (h0 : Heap) (v : Option Value) (h : Heap) : Prop := v = none ∧ h0 = h
theorem c17q11 (Z : State) (hw : Wd Z tables_1) (h0 : Heap) (sb : Addr) (a : Addr)  (cs : Int32) (hS : YCs Z cs) (hcs : ¬ cs = 0) (hE : YEb Z h0 sb) (hC : YBc Z h0 sb (.int 1)) (iE : YEs Z h0 a) (iC : YSc Z h0 a (.int 1)) : Con Z B17 (List.toArray [.ref sb, .ref a]) h0 (Q17q11 h0) := by
  refine Con.mk (Ls := #[.val (.ref sb), .val (.ref a)]) hw pn17 (fun mid => by first | (simp [entryFrame, mkF, argsToLocals, Value.category, Jvm.Ow.Bd.ml, B17]; done) | rfl) (Go.old fun hle' => ?_)
  have hle := hle'.1
  refine Go.getS 3 rfl (v := .int cs) 53 d17_0 rfl hS ?_
  refine Go.if_eq 21 6 d17_3 (by decide) rfl rfl (fun (b101 : cs = 0) => ?_) (fun (b101 : ¬ cs = 0) => ?_)
  · exact absurd b101 (show ¬ cs = 0 from hcs)
  · refine Go.aloadN 7 rfl d17_6 rfl rfl ?_
    refine Go.getF 10 rfl (v := .int (1 : Int32)) 56 d17_7 rfl hC ?_
    refine Go.aloadN 11 rfl d17_10 rfl rfl ?_
    refine Go.callV 14 rfl (C := B14) a [] (rest := [.int (1 : Int32)]) 115 93 95 94 20 96 (c14k1 Z hw h0 a cs hS hcs iC) iE d17_11 rfl rfl rfl rfl rfl rfl (by decide) pd14 rfl rfl rfl (W := 1) (lb rfl) (by decide) (by decide) (by decide) (by decide) fun v102 h103 q104 => ?_
    obtain ⟨rfl, rfl⟩ := q104
    refine Go.icmp_eq 21 17 d17_14 (by decide) rfl rfl (fun (b105 : (1 : Int32) = (1 : Int32)) => ?_) (fun (b105 : ¬ (1 : Int32) = (1 : Int32)) => ?_)
    · exact Go.retV d17_21 rfl (by decide) (by decide) ⟨rfl, rfl⟩
    · exact absurd (show (1 : Int32) = (1 : Int32) from (by decide)) b105
def Q17q00 (h0 : Heap) (v : Option Value) (h : Heap) : Prop := v = none ∧ h0 = h
theorem c17q00 (Z : State) (hw : Wd Z tables_1) (h0 : Heap) (sb : Addr) (a : Addr)  (cs : Int32) (hS : YCs Z cs) (hcs : ¬ cs = 0) (hE : YEb Z h0 sb) (hC : YBc Z h0 sb (.int 0)) (iE : YEs Z h0 a) (iC : YSc Z h0 a (.int 0)) : Con Z B17 (List.toArray [.ref sb, .ref a]) h0 (Q17q00 h0) := by
  refine Con.mk (Ls := #[.val (.ref sb), .val (.ref a)]) hw pn17 (fun mid => by first | (simp [entryFrame, mkF, argsToLocals, Value.category, Jvm.Ow.Bd.ml, B17]; done) | rfl) (Go.old fun hle' => ?_)
  have hle := hle'.1
  refine Go.getS 3 rfl (v := .int cs) 53 d17_0 rfl hS ?_
  refine Go.if_eq 21 6 d17_3 (by decide) rfl rfl (fun (b101 : cs = 0) => ?_) (fun (b101 : ¬ cs = 0) => ?_)
  · exact absurd b101 (show ¬ cs = 0 from hcs)
  · refine Go.aloadN 7 rfl d17_6 rfl rfl ?_
    refine Go.getF 10 rfl (v := .int (0 : Int32)) 56 d17_7 rfl hC ?_
    refine Go.aloadN 11 rfl d17_10 rfl rfl ?_
    refine Go.callV 14 rfl (C := B14) a [] (rest := [.int (0 : Int32)]) 115 93 95 94 20 96 (c14k0 Z hw h0 a cs hS hcs iC) iE d17_11 rfl rfl rfl rfl rfl rfl (by decide) pd14 rfl rfl rfl (W := 1) (lb rfl) (by decide) (by decide) (by decide) (by decide) fun v102 h103 q104 => ?_
    obtain ⟨rfl, rfl⟩ := q104
    refine Go.icmp_eq 21 17 d17_14 (by decide) rfl rfl (fun (b105 : (0 : Int32) = (0 : Int32)) => ?_) (fun (b105 : ¬ (0 : Int32) = (0 : Int32)) => ?_)
    · exact Go.retV d17_21 rfl (by decide) (by decide) ⟨rfl, rfl⟩
    · exact absurd (show (0 : Int32) = (0 : Int32) from (by decide)) b105
theorem d18_0 : decode jdk_42_method_147_code 0 = .ok (.aload_n 0, 1) := by decide +kernel
theorem d18_1 : decode jdk_42_method_147_code 1 = .ok (.invokevirtual 335, 3) := by decide +kernel
theorem d18_4 : decode jdk_42_method_147_code 4 = .ok (.iload_n 3, 1) := by decide +kernel
theorem d18_5 : decode jdk_42_method_147_code 5 = .ok (.if_icmp .ne 23, 3) := by decide +kernel
theorem d18_8 : decode jdk_42_method_147_code 8 = .ok (.aload_n 0, 1) := by decide +kernel
theorem d18_9 : decode jdk_42_method_147_code 9 = .ok (.getfield 9, 3) := by decide +kernel
theorem d18_12 : decode jdk_42_method_147_code 12 = .ok (.iconst 0, 1) := by decide +kernel
theorem d18_13 : decode jdk_42_method_147_code 13 = .ok (.aload_n 1, 1) := by decide +kernel
theorem d18_14 : decode jdk_42_method_147_code 14 = .ok (.iload_n 2, 1) := by decide +kernel
theorem d18_15 : decode jdk_42_method_147_code 15 = .ok (.iload_n 3, 1) := by decide +kernel
theorem d18_16 : decode jdk_42_method_147_code 16 = .ok (.ishl, 1) := by decide +kernel
theorem d18_17 : decode jdk_42_method_147_code 17 = .ok (.aload_n 0, 1) := by decide +kernel
theorem d18_18 : decode jdk_42_method_147_code 18 = .ok (.getfield 9, 3) := by decide +kernel
theorem d18_21 : decode jdk_42_method_147_code 21 = .ok (.arraylength, 1) := by decide +kernel
theorem d18_22 : decode jdk_42_method_147_code 22 = .ok (.invokestatic 212, 3) := by decide +kernel
theorem d18_25 : decode jdk_42_method_147_code 25 = .ok (.goto 18, 3) := by decide +kernel
theorem d18_28 : decode jdk_42_method_147_code 28 = .ok (.aload_n 0, 1) := by decide +kernel
theorem d18_29 : decode jdk_42_method_147_code 29 = .ok (.getfield 9, 3) := by decide +kernel
theorem d18_32 : decode jdk_42_method_147_code 32 = .ok (.iconst 0, 1) := by decide +kernel
theorem d18_33 : decode jdk_42_method_147_code 33 = .ok (.aload_n 1, 1) := by decide +kernel
theorem d18_34 : decode jdk_42_method_147_code 34 = .ok (.iload_n 2, 1) := by decide +kernel
theorem d18_35 : decode jdk_42_method_147_code 35 = .ok (.aload_n 0, 1) := by decide +kernel
theorem d18_36 : decode jdk_42_method_147_code 36 = .ok (.getfield 9, 3) := by decide +kernel
theorem d18_39 : decode jdk_42_method_147_code 39 = .ok (.arraylength, 1) := by decide +kernel
theorem d18_40 : decode jdk_42_method_147_code 40 = .ok (.invokestatic 106, 3) := by decide +kernel
theorem d18_43 : decode jdk_42_method_147_code 43 = .ok (.return_, 1) := by decide +kernel
theorem pd18 : parseMethodDescriptor "([BIB)V" = some ⟨[(.array .byte), .int, .byte], none⟩ := by decide +kernel
theorem pn18 : plainFor (⟨"java/lang/String", "getBytes", "([BIB)V"⟩ : MethodName) = true := by first | (refine plainFor_of_name ?_; simp [plainName, overriddenIn]; done) | (refine plainFor_of_name ?_; decide +kernel) | decide +kernel
abbrev B18 : Bd := ((⟨"java/lang/String", "getBytes", "([BIB)V"⟩ : MethodName), jdk_42_method_147_code, 4, none, ({ frames := 5, cells := 0, slots := 0, locals := 76 } : Room), tables_1)
def Q18i2 (Z : State) (val : Addr) (us : List Int32) (vs : List Int32) (xn : Nat) (h0 : Heap) (v : Option Value) (h : Heap) : Prop := v = none ∧ Keep h0 h [val] ∧ Ary Z h val .byte (IL (put (put us (xn + 0) (vs.getD 0 0 &&& (255 : Int32))) (xn + 1) (vs.getD 1 0 &&& (255 : Int32))))
theorem c18i2 (Z : State) (hw : Wd Z tables_1) (h0 : Heap) (a : Addr) (val : Addr) (x : Int32) (us : List Int32) (vs : List Int32) (xn : Nat) (cs : Int32) (hS : YCs Z cs) (hcs : ¬ cs = 0) (hAs : YAs Z) (hHi : YHi Z) (hLo : YLo Z) (hfm : YFm Z) (hx : x.toInt = xn) (hx6 : xn ≤ 3) (hul : us.length = 32) (h1 : ¬ (((16 : Int32) ||| x) ||| (2 : Int32)) < 0) (h2 : ¬ ((16 : Int32) - x) < (2 : Int32)) (s : Addr) (iE : YEs Z h0 a) (iV : YSv Z h0 a (.ref s)) (iC : YSc Z h0 a (.int 0)) (iA : Ary Z h0 s .byte (IL vs)) (hvl : vs.length = 2) (hB : Ary Z h0 val .byte (IL us)) (hgv : Z.heap.size ≤ val) (hne : s ≠ val) : Con Z B18 (List.toArray [.ref a, .ref val, .int x, .int (1 : Int32)]) h0 (Q18i2 Z val us vs xn h0) := by
  refine Con.mk (Ls := #[.val (.ref a), .val (.ref val), .val (.int x), .val (.int (1 : Int32))]) hw pn18 (fun mid => by first | (simp [entryFrame, mkF, argsToLocals, Value.category, Jvm.Ow.Bd.ml, B18]; done) | rfl) (Go.old fun hle' => ?_)
  have hle := hle'.1
  refine Go.aloadN 1 rfl d18_0 rfl rfl ?_
  refine Go.callV 4 rfl (C := B14) a [] (rest := []) 92 93 95 94 20 96 (c14k0 Z hw h0 a cs hS hcs iC) iE d18_1 rfl rfl rfl rfl rfl rfl (by decide) pd14 rfl rfl rfl (W := 0) (lb rfl) (by decide) (by decide) (by decide) (by decide) fun v101 h102 q103 => ?_
  obtain ⟨rfl, rfl⟩ := q103
  refine Go.iloadN 5 rfl d18_4 rfl ?_
  refine Go.icmp_ne 28 8 d18_5 (by decide) rfl rfl (fun (b104 : ¬ (0 : Int32) = (1 : Int32)) => ?_) (fun (b104 : (0 : Int32) = (1 : Int32)) => ?_)
  · refine Go.aloadN 29 rfl d18_28 rfl rfl ?_
    refine Go.getF 32 rfl (v := .ref s) 75 d18_29 rfl iV ?_
    refine Go.iconst 33 rfl (0 : Int32) d18_32 rfl ?_
    refine Go.aloadN 34 rfl d18_33 rfl rfl ?_
    refine Go.iloadN 35 rfl d18_34 rfl ?_
    refine Go.aloadN 36 rfl d18_35 rfl rfl ?_
    refine Go.getF 39 rfl (v := .ref s) 75 d18_36 rfl iV ?_
    refine Go.alen 40 rfl (2 : Int32) d18_39 iA (by rw [IL.len, hvl]; rfl) ?_
    refine Go.callS 43 rfl (C := B39) [.ref s, .int (0 : Int32), .ref val, .int x, .int (2 : Int32)] (rest := []) 220 221 184 222 (c39n2 Z hw h0 s val x vs us xn hx (by omega) (32 : Int32) (16 : Int32) (by rw [IL.len, hul]; rfl) (by decide) (by omega) (by omega) hfm h1 h2 hAs hHi hLo iA hB hgv hne) d18_40 rfl rfl rfl rfl (by decide) pd39 rfl rfl rfl (W := 0) (lb rfl) (by decide) (by decide) (by decide) (by decide) fun v105 h106 q107 => ?_
    obtain ⟨rfl, K, A⟩ := q107
    exact Go.retV d18_43 rfl (by decide) (by decide) ⟨rfl, K, A⟩
  · exact absurd b104 (show ¬ (0 : Int32) = (1 : Int32) from (by decide))
def Q18i1 (Z : State) (val : Addr) (us : List Int32) (vs : List Int32) (xn : Nat) (h0 : Heap) (v : Option Value) (h : Heap) : Prop := v = none ∧ Keep h0 h [val] ∧ Ary Z h val .byte (IL (put us (xn + 0) (vs.getD 0 0 &&& (255 : Int32))))
theorem c18i1 (Z : State) (hw : Wd Z tables_1) (h0 : Heap) (a : Addr) (val : Addr) (x : Int32) (us : List Int32) (vs : List Int32) (xn : Nat) (cs : Int32) (hS : YCs Z cs) (hcs : ¬ cs = 0) (hAs : YAs Z) (hHi : YHi Z) (hLo : YLo Z) (hfm : YFm Z) (hx : x.toInt = xn) (hx6 : xn ≤ 3) (hul : us.length = 32) (h1 : ¬ (((16 : Int32) ||| x) ||| (1 : Int32)) < 0) (h2 : ¬ ((16 : Int32) - x) < (1 : Int32)) (s : Addr) (iE : YEs Z h0 a) (iV : YSv Z h0 a (.ref s)) (iC : YSc Z h0 a (.int 0)) (iA : Ary Z h0 s .byte (IL vs)) (hvl : vs.length = 1) (hB : Ary Z h0 val .byte (IL us)) (hgv : Z.heap.size ≤ val) (hne : s ≠ val) : Con Z B18 (List.toArray [.ref a, .ref val, .int x, .int (1 : Int32)]) h0 (Q18i1 Z val us vs xn h0) := by
  refine Con.mk (Ls := #[.val (.ref a), .val (.ref val), .val (.int x), .val (.int (1 : Int32))]) hw pn18 (fun mid => by first | (simp [entryFrame, mkF, argsToLocals, Value.category, Jvm.Ow.Bd.ml, B18]; done) | rfl) (Go.old fun hle' => ?_)
  have hle := hle'.1
  refine Go.aloadN 1 rfl d18_0 rfl rfl ?_
  refine Go.callV 4 rfl (C := B14) a [] (rest := []) 92 93 95 94 20 96 (c14k0 Z hw h0 a cs hS hcs iC) iE d18_1 rfl rfl rfl rfl rfl rfl (by decide) pd14 rfl rfl rfl (W := 0) (lb rfl) (by decide) (by decide) (by decide) (by decide) fun v101 h102 q103 => ?_
  obtain ⟨rfl, rfl⟩ := q103
  refine Go.iloadN 5 rfl d18_4 rfl ?_
  refine Go.icmp_ne 28 8 d18_5 (by decide) rfl rfl (fun (b104 : ¬ (0 : Int32) = (1 : Int32)) => ?_) (fun (b104 : (0 : Int32) = (1 : Int32)) => ?_)
  · refine Go.aloadN 29 rfl d18_28 rfl rfl ?_
    refine Go.getF 32 rfl (v := .ref s) 75 d18_29 rfl iV ?_
    refine Go.iconst 33 rfl (0 : Int32) d18_32 rfl ?_
    refine Go.aloadN 34 rfl d18_33 rfl rfl ?_
    refine Go.iloadN 35 rfl d18_34 rfl ?_
    refine Go.aloadN 36 rfl d18_35 rfl rfl ?_
    refine Go.getF 39 rfl (v := .ref s) 75 d18_36 rfl iV ?_
    refine Go.alen 40 rfl (1 : Int32) d18_39 iA (by rw [IL.len, hvl]; rfl) ?_
    refine Go.callS 43 rfl (C := B39) [.ref s, .int (0 : Int32), .ref val, .int x, .int (1 : Int32)] (rest := []) 220 221 184 222 (c39n1 Z hw h0 s val x vs us xn hx (by omega) (32 : Int32) (16 : Int32) (by rw [IL.len, hul]; rfl) (by decide) (by omega) (by omega) hfm h1 h2 hAs hHi hLo iA hB hgv hne) d18_40 rfl rfl rfl rfl (by decide) pd39 rfl rfl rfl (W := 0) (lb rfl) (by decide) (by decide) (by decide) (by decide) fun v105 h106 q107 => ?_
    obtain ⟨rfl, K, A⟩ := q107
    exact Go.retV d18_43 rfl (by decide) (by decide) ⟨rfl, K, A⟩
  · exact absurd b104 (show ¬ (0 : Int32) = (1 : Int32) from (by decide))
def Q18i0 (Z : State) (val : Addr) (us : List Int32) (vs : List Int32) (xn : Nat) (h0 : Heap) (v : Option Value) (h : Heap) : Prop := v = none ∧ Keep h0 h [val] ∧ Ary Z h val .byte (IL us)
theorem c18i0 (Z : State) (hw : Wd Z tables_1) (h0 : Heap) (a : Addr) (val : Addr) (x : Int32) (us : List Int32) (vs : List Int32) (xn : Nat) (cs : Int32) (hS : YCs Z cs) (hcs : ¬ cs = 0) (hAs : YAs Z) (hHi : YHi Z) (hLo : YLo Z) (hfm : YFm Z) (hx : x.toInt = xn) (hx6 : xn ≤ 3) (hul : us.length = 32) (h1 : ¬ (((16 : Int32) ||| x) ||| (0 : Int32)) < 0) (h2 : ¬ ((16 : Int32) - x) < (0 : Int32)) (s : Addr) (iE : YEs Z h0 a) (iV : YSv Z h0 a (.ref s)) (iC : YSc Z h0 a (.int 0)) (iA : Ary Z h0 s .byte (IL vs)) (hvl : vs.length = 0) (hB : Ary Z h0 val .byte (IL us)) (hgv : Z.heap.size ≤ val) (hne : s ≠ val) : Con Z B18 (List.toArray [.ref a, .ref val, .int x, .int (1 : Int32)]) h0 (Q18i0 Z val us vs xn h0) := by
  refine Con.mk (Ls := #[.val (.ref a), .val (.ref val), .val (.int x), .val (.int (1 : Int32))]) hw pn18 (fun mid => by first | (simp [entryFrame, mkF, argsToLocals, Value.category, Jvm.Ow.Bd.ml, B18]; done) | rfl) (Go.old fun hle' => ?_)
  have hle := hle'.1
  refine Go.aloadN 1 rfl d18_0 rfl rfl ?_
  refine Go.callV 4 rfl (C := B14) a [] (rest := []) 92 93 95 94 20 96 (c14k0 Z hw h0 a cs hS hcs iC) iE d18_1 rfl rfl rfl rfl rfl rfl (by decide) pd14 rfl rfl rfl (W := 0) (lb rfl) (by decide) (by decide) (by decide) (by decide) fun v101 h102 q103 => ?_
  obtain ⟨rfl, rfl⟩ := q103
  refine Go.iloadN 5 rfl d18_4 rfl ?_
  refine Go.icmp_ne 28 8 d18_5 (by decide) rfl rfl (fun (b104 : ¬ (0 : Int32) = (1 : Int32)) => ?_) (fun (b104 : (0 : Int32) = (1 : Int32)) => ?_)
  · refine Go.aloadN 29 rfl d18_28 rfl rfl ?_
    refine Go.getF 32 rfl (v := .ref s) 75 d18_29 rfl iV ?_
    refine Go.iconst 33 rfl (0 : Int32) d18_32 rfl ?_
    refine Go.aloadN 34 rfl d18_33 rfl rfl ?_
    refine Go.iloadN 35 rfl d18_34 rfl ?_
    refine Go.aloadN 36 rfl d18_35 rfl rfl ?_
    refine Go.getF 39 rfl (v := .ref s) 75 d18_36 rfl iV ?_
    refine Go.alen 40 rfl (0 : Int32) d18_39 iA (by rw [IL.len, hvl]; rfl) ?_
    refine Go.callS 43 rfl (C := B39) [.ref s, .int (0 : Int32), .ref val, .int x, .int (0 : Int32)] (rest := []) 220 221 184 222 (c39n0 Z hw h0 s val x vs us xn hx (by omega) (32 : Int32) (16 : Int32) (by rw [IL.len, hul]; rfl) (by decide) (by omega) (by omega) hfm h1 h2 hAs hHi hLo iA hB hgv hne) d18_40 rfl rfl rfl rfl (by decide) pd39 rfl rfl rfl (W := 0) (lb rfl) (by decide) (by decide) (by decide) (by decide) fun v105 h106 q107 => ?_
    obtain ⟨rfl, K, A⟩ := q107
    exact Go.retV d18_43 rfl (by decide) (by decide) ⟨rfl, K, A⟩
  · exact absurd b104 (show ¬ (0 : Int32) = (1 : Int32) from (by decide))
def Q18k0 (Z : State) (val : Addr) (us : List Int32) (vs : List Int32) (yn : Nat) (h0 : Heap) (v : Option Value) (h : Heap) : Prop := v = none ∧ Keep h0 h [val] ∧ Ary Z h val .byte (IL (us.take yn ++ vs ++ us.drop (yn + vs.length)))
theorem c18k0 (Z : State) (hw : Wd Z tables_1) (h0 : Heap) (a : Addr) (val : Addr) (x : Int32) (us : List Int32) (vs : List Int32) (yn : Nat) (cs : Int32) (hS : YCs Z cs) (hcs : ¬ cs = 0) (y : Int32) (hy : x <<< ((0 : Int32) &&& 31) = y) (hyn : y.toInt = yn) (L : Int32) (hL : L.toInt = (IL vs).length) (hfit : yn + vs.length ≤ us.length) (s : Addr) (iE : YEs Z h0 a) (iV : YSv Z h0 a (.ref s)) (iC : YSc Z h0 a (.int 0)) (iA : Ary Z h0 s .byte (IL vs)) (hB : Ary Z h0 val .byte (IL us)) (hgv : Z.heap.size ≤ val) (hne : s ≠ val) : Con Z B18 (List.toArray [.ref a, .ref val, .int x, .int (0 : Int32)]) h0 (Q18k0 Z val us vs yn h0) := by
  refine Con.mk (Ls := #[.val (.ref a), .val (.ref val), .val (.int x), .val (.int (0 : Int32))]) hw pn18 (fun mid => by first | (simp [entryFrame, mkF, argsToLocals, Value.category, Jvm.Ow.Bd.ml, B18]; done) | rfl) (Go.old fun hle' => ?_)
  have hle := hle'.1
  refine Go.aloadN 1 rfl d18_0 rfl rfl ?_
  refine Go.callV 4 rfl (C := B14) a [] (rest := []) 92 93 95 94 20 96 (c14k0 Z hw h0 a cs hS hcs iC) iE d18_1 rfl rfl rfl rfl rfl rfl (by decide) pd14 rfl rfl rfl (W := 0) (lb rfl) (by decide) (by decide) (by decide) (by decide) fun v101 h102 q103 => ?_
  obtain ⟨rfl, rfl⟩ := q103
  refine Go.iloadN 5 rfl d18_4 rfl ?_
  refine Go.icmp_ne 28 8 d18_5 (by decide) rfl rfl (fun (b104 : ¬ (0 : Int32) = (0 : Int32)) => ?_) (fun (b104 : (0 : Int32) = (0 : Int32)) => ?_)
  · exact absurd (show (0 : Int32) = (0 : Int32) from (by decide)) b104
  · refine Go.aloadN 9 rfl d18_8 rfl rfl ?_
    refine Go.getF 12 rfl (v := .ref s) 75 d18_9 rfl iV ?_
    refine Go.iconst 13 rfl (0 : Int32) d18_12 rfl ?_
    refine Go.aloadN 14 rfl d18_13 rfl rfl ?_
    refine Go.iloadN 15 rfl d18_14 rfl ?_
    refine Go.iloadN 16 rfl d18_15 rfl ?_
    refine Go.ishl 17 rfl d18_16 ?_
    refine Go.eqI (w := y) hy ?_
    refine Go.aloadN 18 rfl d18_17 rfl rfl ?_
    refine Go.getF 21 rfl (v := .ref s) 75 d18_18 rfl iV ?_
    refine Go.alen 22 rfl L d18_21 iA hL ?_
    refine Go.acopy 25 rfl (IL (us.take yn ++ vs ++ us.drop (yn + vs.length))) 121 124 122 123 d18_22 rfl rfl rfl rfl rfl iA hB 0 yn vs.length rfl hyn (by rw [hL, IL.len]) (by rw [IL.len]; omega) (by rw [IL.len]; omega) (own_cp us vs yn) hgv rfl (by decide) (W := 0) (lb rfl) (by decide) fun h105 K106 A107 => ?_
    refine Go.goto 43 d18_25 (by decide) (by decide) ?_
    exact Go.retV d18_43 rfl (by decide) (by decide) ⟨rfl, ((Keep.refl h0 [val]).trans K106 (by simp)), A107⟩
def Q18k1 (Z : State) (val : Addr) (us : List Int32) (vs : List Int32) (yn : Nat) (h0 : Heap) (v : Option Value) (h : Heap) : Prop := v = none ∧ Keep h0 h [val] ∧ Ary Z h val .byte (IL (us.take yn ++ vs ++ us.drop (yn + vs.length)))
theorem c18k1 (Z : State) (hw : Wd Z tables_1) (h0 : Heap) (a : Addr) (val : Addr) (x : Int32) (us : List Int32) (vs : List Int32) (yn : Nat) (cs : Int32) (hS : YCs Z cs) (hcs : ¬ cs = 0) (y : Int32) (hy : x <<< ((1 : Int32) &&& 31) = y) (hyn : y.toInt = yn) (L : Int32) (hL : L.toInt = (IL vs).length) (hfit : yn + vs.length ≤ us.length) (s : Addr) (iE : YEs Z h0 a) (iV : YSv Z h0 a (.ref s)) (iC : YSc Z h0 a (.int 1)) (iA : Ary Z h0 s .byte (IL vs)) (hB : Ary Z h0 val .byte (IL us)) (hgv : Z.heap.size ≤ val) (hne : s ≠ val) : Con Z B18 (List.toArray [.ref a, .ref val, .int x, .int (1 : Int32)]) h0 (Q18k1 Z val us vs yn h0) := by
  refine Con.mk (Ls := #[.val (.ref a), .val (.ref val), .val (.int x), .val (.int (1 : Int32))]) hw pn18 (fun mid => by first | (simp [entryFrame, mkF, argsToLocals, Value.category, Jvm.Ow.Bd.ml, B18]; done) | rfl) (Go.old fun hle' => ?_)
  have hle := hle'.1
  refine Go.aloadN 1 rfl d18_0 rfl rfl ?_
  refine Go.callV 4 rfl (C := B14) a [] (rest := []) 92 93 95 94 20 96 (c14k1 Z hw h0 a cs hS hcs iC) iE d18_1 rfl rfl rfl rfl rfl rfl (by decide) pd14 rfl rfl rfl (W := 0) (lb rfl) (by decide) (by decide) (by decide) (by decide) fun v101 h102 q103 => ?_
  obtain ⟨rfl, rfl⟩ := q103
  refine Go.iloadN 5 rfl d18_4 rfl ?_
  refine Go.icmp_ne 28 8 d18_5 (by decide) rfl rfl (fun (b104 : ¬ (1 : Int32) = (1 : Int32)) => ?_) (fun (b104 : (1 : Int32) = (1 : Int32)) => ?_)
  · exact absurd (show (1 : Int32) = (1 : Int32) from (by decide)) b104
  · refine Go.aloadN 9 rfl d18_8 rfl rfl ?_
    refine Go.getF 12 rfl (v := .ref s) 75 d18_9 rfl iV ?_
    refine Go.iconst 13 rfl (0 : Int32) d18_12 rfl ?_
    refine Go.aloadN 14 rfl d18_13 rfl rfl ?_
    refine Go.iloadN 15 rfl d18_14 rfl ?_
    refine Go.iloadN 16 rfl d18_15 rfl ?_
    refine Go.ishl 17 rfl d18_16 ?_
    refine Go.eqI (w := y) hy ?_
    refine Go.aloadN 18 rfl d18_17 rfl rfl ?_
    refine Go.getF 21 rfl (v := .ref s) 75 d18_18 rfl iV ?_
    refine Go.alen 22 rfl L d18_21 iA hL ?_
    refine Go.acopy 25 rfl (IL (us.take yn ++ vs ++ us.drop (yn + vs.length))) 121 124 122 123 d18_22 rfl rfl rfl rfl rfl iA hB 0 yn vs.length rfl hyn (by rw [hL, IL.len]) (by rw [IL.len]; omega) (by rw [IL.len]; omega) (own_cp us vs yn) hgv rfl (by decide) (W := 0) (lb rfl) (by decide) fun h105 K106 A107 => ?_
    refine Go.goto 43 d18_25 (by decide) (by decide) ?_
    exact Go.retV d18_43 rfl (by decide) (by decide) ⟨rfl, ((Keep.refl h0 [val]).trans K106 (by simp)), A107⟩
theorem d16_0 : decode jdk_68_method_73_code 0 = .ok (.aload_n 0, 1) := by decide +kernel
theorem d16_1 : decode jdk_68_method_73_code 1 = .ok (.aload_n 2, 1) := by decide +kernel
theorem d16_2 : decode jdk_68_method_73_code 2 = .ok (.invokevirtual 397, 3) := by decide +kernel
theorem d16_5 : decode jdk_68_method_73_code 5 = .ok (.aload_n 2, 1) := by decide +kernel
theorem d16_6 : decode jdk_68_method_73_code 6 = .ok (.aload_n 0, 1) := by decide +kernel
theorem d16_7 : decode jdk_68_method_73_code 7 = .ok (.getfield 15, 3) := by decide +kernel
theorem d16_10 : decode jdk_68_method_73_code 10 = .ok (.iload_n 1, 1) := by decide +kernel
theorem d16_11 : decode jdk_68_method_73_code 11 = .ok (.aload_n 0, 1) := by decide +kernel
theorem d16_12 : decode jdk_68_method_73_code 12 = .ok (.getfield 22, 3) := by decide +kernel
theorem d16_15 : decode jdk_68_method_73_code 15 = .ok (.invokevirtual 399, 3) := by decide +kernel
theorem d16_18 : decode jdk_68_method_73_code 18 = .ok (.return_, 1) := by decide +kernel
theorem pd16 : parseMethodDescriptor "(ILjava/lang/String;)V" = some ⟨[.int, (.object "java/lang/String")], none⟩ := by decide +kernel
theorem pn16 : plainFor (⟨"java/lang/AbstractStringBuilder", "putStringAt", "(ILjava/lang/String;)V"⟩ : MethodName) = true := by first | (refine plainFor_of_name ?_; simp [plainName, overriddenIn]; done) | (refine plainFor_of_name ?_; decide +kernel) | decide +kernel
abbrev B16 : Bd := ((⟨"java/lang/AbstractStringBuilder", "putStringAt", "(ILjava/lang/String;)V"⟩ : MethodName), jdk_68_method_73_code, 3, none, ({ frames := 7, cells := 1, slots := 32, locals := 102 } : Room), tables_1)
def Q16v013 (Z : State) (sb : Addr) (us : List Int32) (vs : List Int32) (h0 : Heap) (v : Option Value) (h : Heap) : Prop := v = none ∧ ∃ t, h0.size ≤ t ∧ Keep h0 h [sb] ∧ YBv Z h sb (.ref t) ∧ YBc Z h sb (.int 1) ∧ YBn Z h sb (.int 3) ∧ YBm Z h sb (.int 0) ∧ Ary Z h t .byte (IL ((put (put (put (zer 32) (0 + 0) (us.getD 0 0 &&& (255 : Int32))) (0 + 1) (us.getD 1 0 &&& (255 : Int32))) (0 + 2) (us.getD 2 0 &&& (255 : Int32))).take 6 ++ vs ++ (put (put (put (zer 32) (0 + 0) (us.getD 0 0 &&& (255 : Int32))) (0 + 1) (us.getD 1 0 &&& (255 : Int32))) (0 + 2) (us.getD 2 0 &&& (255 : Int32))).drop (6 + vs.length)))
theorem c16v013 (Z : State) (hw : Wd Z tables_1) (h0 : Heap) (sb : Addr) (a : Addr) (us : List Int32) (vs : List Int32) (cs : Int32) (hS : YCs Z cs) (hcs : ¬ cs = 0) (hAs : YAs Z) (hHi : YHi Z) (hLo : YLo Z) (hfm : YFm Z) (val : Addr) (hul : us.length = 16) (L : Int32) (hL : L.toInt = (IL vs).length) (hfit : 6 + vs.length ≤ 32) (s : Addr) (iE : YEs Z h0 a) (iV : YSv Z h0 a (.ref s)) (iC : YSc Z h0 a (.int 1)) (iA : Ary Z h0 s .byte (IL vs)) (hge : Z.heap.size ≤ sb) (hE : YEb Z h0 sb) (hV : YBv Z h0 sb (.ref val)) (hC : YBc Z h0 sb (.int 0)) (hN : YBn Z h0 sb (.int 3)) (hY : YBm Z h0 sb (.int 0)) (hA : Ary Z h0 val .byte (IL us)) (hgv : Z.heap.size ≤ val) (hne : s ≠ val) (hns : a ≠ sb) : Con Z B16 (List.toArray [.ref sb, .int (3 : Int32), .ref a]) h0 (Q16v013 Z sb us vs h0) := by
  refine Con.mk (Ls := #[.val (.ref sb), .val (.int (3 : Int32)), .val (.ref a)]) hw pn16 (fun mid => by first | (simp [entryFrame, mkF, argsToLocals, Value.category, Jvm.Ow.Bd.ml, B16]; done) | rfl) (Go.old fun hle' => ?_)
  have hle := hle'.1
  have hvs : val ≠ sb := own_na hw 41 rfl hE hA
  have hss : s ≠ sb := own_na hw 41 rfl hE iA
  refine Go.aloadN 1 rfl d16_0 rfl rfl ?_
  refine Go.aloadN 2 rfl d16_1 rfl rfl ?_
  refine Go.callP3 5 rfl (C := B17) sb [.ref a] (rest := []) 110 111 113 112 50 114 (c17n3 Z hw h0 sb a us cs hS hcs hAs hHi hLo hfm val hul hge hE hV hC hN hY hA hgv iE iC) hE d16_2 rfl rfl rfl rfl rfl rfl (by decide) pd17 rfl rfl rfl (W := 0) (lb rfl) (by decide) (by decide) (by decide) (by decide) fun v101 h102 q103 => ?_
  obtain ⟨rfl, t, g, K, jve, jcr, jct, jm1, jar⟩ := q103
  have z104 : Z.heap.size ≤ t := Nat.le_trans hle g
  refine Go.aloadN 6 rfl d16_5 rfl rfl ?_
  refine Go.aloadN 7 rfl d16_6 rfl rfl ?_
  refine Go.getF 10 rfl (v := .ref t) 54 d16_7 rfl jve ?_
  refine Go.iloadN 11 rfl d16_10 rfl ?_
  refine Go.aloadN 12 rfl d16_11 rfl rfl ?_
  refine Go.getF 15 rfl (v := .int (1 : Int32)) 56 d16_12 rfl jcr ?_
  have F105 : YEs Z h102 a := (iE.keep K)
  have F106 : YSv Z h102 a (.ref s) := (iV.keep K (ninS hns nin0))
  have F107 : YSc Z h102 a (.int (1 : Int32)) := (iC.keep K (ninS hns nin0))
  have F108 : Ary Z h102 s .byte (IL vs) := (iA.keep K (ninS hss nin0))
  have ne109 : s ≠ t := (show @Ne Nat s t from by have := ltN iA.lt; have := g; omega)
  refine Go.callV 18 rfl (C := B18) a [.ref t, .int (3 : Int32), .int (1 : Int32)] (rest := []) 116 117 119 118 20 120 (c18k1 Z hw h102 a t (3 : Int32) (put (put (put (zer 32) (0 + 0) (us.getD 0 0 &&& (255 : Int32))) (0 + 1) (us.getD 1 0 &&& (255 : Int32))) (0 + 2) (us.getD 2 0 &&& (255 : Int32))) vs 6 cs hS hcs (6 : Int32) (by decide) rfl L hL (by simp only [own_putl, zer, List.length_replicate]; omega) s F105 F106 F107 F108 jar z104 ne109) F105 d16_15 rfl rfl rfl rfl rfl rfl (by decide) pd18 rfl rfl rfl (W := 0) (lb rfl) (by decide) (by decide) (by decide) (by decide) fun v110 h111 q112 => ?_
  obtain ⟨rfl, K2, A2⟩ := q112
  have ne113 : sb ≠ t := (show @Ne Nat sb t from by have := ltN hE.lt; have := g; omega)
  have F114 : YBv Z h111 sb (.ref t) := (jve.keep K2 (ninS ne113 nin0))
  have F115 : YBc Z h111 sb (.int (1 : Int32)) := (jcr.keep K2 (ninS ne113 nin0))
  have F116 : YBn Z h111 sb (.int (3 : Int32)) := (jct.keep K2 (ninS ne113 nin0))
  have F117 : YBm Z h111 sb (.int (0 : Int32)) := (jm1.keep K2 (ninS ne113 nin0))
  exact Go.retV d16_18 rfl (by decide) (by decide) ⟨rfl, t, g, (((Keep.refl h0 [sb]).trans K (by simp)).trans K2 (allS (Or.inr g) all0)), F114, F115, F116, F117, A2⟩
theorem d12_0 : decode jdk_68_method_22_code 0 = .ok (.aload_n 1, 1) := by decide +kernel
theorem d12_1 : decode jdk_68_method_22_code 1 = .ok (.ifnonnull 8, 3) := by decide +kernel
theorem d12_9 : decode jdk_68_method_22_code 9 = .ok (.aload_n 1, 1) := by decide +kernel
theorem d12_10 : decode jdk_68_method_22_code 10 = .ok (.invokevirtual 32, 3) := by decide +kernel
theorem d12_13 : decode jdk_68_method_22_code 13 = .ok (.istore_n 2, 1) := by decide +kernel
theorem d12_14 : decode jdk_68_method_22_code 14 = .ok (.aload_n 0, 1) := by decide +kernel
theorem d12_15 : decode jdk_68_method_22_code 15 = .ok (.aload_n 0, 1) := by decide +kernel
theorem d12_16 : decode jdk_68_method_22_code 16 = .ok (.getfield 79, 3) := by decide +kernel
theorem d12_19 : decode jdk_68_method_22_code 19 = .ok (.iload_n 2, 1) := by decide +kernel
theorem d12_20 : decode jdk_68_method_22_code 20 = .ok (.iadd, 1) := by decide +kernel
theorem d12_21 : decode jdk_68_method_22_code 21 = .ok (.invokevirtual 100, 3) := by decide +kernel
theorem d12_24 : decode jdk_68_method_22_code 24 = .ok (.aload_n 0, 1) := by decide +kernel
theorem d12_25 : decode jdk_68_method_22_code 25 = .ok (.aload_n 0, 1) := by decide +kernel
theorem d12_26 : decode jdk_68_method_22_code 26 = .ok (.getfield 79, 3) := by decide +kernel
theorem d12_29 : decode jdk_68_method_22_code 29 = .ok (.aload_n 1, 1) := by decide +kernel
theorem d12_30 : decode jdk_68_method_22_code 30 = .ok (.invokevirtual 208, 3) := by decide +kernel
theorem d12_33 : decode jdk_68_method_22_code 33 = .ok (.aload_n 0, 1) := by decide +kernel
theorem d12_34 : decode jdk_68_method_22_code 34 = .ok (.dup, 1) := by decide +kernel
theorem d12_35 : decode jdk_68_method_22_code 35 = .ok (.getfield 79, 3) := by decide +kernel
theorem d12_38 : decode jdk_68_method_22_code 38 = .ok (.iload_n 2, 1) := by decide +kernel
theorem d12_39 : decode jdk_68_method_22_code 39 = .ok (.iadd, 1) := by decide +kernel
theorem d12_40 : decode jdk_68_method_22_code 40 = .ok (.putfield 79, 3) := by decide +kernel
theorem d12_43 : decode jdk_68_method_22_code 43 = .ok (.aload_n 0, 1) := by decide +kernel
theorem d12_44 : decode jdk_68_method_22_code 44 = .ok (.areturn, 1) := by decide +kernel
theorem pd12 : parseMethodDescriptor "(Ljava/lang/String;)Ljava/lang/AbstractStringBuilder;" = some ⟨[(.object "java/lang/String")], some (.object "java/lang/AbstractStringBuilder")⟩ := by decide +kernel
theorem pn12 : plainFor (⟨"java/lang/AbstractStringBuilder", "append", "(Ljava/lang/String;)Ljava/lang/AbstractStringBuilder;"⟩ : MethodName) = true := by first | (refine plainFor_of_name ?_; simp [plainName, overriddenIn]; done) | (refine plainFor_of_name ?_; decide +kernel) | decide +kernel
abbrev B12 : Bd := ((⟨"java/lang/AbstractStringBuilder", "append", "(Ljava/lang/String;)Ljava/lang/AbstractStringBuilder;"⟩ : MethodName), jdk_68_method_22_code, 3, (some (.object "java/lang/AbstractStringBuilder")), ({ frames := 8, cells := 1, slots := 32, locals := 116 } : Room), tables_1)
def Q12v013 (Z : State) (sb : Addr) (us : List Int32) (vs : List Int32) (R : Int32) (h0 : Heap) (v : Option Value) (h : Heap) : Prop := v = some (.ref sb) ∧ ∃ t, h0.size ≤ t ∧ Keep h0 h [sb] ∧ YBv Z h sb (.ref t) ∧ YBc Z h sb (.int 1) ∧ YBn Z h sb (.int (3 + R)) ∧ YBm Z h sb (.int 0) ∧ Ary Z h t .byte (IL ((put (put (put (zer 32) (0 + 0) (us.getD 0 0 &&& (255 : Int32))) (0 + 1) (us.getD 1 0 &&& (255 : Int32))) (0 + 2) (us.getD 2 0 &&& (255 : Int32))).take 6 ++ vs ++ (put (put (put (zer 32) (0 + 0) (us.getD 0 0 &&& (255 : Int32))) (0 + 1) (us.getD 1 0 &&& (255 : Int32))) (0 + 2) (us.getD 2 0 &&& (255 : Int32))).drop (6 + vs.length)))
theorem c12v013 (Z : State) (hw : Wd Z tables_1) (h0 : Heap) (sb : Addr) (a : Addr) (us : List Int32) (vs : List Int32) (R : Int32) (cs : Int32) (hS : YCs Z cs) (hcs : ¬ cs = 0) (hAs : YAs Z) (hHi : YHi Z) (hLo : YLo Z) (hfm : YFm Z) (val : Addr) (hul : us.length = 16) (L : Int32) (hL : L.toInt = (IL vs).length) (hfit : 6 + vs.length ≤ 32) (hR : L >>> ((1 : Int32) &&& 31) = R) (hm : ¬ (0 : Int32) < ((3 : Int32) + R) - (16 : Int32)) (s : Addr) (iE : YEs Z h0 a) (iV : YSv Z h0 a (.ref s)) (iC : YSc Z h0 a (.int 1)) (iA : Ary Z h0 s .byte (IL vs)) (hge : Z.heap.size ≤ sb) (hE : YEb Z h0 sb) (hV : YBv Z h0 sb (.ref val)) (hC : YBc Z h0 sb (.int 0)) (hN : YBn Z h0 sb (.int 3)) (hY : YBm Z h0 sb (.int 0)) (hA : Ary Z h0 val .byte (IL us)) (hgv : Z.heap.size ≤ val) (hne : s ≠ val) (hns : a ≠ sb) : Con Z B12 (List.toArray [.ref sb, .ref a]) h0 (Q12v013 Z sb us vs R h0) := by
  refine Con.mk (Ls := #[.val (.ref sb), .val (.ref a), .unset]) hw pn12 (fun mid => by first | (simp [entryFrame, mkF, argsToLocals, Value.category, Jvm.Ow.Bd.ml, B12]; done) | rfl) (Go.old fun hle' => ?_)
  have hle := hle'.1
  have hvs : val ≠ sb := own_na hw 41 rfl hE hA
  have hss : s ≠ sb := own_na hw 41 rfl hE iA
  refine Go.aloadN 1 rfl d12_0 rfl rfl ?_
  refine Go.ifnonnull_r 9 d12_1 (by decide) rfl ?_
  refine Go.aloadN 10 rfl d12_9 rfl rfl ?_
  refine Go.callV 13 rfl (C := B13) a [] (rest := []) 87 88 90 89 20 91 (c13k1 Z hw h0 a R cs hS hcs s (IL vs) L hL hR iE iV iC iA) iE d12_10 rfl rfl rfl rfl rfl rfl (by decide) pd13 rfl rfl rfl (W := 0) (lb rfl) (by decide) (by decide) (by decide) (by decide) fun v101 h102 q103 => ?_
  obtain ⟨rfl, rfl⟩ := q103
  refine Go.istoreN 14 rfl d12_13 (Ls' := #[.val (.ref sb), .val (.ref a), .val (.int R)]) rfl ?_
  refine Go.aloadN 15 rfl d12_14 rfl rfl ?_
  refine Go.aloadN 16 rfl d12_15 rfl rfl ?_
  refine Go.getF 19 rfl (v := .int (3 : Int32)) 98 d12_16 rfl hN ?_
  refine Go.iloadN 20 rfl d12_19 rfl ?_
  refine Go.iadd 21 rfl d12_20 ?_
  refine Go.callP3 24 rfl (C := B15) sb [.int ((3 : Int32) + R)] (rest := []) 100 101 103 102 50 104 (c15k0 Z hw h0 sb ((3 : Int32) + R) val us hul hm hV hC hA) hE d12_21 rfl rfl rfl rfl rfl rfl (by decide) pd15 rfl rfl rfl (W := 0) (lb rfl) (by decide) (by decide) (by decide) (by decide) fun v104 h105 q106 => ?_
  obtain ⟨rfl, rfl⟩ := q106
  refine Go.aloadN 25 rfl d12_24 rfl rfl ?_
  refine Go.aloadN 26 rfl d12_25 rfl rfl ?_
  refine Go.getF 29 rfl (v := .int (3 : Int32)) 98 d12_26 rfl hN ?_
  refine Go.aloadN 30 rfl d12_29 rfl rfl ?_
  refine Go.callP3 33 rfl (C := B16) sb [.int (3 : Int32), .ref a] (rest := []) 105 106 108 107 50 109 (c16v013 Z hw h0 sb  a   us vs  cs hS hcs hAs hHi hLo hfm val hul L hL hfit s iE iV iC iA hge hE hV hC hN hY hA hgv hne hns) hE d12_30 rfl rfl rfl rfl rfl rfl (by decide) pd16 rfl rfl rfl (W := 0) (lb rfl) (by decide) (by decide) (by decide) (by decide) fun v107 h108 q109 => ?_
  obtain ⟨rfl, t, g, K, jve, jcr, jct, jm1, jar⟩ := q109
  have z110 : Z.heap.size ≤ t := Nat.le_trans hle g
  refine Go.aloadN 34 rfl d12_33 rfl rfl ?_
  refine Go.dup 35 rfl d12_34 rfl ?_
  refine Go.getF 38 rfl (v := .int (3 : Int32)) 98 d12_35 rfl jct ?_
  refine Go.iloadN 39 rfl d12_38 rfl ?_
  refine Go.iadd 40 rfl d12_39 ?_
  have F111 : YEb Z h108 sb := (hE.keep K)
  refine Go.putF 43 rfl (v' := .int ((3 : Int32) + R)) (ty := .int) 98 99 41 d12_40 rfl jct F111 (Or.inl rfl) rfl (by decide) rfl rfl hge fun h112 K113 W114 F115 => ?_
  refine Go.aloadN 44 rfl d12_43 rfl rfl ?_
  have F116 : YBv Z h112 sb (.ref t) := (Fld.oth hw jve W114 55 99 (Or.inl rfl) (Or.inl rfl) (by decide) rfl rfl)
  have F117 : YBc Z h112 sb (.int (1 : Int32)) := (Fld.oth hw jcr W114 57 99 (Or.inl rfl) (Or.inl rfl) (by decide) rfl rfl)
  have F118 : YBm Z h112 sb (.int (0 : Int32)) := (Fld.oth hw jm1 W114 258 99 (Or.inl rfl) (Or.inl rfl) (by decide) rfl rfl)
  have ne119 : t ≠ sb := (show @Ne Nat t sb from by have := ltN hE.lt; have := g; omega)
  have F120 : Ary Z h112 t .byte (IL ((put (put (put (zer 32) (0 + 0) (us.getD 0 0 &&& (255 : Int32))) (0 + 1) (us.getD 1 0 &&& (255 : Int32))) (0 + 2) (us.getD 2 0 &&& (255 : Int32))).take 6 ++ vs ++ (put (put (put (zer 32) (0 + 0) (us.getD 0 0 &&& (255 : Int32))) (0 + 1) (us.getD 1 0 &&& (255 : Int32))) (0 + 2) (us.getD 2 0 &&& (255 : Int32))).drop (6 + vs.length))) := (jar.keep K113 (ninS ne119 nin0))
  exact Go.retA d12_44 rfl rfl rfl (by decide) (by decide) ⟨rfl, t, g, (((Keep.refl h0 [sb]).trans K (by simp)).trans K113 (by simp)), F116, F117, F115, F118, F120⟩
theorem d11_0 : decode jdk_67_method_7_code 0 = .ok (.aload_n 0, 1) := by decide +kernel
theorem d11_1 : decode jdk_67_method_7_code 1 = .ok (.aload_n 1, 1) := by decide +kernel
theorem d11_2 : decode jdk_67_method_7_code 2 = .ok (.invokespecial 29, 3) := by decide +kernel
theorem d11_5 : decode jdk_67_method_7_code 5 = .ok (.pop, 1) := by decide +kernel
theorem d11_6 : decode jdk_67_method_7_code 6 = .ok (.aload_n 0, 1) := by decide +kernel
theorem d11_7 : decode jdk_67_method_7_code 7 = .ok (.areturn, 1) := by decide +kernel
theorem pd11 : parseMethodDescriptor "(Ljava/lang/String;)Ljava/lang/StringBuilder;" = some ⟨[(.object "java/lang/String")], some (.object "java/lang/StringBuilder")⟩ := by decide +kernel
theorem pn11 : plainFor (⟨"java/lang/StringBuilder", "append", "(Ljava/lang/String;)Ljava/lang/StringBuilder;"⟩ : MethodName) = true := by first | (refine plainFor_of_name ?_; simp [plainName, overriddenIn]; done) | (refine plainFor_of_name ?_; decide +kernel) | decide +kernel
abbrev B11 : Bd := ((⟨"java/lang/StringBuilder", "append", "(Ljava/lang/String;)Ljava/lang/StringBuilder;"⟩ : MethodName), jdk_67_method_7_code, 2, (some (.object "java/lang/StringBuilder")), ({ frames := 9, cells := 1, slots := 32, locals := 130 } : Room), tables_1)
def Q11v013 (Z : State) (sb : Addr) (us : List Int32) (vs : List Int32) (R : Int32) (h0 : Heap) (v : Option Value) (h : Heap) : Prop := v = some (.ref sb) ∧ ∃ t, h0.size ≤ t ∧ Keep h0 h [sb] ∧ YBv Z h sb (.ref t) ∧ YBc Z h sb (.int 1) ∧ YBn Z h sb (.int (3 + R)) ∧ YBm Z h sb (.int 0) ∧ Ary Z h t .byte (IL ((put (put (put (zer 32) (0 + 0) (us.getD 0 0 &&& (255 : Int32))) (0 + 1) (us.getD 1 0 &&& (255 : Int32))) (0 + 2) (us.getD 2 0 &&& (255 : Int32))).take 6 ++ vs ++ (put (put (put (zer 32) (0 + 0) (us.getD 0 0 &&& (255 : Int32))) (0 + 1) (us.getD 1 0 &&& (255 : Int32))) (0 + 2) (us.getD 2 0 &&& (255 : Int32))).drop (6 + vs.length)))
theorem c11v013 (Z : State) (hw : Wd Z tables_1) (h0 : Heap) (sb : Addr) (a : Addr) (us : List Int32) (vs : List Int32) (R : Int32) (cs : Int32) (hS : YCs Z cs) (hcs : ¬ cs = 0) (hAs : YAs Z) (hHi : YHi Z) (hLo : YLo Z) (hfm : YFm Z) (val : Addr) (hul : us.length = 16) (L : Int32) (hL : L.toInt = (IL vs).length) (hfit : 6 + vs.length ≤ 32) (hR : L >>> ((1 : Int32) &&& 31) = R) (hm : ¬ (0 : Int32) < ((3 : Int32) + R) - (16 : Int32)) (s : Addr) (iE : YEs Z h0 a) (iV : YSv Z h0 a (.ref s)) (iC : YSc Z h0 a (.int 1)) (iA : Ary Z h0 s .byte (IL vs)) (hge : Z.heap.size ≤ sb) (hE : YEb Z h0 sb) (hV : YBv Z h0 sb (.ref val)) (hC : YBc Z h0 sb (.int 0)) (hN : YBn Z h0 sb (.int 3)) (hY : YBm Z h0 sb (.int 0)) (hA : Ary Z h0 val .byte (IL us)) (hgv : Z.heap.size ≤ val) (hne : s ≠ val) (hns : a ≠ sb) : Con Z B11 (List.toArray [.ref sb, .ref a]) h0 (Q11v013 Z sb us vs R h0) := by
  refine Con.mk (Ls := #[.val (.ref sb), .val (.ref a)]) hw pn11 (fun mid => by first | (simp [entryFrame, mkF, argsToLocals, Value.category, Jvm.Ow.Bd.ml, B11]; done) | rfl) (Go.old fun hle' => ?_)
  have hle := hle'.1
  refine Go.aloadN 1 rfl d11_0 rfl rfl ?_
  refine Go.aloadN 2 rfl d11_1 rfl rfl ?_
  refine Go.callU 5 rfl (C := B12) sb [.ref a] (rest := []) 82 83 50 86 84 103 (c12v013 Z hw h0 sb a us vs R cs hS hcs hAs hHi hLo hfm val hul L hL hfit hR hm s iE iV iC iA hge hE hV hC hN hY hA hgv hne hns) (Ins.self hE) d11_2 rfl rfl rfl rfl rfl rfl rfl (by decide) (by decide) pd12 rfl rfl rfl (W := 0) (lb rfl) (by decide) (by decide) (by decide) (by decide) fun v101 h102 q103 => ?_
  obtain ⟨rfl, RR⟩ := q103
  refine Go.pop 6 rfl d11_5 rfl ?_
  refine Go.aloadN 7 rfl d11_6 rfl rfl ?_
  exact Go.retA d11_7 rfl rfl rfl (by decide) (by decide) ⟨rfl, RR⟩
def Q16v012 (Z : State) (sb : Addr) (us : List Int32) (vs : List Int32) (h0 : Heap) (v : Option Value) (h : Heap) : Prop := v = none ∧ ∃ t, h0.size ≤ t ∧ Keep h0 h [sb] ∧ YBv Z h sb (.ref t) ∧ YBc Z h sb (.int 1) ∧ YBn Z h sb (.int 2) ∧ YBm Z h sb (.int 0) ∧ Ary Z h t .byte (IL ((put (put (zer 32) (0 + 0) (us.getD 0 0 &&& (255 : Int32))) (0 + 1) (us.getD 1 0 &&& (255 : Int32))).take 4 ++ vs ++ (put (put (zer 32) (0 + 0) (us.getD 0 0 &&& (255 : Int32))) (0 + 1) (us.getD 1 0 &&& (255 : Int32))).drop (4 + vs.length)))
theorem c16v012 (Z : State) (hw : Wd Z tables_1) (h0 : Heap) (sb : Addr) (a : Addr) (us : List Int32) (vs : List Int32) (cs : Int32) (hS : YCs Z cs) (hcs : ¬ cs = 0) (hAs : YAs Z) (hHi : YHi Z) (hLo : YLo Z) (hfm : YFm Z) (val : Addr) (hul : us.length = 16) (L : Int32) (hL : L.toInt = (IL vs).length) (hfit : 4 + vs.length ≤ 32) (s : Addr) (iE : YEs Z h0 a) (iV : YSv Z h0 a (.ref s)) (iC : YSc Z h0 a (.int 1)) (iA : Ary Z h0 s .byte (IL vs)) (hge : Z.heap.size ≤ sb) (hE : YEb Z h0 sb) (hV : YBv Z h0 sb (.ref val)) (hC : YBc Z h0 sb (.int 0)) (hN : YBn Z h0 sb (.int 2)) (hY : YBm Z h0 sb (.int 0)) (hA : Ary Z h0 val .byte (IL us)) (hgv : Z.heap.size ≤ val) (hne : s ≠ val) (hns : a ≠ sb) : Con Z B16 (List.toArray [.ref sb, .int (2 : Int32), .ref a]) h0 (Q16v012 Z sb us vs h0) := by
  refine Con.mk (Ls := #[.val (.ref sb), .val (.int (2 : Int32)), .val (.ref a)]) hw pn16 (fun mid => by first | (simp [entryFrame, mkF, argsToLocals, Value.category, Jvm.Ow.Bd.ml, B16]; done) | rfl) (Go.old fun hle' => ?_)
  have hle := hle'.1
  have hvs : val ≠ sb := own_na hw 41 rfl hE hA
  have hss : s ≠ sb := own_na hw 41 rfl hE iA
  refine Go.aloadN 1 rfl d16_0 rfl rfl ?_
  refine Go.aloadN 2 rfl d16_1 rfl rfl ?_
  refine Go.callP3 5 rfl (C := B17) sb [.ref a] (rest := []) 110 111 113 112 50 114 (c17n2 Z hw h0 sb a us cs hS hcs hAs hHi hLo hfm val hul hge hE hV hC hN hY hA hgv iE iC) hE d16_2 rfl rfl rfl rfl rfl rfl (by decide) pd17 rfl rfl rfl (W := 0) (lb rfl) (by decide) (by decide) (by decide) (by decide) fun v101 h102 q103 => ?_
  obtain ⟨rfl, t, g, K, jve, jcr, jct, jm1, jar⟩ := q103
  have z104 : Z.heap.size ≤ t := Nat.le_trans hle g
  refine Go.aloadN 6 rfl d16_5 rfl rfl ?_
  refine Go.aloadN 7 rfl d16_6 rfl rfl ?_
  refine Go.getF 10 rfl (v := .ref t) 54 d16_7 rfl jve ?_
  refine Go.iloadN 11 rfl d16_10 rfl ?_
  refine Go.aloadN 12 rfl d16_11 rfl rfl ?_
  refine Go.getF 15 rfl (v := .int (1 : Int32)) 56 d16_12 rfl jcr ?_
  have F105 : YEs Z h102 a := (iE.keep K)
  have F106 : YSv Z h102 a (.ref s) := (iV.keep K (ninS hns nin0))
  have F107 : YSc Z h102 a (.int (1 : Int32)) := (iC.keep K (ninS hns nin0))
  have F108 : Ary Z h102 s .byte (IL vs) := (iA.keep K (ninS hss nin0))
  have ne109 : s ≠ t := (show @Ne Nat s t from by have := ltN iA.lt; have := g; omega)
  refine Go.callV 18 rfl (C := B18) a [.ref t, .int (2 : Int32), .int (1 : Int32)] (rest := []) 116 117 119 118 20 120 (c18k1 Z hw h102 a t (2 : Int32) (put (put (zer 32) (0 + 0) (us.getD 0 0 &&& (255 : Int32))) (0 + 1) (us.getD 1 0 &&& (255 : Int32))) vs 4 cs hS hcs (4 : Int32) (by decide) rfl L hL (by simp only [own_putl, zer, List.length_replicate]; omega) s F105 F106 F107 F108 jar z104 ne109) F105 d16_15 rfl rfl rfl rfl rfl rfl (by decide) pd18 rfl rfl rfl (W := 0) (lb rfl) (by decide) (by decide) (by decide) (by decide) fun v110 h111 q112 => ?_
  obtain ⟨rfl, K2, A2⟩ := q112
  have ne113 : sb ≠ t := (show @Ne Nat sb t from by have := ltN hE.lt; have := g; omega)
  have F114 : YBv Z h111 sb (.ref t) := (jve.keep K2 (ninS ne113 nin0))
  have F115 : YBc Z h111 sb (.int (1 : Int32)) := (jcr.keep K2 (ninS ne113 nin0))
  have F116 : YBn Z h111 sb (.int (2 : Int32)) := (jct.keep K2 (ninS ne113 nin0))
  have F117 : YBm Z h111 sb (.int (0 : Int32)) := (jm1.keep K2 (ninS ne113 nin0))
  exact Go.retV d16_18 rfl (by decide) (by decide) ⟨rfl, t, g, (((Keep.refl h0 [sb]).trans K (by simp)).trans K2 (allS (Or.inr g) all0)), F114, F115, F116, F117, A2⟩
def Q12v012 (Z : State) (sb : Addr) (us : List Int32) (vs : List Int32) (R : Int32) (h0 : Heap) (v : Option Value) (h : Heap) : Prop := v = some (.ref sb) ∧ ∃ t, h0.size ≤ t ∧ Keep h0 h [sb] ∧ YBv Z h sb (.ref t) ∧ YBc Z h sb (.int 1) ∧ YBn Z h sb (.int (2 + R)) ∧ YBm Z h sb (.int 0) ∧ Ary Z h t .byte (IL ((put (put (zer 32) (0 + 0) (us.getD 0 0 &&& (255 : Int32))) (0 + 1) (us.getD 1 0 &&& (255 : Int32))).take 4 ++ vs ++ (put (put (zer 32) (0 + 0) (us.getD 0 0 &&& (255 : Int32))) (0 + 1) (us.getD 1 0 &&& (255 : Int32))).drop (4 + vs.length)))
theorem c12v012 (Z : State) (hw : Wd Z tables_1) (h0 : Heap) (sb : Addr) (a : Addr) (us : List Int32) (vs : List Int32) (R : Int32) (cs : Int32) (hS : YCs Z cs) (hcs : ¬ cs = 0) (hAs : YAs Z) (hHi : YHi Z) (hLo : YLo Z) (hfm : YFm Z) (val : Addr) (hul : us.length = 16) (L : Int32) (hL : L.toInt = (IL vs).length) (hfit : 4 + vs.length ≤ 32) (hR : L >>> ((1 : Int32) &&& 31) = R) (hm : ¬ (0 : Int32) < ((2 : Int32) + R) - (16 : Int32)) (s : Addr) (iE : YEs Z h0 a) (iV : YSv Z h0 a (.ref s)) (iC : YSc Z h0 a (.int 1)) (iA : Ary Z h0 s .byte (IL vs)) (hge : Z.heap.size ≤ sb) (hE : YEb Z h0 sb) (hV : YBv Z h0 sb (.ref val)) (hC : YBc Z h0 sb (.int 0)) (hN : YBn Z h0 sb (.int 2)) (hY : YBm Z h0 sb (.int 0)) (hA : Ary Z h0 val .byte (IL us)) (hgv : Z.heap.size ≤ val) (hne : s ≠ val) (hns : a ≠ sb) : Con Z B12 (List.toArray [.ref sb, .ref a]) h0 (Q12v012 Z sb us vs R h0) := by
  refine Con.mk (Ls := #[.val (.ref sb), .val (.ref a), .unset]) hw pn12 (fun mid => by first | (simp [entryFrame, mkF, argsToLocals, Value.category, Jvm.Ow.Bd.ml, B12]; done) | rfl) (Go.old fun hle' => ?_)
  have hle := hle'.1
  have hvs : val ≠ sb := own_na hw 41 rfl hE hA
  have hss : s ≠ sb := own_na hw 41 rfl hE iA
  refine Go.aloadN 1 rfl d12_0 rfl rfl ?_
  refine Go.ifnonnull_r 9 d12_1 (by decide) rfl ?_
  refine Go.aloadN 10 rfl d12_9 rfl rfl ?_
  refine Go.callV 13 rfl (C := B13) a [] (rest := []) 87 88 90 89 20 91 (c13k1 Z hw h0 a R cs hS hcs s (IL vs) L hL hR iE iV iC iA) iE d12_10 rfl rfl rfl rfl rfl rfl (by decide) pd13 rfl rfl rfl (W := 0) (lb rfl) (by decide) (by decide) (by decide) (by decide) fun v101 h102 q103 => ?_
  obtain ⟨rfl, rfl⟩ := q103
  refine Go.istoreN 14 rfl d12_13 (Ls' := #[.val (.ref sb), .val (.ref a), .val (.int R)]) rfl ?_
  refine Go.aloadN 15 rfl d12_14 rfl rfl ?_
  refine Go.aloadN 16 rfl d12_15 rfl rfl ?_
  refine Go.getF 19 rfl (v := .int (2 : Int32)) 98 d12_16 rfl hN ?_
  refine Go.iloadN 20 rfl d12_19 rfl ?_
  refine Go.iadd 21 rfl d12_20 ?_
  refine Go.callP3 24 rfl (C := B15) sb [.int ((2 : Int32) + R)] (rest := []) 100 101 103 102 50 104 (c15k0 Z hw h0 sb ((2 : Int32) + R) val us hul hm hV hC hA) hE d12_21 rfl rfl rfl rfl rfl rfl (by decide) pd15 rfl rfl rfl (W := 0) (lb rfl) (by decide) (by decide) (by decide) (by decide) fun v104 h105 q106 => ?_
  obtain ⟨rfl, rfl⟩ := q106
  refine Go.aloadN 25 rfl d12_24 rfl rfl ?_
  refine Go.aloadN 26 rfl d12_25 rfl rfl ?_
  refine Go.getF 29 rfl (v := .int (2 : Int32)) 98 d12_26 rfl hN ?_
  refine Go.aloadN 30 rfl d12_29 rfl rfl ?_
  refine Go.callP3 33 rfl (C := B16) sb [.int (2 : Int32), .ref a] (rest := []) 105 106 108 107 50 109 (c16v012 Z hw h0 sb  a   us vs  cs hS hcs hAs hHi hLo hfm val hul L hL hfit s iE iV iC iA hge hE hV hC hN hY hA hgv hne hns) hE d12_30 rfl rfl rfl rfl rfl rfl (by decide) pd16 rfl rfl rfl (W := 0) (lb rfl) (by decide) (by decide) (by decide) (by decide) fun v107 h108 q109 => ?_
  obtain ⟨rfl, t, g, K, jve, jcr, jct, jm1, jar⟩ := q109
  have z110 : Z.heap.size ≤ t := Nat.le_trans hle g
  refine Go.aloadN 34 rfl d12_33 rfl rfl ?_
  refine Go.dup 35 rfl d12_34 rfl ?_
  refine Go.getF 38 rfl (v := .int (2 : Int32)) 98 d12_35 rfl jct ?_
  refine Go.iloadN 39 rfl d12_38 rfl ?_
  refine Go.iadd 40 rfl d12_39 ?_
  have F111 : YEb Z h108 sb := (hE.keep K)
  refine Go.putF 43 rfl (v' := .int ((2 : Int32) + R)) (ty := .int) 98 99 41 d12_40 rfl jct F111 (Or.inl rfl) rfl (by decide) rfl rfl hge fun h112 K113 W114 F115 => ?_
  refine Go.aloadN 44 rfl d12_43 rfl rfl ?_
  have F116 : YBv Z h112 sb (.ref t) := (Fld.oth hw jve W114 55 99 (Or.inl rfl) (Or.inl rfl) (by decide) rfl rfl)
  have F117 : YBc Z h112 sb (.int (1 : Int32)) := (Fld.oth hw jcr W114 57 99 (Or.inl rfl) (Or.inl rfl) (by decide) rfl rfl)
  have F118 : YBm Z h112 sb (.int (0 : Int32)) := (Fld.oth hw jm1 W114 258 99 (Or.inl rfl) (Or.inl rfl) (by decide) rfl rfl)
  have ne119 : t ≠ sb := (show @Ne Nat t sb from by have := ltN hE.lt; have := g; omega)
  have F120 : Ary Z h112 t .byte (IL ((put (put (zer 32) (0 + 0) (us.getD 0 0 &&& (255 : Int32))) (0 + 1) (us.getD 1 0 &&& (255 : Int32))).take 4 ++ vs ++ (put (put (zer 32) (0 + 0) (us.getD 0 0 &&& (255 : Int32))) (0 + 1) (us.getD 1 0 &&& (255 : Int32))).drop (4 + vs.length))) := (jar.keep K113 (ninS ne119 nin0))
  exact Go.retA d12_44 rfl rfl rfl (by decide) (by decide) ⟨rfl, t, g, (((Keep.refl h0 [sb]).trans K (by simp)).trans K113 (by simp)), F116, F117, F115, F118, F120⟩
def Q11v012 (Z : State) (sb : Addr) (us : List Int32) (vs : List Int32) (R : Int32) (h0 : Heap) (v : Option Value) (h : Heap) : Prop := v = some (.ref sb) ∧ ∃ t, h0.size ≤ t ∧ Keep h0 h [sb] ∧ YBv Z h sb (.ref t) ∧ YBc Z h sb (.int 1) ∧ YBn Z h sb (.int (2 + R)) ∧ YBm Z h sb (.int 0) ∧ Ary Z h t .byte (IL ((put (put (zer 32) (0 + 0) (us.getD 0 0 &&& (255 : Int32))) (0 + 1) (us.getD 1 0 &&& (255 : Int32))).take 4 ++ vs ++ (put (put (zer 32) (0 + 0) (us.getD 0 0 &&& (255 : Int32))) (0 + 1) (us.getD 1 0 &&& (255 : Int32))).drop (4 + vs.length)))
theorem c11v012 (Z : State) (hw : Wd Z tables_1) (h0 : Heap) (sb : Addr) (a : Addr) (us : List Int32) (vs : List Int32) (R : Int32) (cs : Int32) (hS : YCs Z cs) (hcs : ¬ cs = 0) (hAs : YAs Z) (hHi : YHi Z) (hLo : YLo Z) (hfm : YFm Z) (val : Addr) (hul : us.length = 16) (L : Int32) (hL : L.toInt = (IL vs).length) (hfit : 4 + vs.length ≤ 32) (hR : L >>> ((1 : Int32) &&& 31) = R) (hm : ¬ (0 : Int32) < ((2 : Int32) + R) - (16 : Int32)) (s : Addr) (iE : YEs Z h0 a) (iV : YSv Z h0 a (.ref s)) (iC : YSc Z h0 a (.int 1)) (iA : Ary Z h0 s .byte (IL vs)) (hge : Z.heap.size ≤ sb) (hE : YEb Z h0 sb) (hV : YBv Z h0 sb (.ref val)) (hC : YBc Z h0 sb (.int 0)) (hN : YBn Z h0 sb (.int 2)) (hY : YBm Z h0 sb (.int 0)) (hA : Ary Z h0 val .byte (IL us)) (hgv : Z.heap.size ≤ val) (hne : s ≠ val) (hns : a ≠ sb) : Con Z B11 (List.toArray [.ref sb, .ref a]) h0 (Q11v012 Z sb us vs R h0) := by
  refine Con.mk (Ls := #[.val (.ref sb), .val (.ref a)]) hw pn11 (fun mid => by first | (simp [entryFrame, mkF, argsToLocals, Value.category, Jvm.Ow.Bd.ml, B11]; done) | rfl) (Go.old fun hle' => ?_)
  have hle := hle'.1
  refine Go.aloadN 1 rfl d11_0 rfl rfl ?_
  refine Go.aloadN 2 rfl d11_1 rfl rfl ?_
  refine Go.callU 5 rfl (C := B12) sb [.ref a] (rest := []) 82 83 50 86 84 103 (c12v012 Z hw h0 sb a us vs R cs hS hcs hAs hHi hLo hfm val hul L hL hfit hR hm s iE iV iC iA hge hE hV hC hN hY hA hgv hne hns) (Ins.self hE) d11_2 rfl rfl rfl rfl rfl rfl rfl (by decide) (by decide) pd12 rfl rfl rfl (W := 0) (lb rfl) (by decide) (by decide) (by decide) (by decide) fun v101 h102 q103 => ?_
  obtain ⟨rfl, RR⟩ := q103
  refine Go.pop 6 rfl d11_5 rfl ?_
  refine Go.aloadN 7 rfl d11_6 rfl rfl ?_
  exact Go.retA d11_7 rfl rfl rfl (by decide) (by decide) ⟨rfl, RR⟩
def Q16v011 (Z : State) (sb : Addr) (us : List Int32) (vs : List Int32) (h0 : Heap) (v : Option Value) (h : Heap) : Prop := v = none ∧ ∃ t, h0.size ≤ t ∧ Keep h0 h [sb] ∧ YBv Z h sb (.ref t) ∧ YBc Z h sb (.int 1) ∧ YBn Z h sb (.int 1) ∧ YBm Z h sb (.int 0) ∧ Ary Z h t .byte (IL ((put (zer 32) (0 + 0) (us.getD 0 0 &&& (255 : Int32))).take 2 ++ vs ++ (put (zer 32) (0 + 0) (us.getD 0 0 &&& (255 : Int32))).drop (2 + vs.length)))
theorem c16v011 (Z : State) (hw : Wd Z tables_1) (h0 : Heap) (sb : Addr) (a : Addr) (us : List Int32) (vs : List Int32) (cs : Int32) (hS : YCs Z cs) (hcs : ¬ cs = 0) (hAs : YAs Z) (hHi : YHi Z) (hLo : YLo Z) (hfm : YFm Z) (val : Addr) (hul : us.length = 16) (L : Int32) (hL : L.toInt = (IL vs).length) (hfit : 2 + vs.length ≤ 32) (s : Addr) (iE : YEs Z h0 a) (iV : YSv Z h0 a (.ref s)) (iC : YSc Z h0 a (.int 1)) (iA : Ary Z h0 s .byte (IL vs)) (hge : Z.heap.size ≤ sb) (hE : YEb Z h0 sb) (hV : YBv Z h0 sb (.ref val)) (hC : YBc Z h0 sb (.int 0)) (hN : YBn Z h0 sb (.int 1)) (hY : YBm Z h0 sb (.int 0)) (hA : Ary Z h0 val .byte (IL us)) (hgv : Z.heap.size ≤ val) (hne : s ≠ val) (hns : a ≠ sb) : Con Z B16 (List.toArray [.ref sb, .int (1 : Int32), .ref a]) h0 (Q16v011 Z sb us vs h0) := by
  refine Con.mk (Ls := #[.val (.ref sb), .val (.int (1 : Int32)), .val (.ref a)]) hw pn16 (fun mid => by first | (simp [entryFrame, mkF, argsToLocals, Value.category, Jvm.Ow.Bd.ml, B16]; done) | rfl) (Go.old fun hle' => ?_)
  have hle := hle'.1
  have hvs : val ≠ sb := own_na hw 41 rfl hE hA
  have hss : s ≠ sb := own_na hw 41 rfl hE iA
  refine Go.aloadN 1 rfl d16_0 rfl rfl ?_
  refine Go.aloadN 2 rfl d16_1 rfl rfl ?_
  refine Go.callP3 5 rfl (C := B17) sb [.ref a] (rest := []) 110 111 113 112 50 114 (c17n1 Z hw h0 sb a us cs hS hcs hAs hHi hLo hfm val hul hge hE hV hC hN hY hA hgv iE iC) hE d16_2 rfl rfl rfl rfl rfl rfl (by decide) pd17 rfl rfl rfl (W := 0) (lb rfl) (by decide) (by decide) (by decide) (by decide) fun v101 h102 q103 => ?_
  obtain ⟨rfl, t, g, K, jve, jcr, jct, jm1, jar⟩ := q103
  have z104 : Z.heap.size ≤ t := Nat.le_trans hle g
  refine Go.aloadN 6 rfl d16_5 rfl rfl ?_
  refine Go.aloadN 7 rfl d16_6 rfl rfl ?_
  refine Go.getF 10 rfl (v := .ref t) 54 d16_7 rfl jve ?_
  refine Go.iloadN 11 rfl d16_10 rfl ?_
  refine Go.aloadN 12 rfl d16_11 rfl rfl ?_
  refine Go.getF 15 rfl (v := .int (1 : Int32)) 56 d16_12 rfl jcr ?_
  have F105 : YEs Z h102 a := (iE.keep K)
  have F106 : YSv Z h102 a (.ref s) := (iV.keep K (ninS hns nin0))
  have F107 : YSc Z h102 a (.int (1 : Int32)) := (iC.keep K (ninS hns nin0))
  have F108 : Ary Z h102 s .byte (IL vs) := (iA.keep K (ninS hss nin0))
  have ne109 : s ≠ t := (show @Ne Nat s t from by have := ltN iA.lt; have := g; omega)
  refine Go.callV 18 rfl (C := B18) a [.ref t, .int (1 : Int32), .int (1 : Int32)] (rest := []) 116 117 119 118 20 120 (c18k1 Z hw h102 a t (1 : Int32) (put (zer 32) (0 + 0) (us.getD 0 0 &&& (255 : Int32))) vs 2 cs hS hcs (2 : Int32) (by decide) rfl L hL (by simp only [own_putl, zer, List.length_replicate]; omega) s F105 F106 F107 F108 jar z104 ne109) F105 d16_15 rfl rfl rfl rfl rfl rfl (by decide) pd18 rfl rfl rfl (W := 0) (lb rfl) (by decide) (by decide) (by decide) (by decide) fun v110 h111 q112 => ?_
  obtain ⟨rfl, K2, A2⟩ := q112
  have ne113 : sb ≠ t := (show @Ne Nat sb t from by have := ltN hE.lt; have := g; omega)
  have F114 : YBv Z h111 sb (.ref t) := (jve.keep K2 (ninS ne113 nin0))
  have F115 : YBc Z h111 sb (.int (1 : Int32)) := (jcr.keep K2 (ninS ne113 nin0))
  have F116 : YBn Z h111 sb (.int (1 : Int32)) := (jct.keep K2 (ninS ne113 nin0))
  have F117 : YBm Z h111 sb (.int (0 : Int32)) := (jm1.keep K2 (ninS ne113 nin0))
  exact Go.retV d16_18 rfl (by decide) (by decide) ⟨rfl, t, g, (((Keep.refl h0 [sb]).trans K (by simp)).trans K2 (allS (Or.inr g) all0)), F114, F115, F116, F117, A2⟩
def Q12v011 (Z : State) (sb : Addr) (us : List Int32) (vs : List Int32) (R : Int32) (h0 : Heap) (v : Option Value) (h : Heap) : Prop := v = some (.ref sb) ∧ ∃ t, h0.size ≤ t ∧ Keep h0 h [sb] ∧ YBv Z h sb (.ref t) ∧ YBc Z h sb (.int 1) ∧ YBn Z h sb (.int (1 + R)) ∧ YBm Z h sb (.int 0) ∧ Ary Z h t .byte (IL ((put (zer 32) (0 + 0) (us.getD 0 0 &&& (255 : Int32))).take 2 ++ vs ++ (put (zer 32) (0 + 0) (us.getD 0 0 &&& (255 : Int32))).drop (2 + vs.length)))
theorem c12v011 (Z : State) (hw : Wd Z tables_1) (h0 : Heap) (sb : Addr) (a : Addr) (us : List Int32) (vs : List Int32) (R : Int32) (cs : Int32) (hS : YCs Z cs) (hcs : ¬ cs = 0) (hAs : YAs Z) (hHi : YHi Z) (hLo : YLo Z) (hfm : YFm Z) (val : Addr) (hul : us.length = 16) (L : Int32) (hL : L.toInt = (IL vs).length) (hfit : 2 + vs.length ≤ 32) (hR : L >>> ((1 : Int32) &&& 31) = R) (hm : ¬ (0 : Int32) < ((1 : Int32) + R) - (16 : Int32)) (s : Addr) (iE : YEs Z h0 a) (iV : YSv Z h0 a (.ref s)) (iC : YSc Z h0 a (.int 1)) (iA : Ary Z h0 s .byte (IL vs)) (hge : Z.heap.size ≤ sb) (hE : YEb Z h0 sb) (hV : YBv Z h0 sb (.ref val)) (hC : YBc Z h0 sb (.int 0)) (hN : YBn Z h0 sb (.int 1)) (hY : YBm Z h0 sb (.int 0)) (hA : Ary Z h0 val .byte (IL us)) (hgv : Z.heap.size ≤ val) (hne : s ≠ val) (hns : a ≠ sb) : Con Z B12 (List.toArray [.ref sb, .ref a]) h0 (Q12v011 Z sb us vs R h0) := by
  refine Con.mk (Ls := #[.val (.ref sb), .val (.ref a), .unset]) hw pn12 (fun mid => by first | (simp [entryFrame, mkF, argsToLocals, Value.category, Jvm.Ow.Bd.ml, B12]; done) | rfl) (Go.old fun hle' => ?_)
  have hle := hle'.1
  have hvs : val ≠ sb := own_na hw 41 rfl hE hA
  have hss : s ≠ sb := own_na hw 41 rfl hE iA
  refine Go.aloadN 1 rfl d12_0 rfl rfl ?_
  refine Go.ifnonnull_r 9 d12_1 (by decide) rfl ?_
  refine Go.aloadN 10 rfl d12_9 rfl rfl ?_
  refine Go.callV 13 rfl (C := B13) a [] (rest := []) 87 88 90 89 20 91 (c13k1 Z hw h0 a R cs hS hcs s (IL vs) L hL hR iE iV iC iA) iE d12_10 rfl rfl rfl rfl rfl rfl (by decide) pd13 rfl rfl rfl (W := 0) (lb rfl) (by decide) (by decide) (by decide) (by decide) fun v101 h102 q103 => ?_
  obtain ⟨rfl, rfl⟩ := q103
  refine Go.istoreN 14 rfl d12_13 (Ls' := #[.val (.ref sb), .val (.ref a), .val (.int R)]) rfl ?_
  refine Go.aloadN 15 rfl d12_14 rfl rfl ?_
  refine Go.aloadN 16 rfl d12_15 rfl rfl ?_
  refine Go.getF 19 rfl (v := .int (1 : Int32)) 98 d12_16 rfl hN ?_
  refine Go.iloadN 20 rfl d12_19 rfl ?_
  refine Go.iadd 21 rfl d12_20 ?_
  refine Go.callP3 24 rfl (C := B15) sb [.int ((1 : Int32) + R)] (rest := []) 100 101 103 102 50 104 (c15k0 Z hw h0 sb ((1 : Int32) + R) val us hul hm hV hC hA) hE d12_21 rfl rfl rfl rfl rfl rfl (by decide) pd15 rfl rfl rfl (W := 0) (lb rfl) (by decide) (by decide) (by decide) (by decide) fun v104 h105 q106 => ?_
  obtain ⟨rfl, rfl⟩ := q106
  refine Go.aloadN 25 rfl d12_24 rfl rfl ?_
  refine Go.aloadN 26 rfl d12_25 rfl rfl ?_
  refine Go.getF 29 rfl (v := .int (1 : Int32)) 98 d12_26 rfl hN ?_
  refine Go.aloadN 30 rfl d12_29 rfl rfl ?_
  refine Go.callP3 33 rfl (C := B16) sb [.int (1 : Int32), .ref a] (rest := []) 105 106 108 107 50 109 (c16v011 Z hw h0 sb  a   us vs  cs hS hcs hAs hHi hLo hfm val hul L hL hfit s iE iV iC iA hge hE hV hC hN hY hA hgv hne hns) hE d12_30 rfl rfl rfl rfl rfl rfl (by decide) pd16 rfl rfl rfl (W := 0) (lb rfl) (by decide) (by decide) (by decide) (by decide) fun v107 h108 q109 => ?_
  obtain ⟨rfl, t, g, K, jve, jcr, jct, jm1, jar⟩ := q109
  have z110 : Z.heap.size ≤ t := Nat.le_trans hle g
  refine Go.aloadN 34 rfl d12_33 rfl rfl ?_
  refine Go.dup 35 rfl d12_34 rfl ?_
  refine Go.getF 38 rfl (v := .int (1 : Int32)) 98 d12_35 rfl jct ?_
  refine Go.iloadN 39 rfl d12_38 rfl ?_
  refine Go.iadd 40 rfl d12_39 ?_
  have F111 : YEb Z h108 sb := (hE.keep K)
  refine Go.putF 43 rfl (v' := .int ((1 : Int32) + R)) (ty := .int) 98 99 41 d12_40 rfl jct F111 (Or.inl rfl) rfl (by decide) rfl rfl hge fun h112 K113 W114 F115 => ?_
  refine Go.aloadN 44 rfl d12_43 rfl rfl ?_
  have F116 : YBv Z h112 sb (.ref t) := (Fld.oth hw jve W114 55 99 (Or.inl rfl) (Or.inl rfl) (by decide) rfl rfl)
  have F117 : YBc Z h112 sb (.int (1 : Int32)) := (Fld.oth hw jcr W114 57 99 (Or.inl rfl) (Or.inl rfl) (by decide) rfl rfl)
  have F118 : YBm Z h112 sb (.int (0 : Int32)) := (Fld.oth hw jm1 W114 258 99 (Or.inl rfl) (Or.inl rfl) (by decide) rfl rfl)
  have ne119 : t ≠ sb := (show @Ne Nat t sb from by have := ltN hE.lt; have := g; omega)
  have F120 : Ary Z h112 t .byte (IL ((put (zer 32) (0 + 0) (us.getD 0 0 &&& (255 : Int32))).take 2 ++ vs ++ (put (zer 32) (0 + 0) (us.getD 0 0 &&& (255 : Int32))).drop (2 + vs.length))) := (jar.keep K113 (ninS ne119 nin0))
  exact Go.retA d12_44 rfl rfl rfl (by decide) (by decide) ⟨rfl, t, g, (((Keep.refl h0 [sb]).trans K (by simp)).trans K113 (by simp)), F116, F117, F115, F118, F120⟩
def Q11v011 (Z : State) (sb : Addr) (us : List Int32) (vs : List Int32) (R : Int32) (h0 : Heap) (v : Option Value) (h : Heap) : Prop := v = some (.ref sb) ∧ ∃ t, h0.size ≤ t ∧ Keep h0 h [sb] ∧ YBv Z h sb (.ref t) ∧ YBc Z h sb (.int 1) ∧ YBn Z h sb (.int (1 + R)) ∧ YBm Z h sb (.int 0) ∧ Ary Z h t .byte (IL ((put (zer 32) (0 + 0) (us.getD 0 0 &&& (255 : Int32))).take 2 ++ vs ++ (put (zer 32) (0 + 0) (us.getD 0 0 &&& (255 : Int32))).drop (2 + vs.length)))
theorem c11v011 (Z : State) (hw : Wd Z tables_1) (h0 : Heap) (sb : Addr) (a : Addr) (us : List Int32) (vs : List Int32) (R : Int32) (cs : Int32) (hS : YCs Z cs) (hcs : ¬ cs = 0) (hAs : YAs Z) (hHi : YHi Z) (hLo : YLo Z) (hfm : YFm Z) (val : Addr) (hul : us.length = 16) (L : Int32) (hL : L.toInt = (IL vs).length) (hfit : 2 + vs.length ≤ 32) (hR : L >>> ((1 : Int32) &&& 31) = R) (hm : ¬ (0 : Int32) < ((1 : Int32) + R) - (16 : Int32)) (s : Addr) (iE : YEs Z h0 a) (iV : YSv Z h0 a (.ref s)) (iC : YSc Z h0 a (.int 1)) (iA : Ary Z h0 s .byte (IL vs)) (hge : Z.heap.size ≤ sb) (hE : YEb Z h0 sb) (hV : YBv Z h0 sb (.ref val)) (hC : YBc Z h0 sb (.int 0)) (hN : YBn Z h0 sb (.int 1)) (hY : YBm Z h0 sb (.int 0)) (hA : Ary Z h0 val .byte (IL us)) (hgv : Z.heap.size ≤ val) (hne : s ≠ val) (hns : a ≠ sb) : Con Z B11 (List.toArray [.ref sb, .ref a]) h0 (Q11v011 Z sb us vs R h0) := by
  refine Con.mk (Ls := #[.val (.ref sb), .val (.ref a)]) hw pn11 (fun mid => by first | (simp [entryFrame, mkF, argsToLocals, Value.category, Jvm.Ow.Bd.ml, B11]; done) | rfl) (Go.old fun hle' => ?_)
  have hle := hle'.1
  refine Go.aloadN 1 rfl d11_0 rfl rfl ?_
  refine Go.aloadN 2 rfl d11_1 rfl rfl ?_
  refine Go.callU 5 rfl (C := B12) sb [.ref a] (rest := []) 82 83 50 86 84 103 (c12v011 Z hw h0 sb a us vs R cs hS hcs hAs hHi hLo hfm val hul L hL hfit hR hm s iE iV iC iA hge hE hV hC hN hY hA hgv hne hns) (Ins.self hE) d11_2 rfl rfl rfl rfl rfl rfl rfl (by decide) (by decide) pd12 rfl rfl rfl (W := 0) (lb rfl) (by decide) (by decide) (by decide) (by decide) fun v101 h102 q103 => ?_
  obtain ⟨rfl, RR⟩ := q103
  refine Go.pop 6 rfl d11_5 rfl ?_
  refine Go.aloadN 7 rfl d11_6 rfl rfl ?_
  exact Go.retA d11_7 rfl rfl rfl (by decide) (by decide) ⟨rfl, RR⟩
def Q16v010 (Z : State) (sb : Addr) (us : List Int32) (vs : List Int32) (h0 : Heap) (v : Option Value) (h : Heap) : Prop := v = none ∧ ∃ t, h0.size ≤ t ∧ Keep h0 h [sb] ∧ YBv Z h sb (.ref t) ∧ YBc Z h sb (.int 1) ∧ YBn Z h sb (.int 0) ∧ YBm Z h sb (.int 0) ∧ Ary Z h t .byte (IL ((zer 32).take 0 ++ vs ++ (zer 32).drop (0 + vs.length)))
theorem c16v010 (Z : State) (hw : Wd Z tables_1) (h0 : Heap) (sb : Addr) (a : Addr) (us : List Int32) (vs : List Int32) (cs : Int32) (hS : YCs Z cs) (hcs : ¬ cs = 0) (hAs : YAs Z) (hHi : YHi Z) (hLo : YLo Z) (hfm : YFm Z) (val : Addr) (hul : us.length = 16) (L : Int32) (hL : L.toInt = (IL vs).length) (hfit : 0 + vs.length ≤ 32) (s : Addr) (iE : YEs Z h0 a) (iV : YSv Z h0 a (.ref s)) (iC : YSc Z h0 a (.int 1)) (iA : Ary Z h0 s .byte (IL vs)) (hge : Z.heap.size ≤ sb) (hE : YEb Z h0 sb) (hV : YBv Z h0 sb (.ref val)) (hC : YBc Z h0 sb (.int 0)) (hN : YBn Z h0 sb (.int 0)) (hY : YBm Z h0 sb (.int 0)) (hA : Ary Z h0 val .byte (IL us)) (hgv : Z.heap.size ≤ val) (hne : s ≠ val) (hns : a ≠ sb) : Con Z B16 (List.toArray [.ref sb, .int (0 : Int32), .ref a]) h0 (Q16v010 Z sb us vs h0) := by
  refine Con.mk (Ls := #[.val (.ref sb), .val (.int (0 : Int32)), .val (.ref a)]) hw pn16 (fun mid => by first | (simp [entryFrame, mkF, argsToLocals, Value.category, Jvm.Ow.Bd.ml, B16]; done) | rfl) (Go.old fun hle' => ?_)
  have hle := hle'.1
  have hvs : val ≠ sb := own_na hw 41 rfl hE hA
  have hss : s ≠ sb := own_na hw 41 rfl hE iA
  refine Go.aloadN 1 rfl d16_0 rfl rfl ?_
  refine Go.aloadN 2 rfl d16_1 rfl rfl ?_
  refine Go.callP3 5 rfl (C := B17) sb [.ref a] (rest := []) 110 111 113 112 50 114 (c17n0 Z hw h0 sb a us cs hS hcs hAs hHi hLo hfm val hul hge hE hV hC hN hY hA hgv iE iC) hE d16_2 rfl rfl rfl rfl rfl rfl (by decide) pd17 rfl rfl rfl (W := 0) (lb rfl) (by decide) (by decide) (by decide) (by decide) fun v101 h102 q103 => ?_
  obtain ⟨rfl, t, g, K, jve, jcr, jct, jm1, jar⟩ := q103
  have z104 : Z.heap.size ≤ t := Nat.le_trans hle g
  refine Go.aloadN 6 rfl d16_5 rfl rfl ?_
  refine Go.aloadN 7 rfl d16_6 rfl rfl ?_
  refine Go.getF 10 rfl (v := .ref t) 54 d16_7 rfl jve ?_
  refine Go.iloadN 11 rfl d16_10 rfl ?_
  refine Go.aloadN 12 rfl d16_11 rfl rfl ?_
  refine Go.getF 15 rfl (v := .int (1 : Int32)) 56 d16_12 rfl jcr ?_
  have F105 : YEs Z h102 a := (iE.keep K)
  have F106 : YSv Z h102 a (.ref s) := (iV.keep K (ninS hns nin0))
  have F107 : YSc Z h102 a (.int (1 : Int32)) := (iC.keep K (ninS hns nin0))
  have F108 : Ary Z h102 s .byte (IL vs) := (iA.keep K (ninS hss nin0))
  have ne109 : s ≠ t := (show @Ne Nat s t from by have := ltN iA.lt; have := g; omega)
  refine Go.callV 18 rfl (C := B18) a [.ref t, .int (0 : Int32), .int (1 : Int32)] (rest := []) 116 117 119 118 20 120 (c18k1 Z hw h102 a t (0 : Int32) (zer 32) vs 0 cs hS hcs (0 : Int32) (by decide) rfl L hL (by simp only [own_putl, zer, List.length_replicate]; omega) s F105 F106 F107 F108 jar z104 ne109) F105 d16_15 rfl rfl rfl rfl rfl rfl (by decide) pd18 rfl rfl rfl (W := 0) (lb rfl) (by decide) (by decide) (by decide) (by decide) fun v110 h111 q112 => ?_
  obtain ⟨rfl, K2, A2⟩ := q112
  have ne113 : sb ≠ t := (show @Ne Nat sb t from by have := ltN hE.lt; have := g; omega)
  have F114 : YBv Z h111 sb (.ref t) := (jve.keep K2 (ninS ne113 nin0))
  have F115 : YBc Z h111 sb (.int (1 : Int32)) := (jcr.keep K2 (ninS ne113 nin0))
  have F116 : YBn Z h111 sb (.int (0 : Int32)) := (jct.keep K2 (ninS ne113 nin0))
  have F117 : YBm Z h111 sb (.int (0 : Int32)) := (jm1.keep K2 (ninS ne113 nin0))
  exact Go.retV d16_18 rfl (by decide) (by decide) ⟨rfl, t, g, (((Keep.refl h0 [sb]).trans K (by simp)).trans K2 (allS (Or.inr g) all0)), F114, F115, F116, F117, A2⟩
def Q12v010 (Z : State) (sb : Addr) (us : List Int32) (vs : List Int32) (R : Int32) (h0 : Heap) (v : Option Value) (h : Heap) : Prop := v = some (.ref sb) ∧ ∃ t, h0.size ≤ t ∧ Keep h0 h [sb] ∧ YBv Z h sb (.ref t) ∧ YBc Z h sb (.int 1) ∧ YBn Z h sb (.int (0 + R)) ∧ YBm Z h sb (.int 0) ∧ Ary Z h t .byte (IL ((zer 32).take 0 ++ vs ++ (zer 32).drop (0 + vs.length)))
theorem c12v010 (Z : State) (hw : Wd Z tables_1) (h0 : Heap) (sb : Addr) (a : Addr) (us : List Int32) (vs : List Int32) (R : Int32) (cs : Int32) (hS : YCs Z cs) (hcs : ¬ cs = 0) (hAs : YAs Z) (hHi : YHi Z) (hLo : YLo Z) (hfm : YFm Z) (val : Addr) (hul : us.length = 16) (L : Int32) (hL : L.toInt = (IL vs).length) (hfit : 0 + vs.length ≤ 32) (hR : L >>> ((1 : Int32) &&& 31) = R) (hm : ¬ (0 : Int32) < ((0 : Int32) + R) - (16 : Int32)) (s : Addr) (iE : YEs Z h0 a) (iV : YSv Z h0 a (.ref s)) (iC : YSc Z h0 a (.int 1)) (iA : Ary Z h0 s .byte (IL vs)) (hge : Z.heap.size ≤ sb) (hE : YEb Z h0 sb) (hV : YBv Z h0 sb (.ref val)) (hC : YBc Z h0 sb (.int 0)) (hN : YBn Z h0 sb (.int 0)) (hY : YBm Z h0 sb (.int 0)) (hA : Ary Z h0 val .byte (IL us)) (hgv : Z.heap.size ≤ val) (hne : s ≠ val) (hns : a ≠ sb) : Con Z B12 (List.toArray [.ref sb, .ref a]) h0 (Q12v010 Z sb us vs R h0) := by
  refine Con.mk (Ls := #[.val (.ref sb), .val (.ref a), .unset]) hw pn12 (fun mid => by first | (simp [entryFrame, mkF, argsToLocals, Value.category, Jvm.Ow.Bd.ml, B12]; done) | rfl) (Go.old fun hle' => ?_)
  have hle := hle'.1
  have hvs : val ≠ sb := own_na hw 41 rfl hE hA
  have hss : s ≠ sb := own_na hw 41 rfl hE iA
  refine Go.aloadN 1 rfl d12_0 rfl rfl ?_
  refine Go.ifnonnull_r 9 d12_1 (by decide) rfl ?_
  refine Go.aloadN 10 rfl d12_9 rfl rfl ?_
  refine Go.callV 13 rfl (C := B13) a [] (rest := []) 87 88 90 89 20 91 (c13k1 Z hw h0 a R cs hS hcs s (IL vs) L hL hR iE iV iC iA) iE d12_10 rfl rfl rfl rfl rfl rfl (by decide) pd13 rfl rfl rfl (W := 0) (lb rfl) (by decide) (by decide) (by decide) (by decide) fun v101 h102 q103 => ?_
  obtain ⟨rfl, rfl⟩ := q103
  refine Go.istoreN 14 rfl d12_13 (Ls' := #[.val (.ref sb), .val (.ref a), .val (.int R)]) rfl ?_
  refine Go.aloadN 15 rfl d12_14 rfl rfl ?_
  refine Go.aloadN 16 rfl d12_15 rfl rfl ?_
  refine Go.getF 19 rfl (v := .int (0 : Int32)) 98 d12_16 rfl hN ?_
  refine Go.iloadN 20 rfl d12_19 rfl ?_
  refine Go.iadd 21 rfl d12_20 ?_
  refine Go.callP3 24 rfl (C := B15) sb [.int ((0 : Int32) + R)] (rest := []) 100 101 103 102 50 104 (c15k0 Z hw h0 sb ((0 : Int32) + R) val us hul hm hV hC hA) hE d12_21 rfl rfl rfl rfl rfl rfl (by decide) pd15 rfl rfl rfl (W := 0) (lb rfl) (by decide) (by decide) (by decide) (by decide) fun v104 h105 q106 => ?_
  obtain ⟨rfl, rfl⟩ := q106
  refine Go.aloadN 25 rfl d12_24 rfl rfl ?_
  refine Go.aloadN 26 rfl d12_25 rfl rfl ?_
  refine Go.getF 29 rfl (v := .int (0 : Int32)) 98 d12_26 rfl hN ?_
  refine Go.aloadN 30 rfl d12_29 rfl rfl ?_
  refine Go.callP3 33 rfl (C := B16) sb [.int (0 : Int32), .ref a] (rest := []) 105 106 108 107 50 109 (c16v010 Z hw h0 sb  a   us vs  cs hS hcs hAs hHi hLo hfm val hul L hL hfit s iE iV iC iA hge hE hV hC hN hY hA hgv hne hns) hE d12_30 rfl rfl rfl rfl rfl rfl (by decide) pd16 rfl rfl rfl (W := 0) (lb rfl) (by decide) (by decide) (by decide) (by decide) fun v107 h108 q109 => ?_
  obtain ⟨rfl, t, g, K, jve, jcr, jct, jm1, jar⟩ := q109
  have z110 : Z.heap.size ≤ t := Nat.le_trans hle g
  refine Go.aloadN 34 rfl d12_33 rfl rfl ?_
  refine Go.dup 35 rfl d12_34 rfl ?_
  refine Go.getF 38 rfl (v := .int (0 : Int32)) 98 d12_35 rfl jct ?_
  refine Go.iloadN 39 rfl d12_38 rfl ?_
  refine Go.iadd 40 rfl d12_39 ?_
  have F111 : YEb Z h108 sb := (hE.keep K)
  refine Go.putF 43 rfl (v' := .int ((0 : Int32) + R)) (ty := .int) 98 99 41 d12_40 rfl jct F111 (Or.inl rfl) rfl (by decide) rfl rfl hge fun h112 K113 W114 F115 => ?_
  refine Go.aloadN 44 rfl d12_43 rfl rfl ?_
  have F116 : YBv Z h112 sb (.ref t) := (Fld.oth hw jve W114 55 99 (Or.inl rfl) (Or.inl rfl) (by decide) rfl rfl)
  have F117 : YBc Z h112 sb (.int (1 : Int32)) := (Fld.oth hw jcr W114 57 99 (Or.inl rfl) (Or.inl rfl) (by decide) rfl rfl)
  have F118 : YBm Z h112 sb (.int (0 : Int32)) := (Fld.oth hw jm1 W114 258 99 (Or.inl rfl) (Or.inl rfl) (by decide) rfl rfl)
  have ne119 : t ≠ sb := (show @Ne Nat t sb from by have := ltN hE.lt; have := g; omega)
  have F120 : Ary Z h112 t .byte (IL ((zer 32).take 0 ++ vs ++ (zer 32).drop (0 + vs.length))) := (jar.keep K113 (ninS ne119 nin0))
  exact Go.retA d12_44 rfl rfl rfl (by decide) (by decide) ⟨rfl, t, g, (((Keep.refl h0 [sb]).trans K (by simp)).trans K113 (by simp)), F116, F117, F115, F118, F120⟩
def Q11v010 (Z : State) (sb : Addr) (us : List Int32) (vs : List Int32) (R : Int32) (h0 : Heap) (v : Option Value) (h : Heap) : Prop := v = some (.ref sb) ∧ ∃ t, h0.size ≤ t ∧ Keep h0 h [sb] ∧ YBv Z h sb (.ref t) ∧ YBc Z h sb (.int 1) ∧ YBn Z h sb (.int (0 + R)) ∧ YBm Z h sb (.int 0) ∧ Ary Z h t .byte (IL ((zer 32).take 0 ++ vs ++ (zer 32).drop (0 + vs.length)))
theorem c11v010 (Z : State) (hw : Wd Z tables_1) (h0 : Heap) (sb : Addr) (a : Addr) (us : List Int32) (vs : List Int32) (R : Int32) (cs : Int32) (hS : YCs Z cs) (hcs : ¬ cs = 0) (hAs : YAs Z) (hHi : YHi Z) (hLo : YLo Z) (hfm : YFm Z) (val : Addr) (hul : us.length = 16) (L : Int32) (hL : L.toInt = (IL vs).length) (hfit : 0 + vs.length ≤ 32) (hR : L >>> ((1 : Int32) &&& 31) = R) (hm : ¬ (0 : Int32) < ((0 : Int32) + R) - (16 : Int32)) (s : Addr) (iE : YEs Z h0 a) (iV : YSv Z h0 a (.ref s)) (iC : YSc Z h0 a (.int 1)) (iA : Ary Z h0 s .byte (IL vs)) (hge : Z.heap.size ≤ sb) (hE : YEb Z h0 sb) (hV : YBv Z h0 sb (.ref val)) (hC : YBc Z h0 sb (.int 0)) (hN : YBn Z h0 sb (.int 0)) (hY : YBm Z h0 sb (.int 0)) (hA : Ary Z h0 val .byte (IL us)) (hgv : Z.heap.size ≤ val) (hne : s ≠ val) (hns : a ≠ sb) : Con Z B11 (List.toArray [.ref sb, .ref a]) h0 (Q11v010 Z sb us vs R h0) := by
  refine Con.mk (Ls := #[.val (.ref sb), .val (.ref a)]) hw pn11 (fun mid => by first | (simp [entryFrame, mkF, argsToLocals, Value.category, Jvm.Ow.Bd.ml, B11]; done) | rfl) (Go.old fun hle' => ?_)
  have hle := hle'.1
  refine Go.aloadN 1 rfl d11_0 rfl rfl ?_
  refine Go.aloadN 2 rfl d11_1 rfl rfl ?_
  refine Go.callU 5 rfl (C := B12) sb [.ref a] (rest := []) 82 83 50 86 84 103 (c12v010 Z hw h0 sb a us vs R cs hS hcs hAs hHi hLo hfm val hul L hL hfit hR hm s iE iV iC iA hge hE hV hC hN hY hA hgv hne hns) (Ins.self hE) d11_2 rfl rfl rfl rfl rfl rfl rfl (by decide) (by decide) pd12 rfl rfl rfl (W := 0) (lb rfl) (by decide) (by decide) (by decide) (by decide) fun v101 h102 q103 => ?_
  obtain ⟨rfl, RR⟩ := q103
  refine Go.pop 6 rfl d11_5 rfl ?_
  refine Go.aloadN 7 rfl d11_6 rfl rfl ?_
  exact Go.retA d11_7 rfl rfl rfl (by decide) (by decide) ⟨rfl, RR⟩
def Q16v102 (Z : State) (sb : Addr) (val : Addr) (us : List Int32) (vs : List Int32) (x : Int32) (xn : Nat) (h0 : Heap) (v : Option Value) (h : Heap) : Prop := v = none ∧ Keep h0 h [val] ∧ Ary Z h val .byte (IL (put (put us (xn + 0) (vs.getD 0 0 &&& (255 : Int32))) (xn + 1) (vs.getD 1 0 &&& (255 : Int32))))
theorem c16v102 (Z : State) (hw : Wd Z tables_1) (h0 : Heap) (sb : Addr) (x : Int32) (a : Addr) (val : Addr) (us : List Int32) (vs : List Int32) (xn : Nat) (cs : Int32) (hS : YCs Z cs) (hcs : ¬ cs = 0) (hAs : YAs Z) (hHi : YHi Z) (hLo : YLo Z) (hfm : YFm Z) (hul : us.length = 32) (hx : x.toInt = xn) (hx6 : xn ≤ 3) (h1 : ¬ (((16 : Int32) ||| x) ||| (2 : Int32)) < 0) (h2 : ¬ ((16 : Int32) - x) < (2 : Int32)) (hvl : vs.length = 2) (s : Addr) (iE : YEs Z h0 a) (iV : YSv Z h0 a (.ref s)) (iC : YSc Z h0 a (.int 0)) (iA : Ary Z h0 s .byte (IL vs)) (hge : Z.heap.size ≤ sb) (hE : YEb Z h0 sb) (hV : YBv Z h0 sb (.ref val)) (hC : YBc Z h0 sb (.int 1)) (hN : YBn Z h0 sb (.int x)) (hY : YBm Z h0 sb (.int 0)) (hA : Ary Z h0 val .byte (IL us)) (hgv : Z.heap.size ≤ val) (hne : s ≠ val) (hns : a ≠ sb) : Con Z B16 (List.toArray [.ref sb, .int x, .ref a]) h0 (Q16v102 Z sb val us vs x xn h0) := by
  refine Con.mk (Ls := #[.val (.ref sb), .val (.int x), .val (.ref a)]) hw pn16 (fun mid => by first | (simp [entryFrame, mkF, argsToLocals, Value.category, Jvm.Ow.Bd.ml, B16]; done) | rfl) (Go.old fun hle' => ?_)
  have hle := hle'.1
  have hvs : val ≠ sb := own_na hw 41 rfl hE hA
  have hss : s ≠ sb := own_na hw 41 rfl hE iA
  refine Go.aloadN 1 rfl d16_0 rfl rfl ?_
  refine Go.aloadN 2 rfl d16_1 rfl rfl ?_
  refine Go.callP3 5 rfl (C := B17) sb [.ref a] (rest := []) 110 111 113 112 50 114 (c17q10 Z hw h0 sb a cs hS hcs hE hC iE iC) hE d16_2 rfl rfl rfl rfl rfl rfl (by decide) pd17 rfl rfl rfl (W := 0) (lb rfl) (by decide) (by decide) (by decide) (by decide) fun v101 h102 q103 => ?_
  obtain ⟨rfl, rfl⟩ := q103
  refine Go.aloadN 6 rfl d16_5 rfl rfl ?_
  refine Go.aloadN 7 rfl d16_6 rfl rfl ?_
  refine Go.getF 10 rfl (v := .ref val) 54 d16_7 rfl hV ?_
  refine Go.iloadN 11 rfl d16_10 rfl ?_
  refine Go.aloadN 12 rfl d16_11 rfl rfl ?_
  refine Go.getF 15 rfl (v := .int (1 : Int32)) 56 d16_12 rfl hC ?_
  refine Go.callV 18 rfl (C := B18) a [.ref val, .int x, .int (1 : Int32)] (rest := []) 116 117 119 118 20 120 (c18i2 Z hw h0 a val x us vs xn cs hS hcs hAs hHi hLo hfm hx hx6 hul h1 h2 s iE iV iC iA hvl hA hgv hne) iE d16_15 rfl rfl rfl rfl rfl rfl (by decide) pd18 rfl rfl rfl (W := 0) (lb rfl) (by decide) (by decide) (by decide) (by decide) fun v104 h105 q106 => ?_
  obtain ⟨rfl, K2, A2⟩ := q106
  exact Go.retV d16_18 rfl (by decide) (by decide) ⟨rfl, ((Keep.refl h0 [val]).trans K2 (by simp)), A2⟩
def Q12v102 (Z : State) (sb : Addr) (val : Addr) (us : List Int32) (vs : List Int32) (x : Int32) (xn : Nat) (R : Int32) (h0 : Heap) (v : Option Value) (h : Heap) : Prop := v = some (.ref sb) ∧ Keep h0 h [sb, val] ∧ YBv Z h sb (.ref val) ∧ YBc Z h sb (.int 1) ∧ YBn Z h sb (.int (x + R)) ∧ YBm Z h sb (.int 0) ∧ Ary Z h val .byte (IL (put (put us (xn + 0) (vs.getD 0 0 &&& (255 : Int32))) (xn + 1) (vs.getD 1 0 &&& (255 : Int32))))
theorem c12v102 (Z : State) (hw : Wd Z tables_1) (h0 : Heap) (sb : Addr) (a : Addr) (val : Addr) (us : List Int32) (vs : List Int32) (x : Int32) (xn : Nat) (R : Int32) (cs : Int32) (hS : YCs Z cs) (hcs : ¬ cs = 0) (hAs : YAs Z) (hHi : YHi Z) (hLo : YLo Z) (hfm : YFm Z) (hul : us.length = 32) (hx : x.toInt = xn) (hx6 : xn ≤ 3) (h1 : ¬ (((16 : Int32) ||| x) ||| (2 : Int32)) < 0) (h2 : ¬ ((16 : Int32) - x) < (2 : Int32)) (hvl : vs.length = 2) (L : Int32) (hL : L.toInt = (IL vs).length) (hR : L >>> ((0 : Int32) &&& 31) = R) (hm : ¬ (0 : Int32) < (x + R) - (16 : Int32)) (s : Addr) (iE : YEs Z h0 a) (iV : YSv Z h0 a (.ref s)) (iC : YSc Z h0 a (.int 0)) (iA : Ary Z h0 s .byte (IL vs)) (hge : Z.heap.size ≤ sb) (hE : YEb Z h0 sb) (hV : YBv Z h0 sb (.ref val)) (hC : YBc Z h0 sb (.int 1)) (hN : YBn Z h0 sb (.int x)) (hY : YBm Z h0 sb (.int 0)) (hA : Ary Z h0 val .byte (IL us)) (hgv : Z.heap.size ≤ val) (hne : s ≠ val) (hns : a ≠ sb) : Con Z B12 (List.toArray [.ref sb, .ref a]) h0 (Q12v102 Z sb val us vs x xn R h0) := by
  refine Con.mk (Ls := #[.val (.ref sb), .val (.ref a), .unset]) hw pn12 (fun mid => by first | (simp [entryFrame, mkF, argsToLocals, Value.category, Jvm.Ow.Bd.ml, B12]; done) | rfl) (Go.old fun hle' => ?_)
  have hle := hle'.1
  have hvs : val ≠ sb := own_na hw 41 rfl hE hA
  have hss : s ≠ sb := own_na hw 41 rfl hE iA
  refine Go.aloadN 1 rfl d12_0 rfl rfl ?_
  refine Go.ifnonnull_r 9 d12_1 (by decide) rfl ?_
  refine Go.aloadN 10 rfl d12_9 rfl rfl ?_
  refine Go.callV 13 rfl (C := B13) a [] (rest := []) 87 88 90 89 20 91 (c13k0 Z hw h0 a R cs hS hcs s (IL vs) L hL hR iE iV iC iA) iE d12_10 rfl rfl rfl rfl rfl rfl (by decide) pd13 rfl rfl rfl (W := 0) (lb rfl) (by decide) (by decide) (by decide) (by decide) fun v101 h102 q103 => ?_
  obtain ⟨rfl, rfl⟩ := q103
  refine Go.istoreN 14 rfl d12_13 (Ls' := #[.val (.ref sb), .val (.ref a), .val (.int R)]) rfl ?_
  refine Go.aloadN 15 rfl d12_14 rfl rfl ?_
  refine Go.aloadN 16 rfl d12_15 rfl rfl ?_
  refine Go.getF 19 rfl (v := .int x) 98 d12_16 rfl hN ?_
  refine Go.iloadN 20 rfl d12_19 rfl ?_
  refine Go.iadd 21 rfl d12_20 ?_
  refine Go.callP3 24 rfl (C := B15) sb [.int (x + R)] (rest := []) 100 101 103 102 50 104 (c15k1 Z hw h0 sb (x + R) val us hul hm hV hC hA) hE d12_21 rfl rfl rfl rfl rfl rfl (by decide) pd15 rfl rfl rfl (W := 0) (lb rfl) (by decide) (by decide) (by decide) (by decide) fun v104 h105 q106 => ?_
  obtain ⟨rfl, rfl⟩ := q106
  refine Go.aloadN 25 rfl d12_24 rfl rfl ?_
  refine Go.aloadN 26 rfl d12_25 rfl rfl ?_
  refine Go.getF 29 rfl (v := .int x) 98 d12_26 rfl hN ?_
  refine Go.aloadN 30 rfl d12_29 rfl rfl ?_
  refine Go.callP3 33 rfl (C := B16) sb [.int x, .ref a] (rest := []) 105 106 108 107 50 109 (c16v102 Z hw h0 sb x a   val us vs  xn  cs hS hcs hAs hHi hLo hfm hul hx hx6 h1 h2 hvl s iE iV iC iA hge hE hV hC hN hY hA hgv hne hns) hE d12_30 rfl rfl rfl rfl rfl rfl (by decide) pd16 rfl rfl rfl (W := 0) (lb rfl) (by decide) (by decide) (by decide) (by decide) fun v107 h108 q109 => ?_
  obtain ⟨rfl, K, A⟩ := q109
  refine Go.aloadN 34 rfl d12_33 rfl rfl ?_
  refine Go.dup 35 rfl d12_34 rfl ?_
  have F110 : YBn Z h108 sb (.int x) := (hN.keep K (ninS (Ne.symm hvs) nin0))
  refine Go.getF 38 rfl (v := .int x) 98 d12_35 rfl F110 ?_
  refine Go.iloadN 39 rfl d12_38 rfl ?_
  refine Go.iadd 40 rfl d12_39 ?_
  have F111 : YEb Z h108 sb := (hE.keep K)
  refine Go.putF 43 rfl (v' := .int (x + R)) (ty := .int) 98 99 41 d12_40 rfl F110 F111 (Or.inl rfl) rfl (by decide) rfl rfl hge fun h112 K113 W114 F115 => ?_
  refine Go.aloadN 44 rfl d12_43 rfl rfl ?_
  have F116 : YBv Z h112 sb (.ref val) := (Fld.oth hw (hV.keep K (ninS (Ne.symm hvs) nin0)) W114 55 99 (Or.inl rfl) (Or.inl rfl) (by decide) rfl rfl)
  have F117 : YBc Z h112 sb (.int (1 : Int32)) := (Fld.oth hw (hC.keep K (ninS (Ne.symm hvs) nin0)) W114 57 99 (Or.inl rfl) (Or.inl rfl) (by decide) rfl rfl)
  have F118 : YBm Z h112 sb (.int (0 : Int32)) := (Fld.oth hw (hY.keep K (ninS (Ne.symm hvs) nin0)) W114 258 99 (Or.inl rfl) (Or.inl rfl) (by decide) rfl rfl)
  have F119 : Ary Z h112 val .byte (IL (put (put us (xn + 0) (vs.getD 0 0 &&& (255 : Int32))) (xn + 1) (vs.getD 1 0 &&& (255 : Int32)))) := (A.keep K113 (ninS hvs nin0))
  exact Go.retA d12_44 rfl rfl rfl (by decide) (by decide) ⟨rfl, (((Keep.refl h0 [sb, val]).trans K (by simp)).trans K113 (by simp)), F116, F117, F115, F118, F119⟩
def Q11v102 (Z : State) (sb : Addr) (val : Addr) (us : List Int32) (vs : List Int32) (x : Int32) (xn : Nat) (R : Int32) (h0 : Heap) (v : Option Value) (h : Heap) : Prop := v = some (.ref sb) ∧ Keep h0 h [sb, val] ∧ YBv Z h sb (.ref val) ∧ YBc Z h sb (.int 1) ∧ YBn Z h sb (.int (x + R)) ∧ YBm Z h sb (.int 0) ∧ Ary Z h val .byte (IL (put (put us (xn + 0) (vs.getD 0 0 &&& (255 : Int32))) (xn + 1) (vs.getD 1 0 &&& (255 : Int32))))
theorem c11v102 (Z : State) (hw : Wd Z tables_1) (h0 : Heap) (sb : Addr) (a : Addr) (val : Addr) (us : List Int32) (vs : List Int32) (x : Int32) (xn : Nat) (R : Int32) (cs : Int32) (hS : YCs Z cs) (hcs : ¬ cs = 0) (hAs : YAs Z) (hHi : YHi Z) (hLo : YLo Z) (hfm : YFm Z) (hul : us.length = 32) (hx : x.toInt = xn) (hx6 : xn ≤ 3) (h1 : ¬ (((16 : Int32) ||| x) ||| (2 : Int32)) < 0) (h2 : ¬ ((16 : Int32) - x) < (2 : Int32)) (hvl : vs.length = 2) (L : Int32) (hL : L.toInt = (IL vs).length) (hR : L >>> ((0 : Int32) &&& 31) = R) (hm : ¬ (0 : Int32) < (x + R) - (16 : Int32)) (s : Addr) (iE : YEs Z h0 a) (iV : YSv Z h0 a (.ref s)) (iC : YSc Z h0 a (.int 0)) (iA : Ary Z h0 s .byte (IL vs)) (hge : Z.heap.size ≤ sb) (hE : YEb Z h0 sb) (hV : YBv Z h0 sb (.ref val)) (hC : YBc Z h0 sb (.int 1)) (hN : YBn Z h0 sb (.int x)) (hY : YBm Z h0 sb (.int 0)) (hA : Ary Z h0 val .byte (IL us)) (hgv : Z.heap.size ≤ val) (hne : s ≠ val) (hns : a ≠ sb) : Con Z B11 (List.toArray [.ref sb, .ref a]) h0 (Q11v102 Z sb val us vs x xn R h0) := by
  refine Con.mk (Ls := #[.val (.ref sb), .val (.ref a)]) hw pn11 (fun mid => by first | (simp [entryFrame, mkF, argsToLocals, Value.category, Jvm.Ow.Bd.ml, B11]; done) | rfl) (Go.old fun hle' => ?_)
  have hle := hle'.1
  refine Go.aloadN 1 rfl d11_0 rfl rfl ?_
  refine Go.aloadN 2 rfl d11_1 rfl rfl ?_
  refine Go.callU 5 rfl (C := B12) sb [.ref a] (rest := []) 82 83 50 86 84 103 (c12v102 Z hw h0 sb a val us vs x xn R cs hS hcs hAs hHi hLo hfm hul hx hx6 h1 h2 hvl L hL hR hm s iE iV iC iA hge hE hV hC hN hY hA hgv hne hns) (Ins.self hE) d11_2 rfl rfl rfl rfl rfl rfl rfl (by decide) (by decide) pd12 rfl rfl rfl (W := 0) (lb rfl) (by decide) (by decide) (by decide) (by decide) fun v101 h102 q103 => ?_
  obtain ⟨rfl, RR⟩ := q103
  refine Go.pop 6 rfl d11_5 rfl ?_
  refine Go.aloadN 7 rfl d11_6 rfl rfl ?_
  exact Go.retA d11_7 rfl rfl rfl (by decide) (by decide) ⟨rfl, RR⟩
def Q16v101 (Z : State) (sb : Addr) (val : Addr) (us : List Int32) (vs : List Int32) (x : Int32) (xn : Nat) (h0 : Heap) (v : Option Value) (h : Heap) : Prop := v = none ∧ Keep h0 h [val] ∧ Ary Z h val .byte (IL (put us (xn + 0) (vs.getD 0 0 &&& (255 : Int32))))
theorem c16v101 (Z : State) (hw : Wd Z tables_1) (h0 : Heap) (sb : Addr) (x : Int32) (a : Addr) (val : Addr) (us : List Int32) (vs : List Int32) (xn : Nat) (cs : Int32) (hS : YCs Z cs) (hcs : ¬ cs = 0) (hAs : YAs Z) (hHi : YHi Z) (hLo : YLo Z) (hfm : YFm Z) (hul : us.length = 32) (hx : x.toInt = xn) (hx6 : xn ≤ 3) (h1 : ¬ (((16 : Int32) ||| x) ||| (1 : Int32)) < 0) (h2 : ¬ ((16 : Int32) - x) < (1 : Int32)) (hvl : vs.length = 1) (s : Addr) (iE : YEs Z h0 a) (iV : YSv Z h0 a (.ref s)) (iC : YSc Z h0 a (.int 0)) (iA : Ary Z h0 s .byte (IL vs)) (hge : Z.heap.size ≤ sb) (hE : YEb Z h0 sb) (hV : YBv Z h0 sb (.ref val)) (hC : YBc Z h0 sb (.int 1)) (hN : YBn Z h0 sb (.int x)) (hY : YBm Z h0 sb (.int 0)) (hA : Ary Z h0 val .byte (IL us)) (hgv : Z.heap.size ≤ val) (hne : s ≠ val) (hns : a ≠ sb) : Con Z B16 (List.toArray [.ref sb, .int x, .ref a]) h0 (Q16v101 Z sb val us vs x xn h0) := by
  refine Con.mk (Ls := #[.val (.ref sb), .val (.int x), .val (.ref a)]) hw pn16 (fun mid => by first | (simp [entryFrame, mkF, argsToLocals, Value.category, Jvm.Ow.Bd.ml, B16]; done) | rfl) (Go.old fun hle' => ?_)
  have hle := hle'.1
  have hvs : val ≠ sb := own_na hw 41 rfl hE hA
  have hss : s ≠ sb := own_na hw 41 rfl hE iA
  refine Go.aloadN 1 rfl d16_0 rfl rfl ?_
  refine Go.aloadN 2 rfl d16_1 rfl rfl ?_
  refine Go.callP3 5 rfl (C := B17) sb [.ref a] (rest := []) 110 111 113 112 50 114 (c17q10 Z hw h0 sb a cs hS hcs hE hC iE iC) hE d16_2 rfl rfl rfl rfl rfl rfl (by decide) pd17 rfl rfl rfl (W := 0) (lb rfl) (by decide) (by decide) (by decide) (by decide) fun v101 h102 q103 => ?_
  obtain ⟨rfl, rfl⟩ := q103
  refine Go.aloadN 6 rfl d16_5 rfl rfl ?_
  refine Go.aloadN 7 rfl d16_6 rfl rfl ?_
  refine Go.getF 10 rfl (v := .ref val) 54 d16_7 rfl hV ?_
  refine Go.iloadN 11 rfl d16_10 rfl ?_
  refine Go.aloadN 12 rfl d16_11 rfl rfl ?_
  refine Go.getF 15 rfl (v := .int (1 : Int32)) 56 d16_12 rfl hC ?_
  refine Go.callV 18 rfl (C := B18) a [.ref val, .int x, .int (1 : Int32)] (rest := []) 116 117 119 118 20 120 (c18i1 Z hw h0 a val x us vs xn cs hS hcs hAs hHi hLo hfm hx hx6 hul h1 h2 s iE iV iC iA hvl hA hgv hne) iE d16_15 rfl rfl rfl rfl rfl rfl (by decide) pd18 rfl rfl rfl (W := 0) (lb rfl) (by decide) (by decide) (by decide) (by decide) fun v104 h105 q106 => ?_
  obtain ⟨rfl, K2, A2⟩ := q106
  exact Go.retV d16_18 rfl (by decide) (by decide) ⟨rfl, ((Keep.refl h0 [val]).trans K2 (by simp)), A2⟩
def Q12v101 (Z : State) (sb : Addr) (val : Addr) (us : List Int32) (vs : List Int32) (x : Int32) (xn : Nat) (R : Int32) (h0 : Heap) (v : Option Value) (h : Heap) : Prop := v = some (.ref sb) ∧ Keep h0 h [sb, val] ∧ YBv Z h sb (.ref val) ∧ YBc Z h sb (.int 1) ∧ YBn Z h sb (.int (x + R)) ∧ YBm Z h sb (.int 0) ∧ Ary Z h val .byte (IL (put us (xn + 0) (vs.getD 0 0 &&& (255 : Int32))))
theorem c12v101 (Z : State) (hw : Wd Z tables_1) (h0 : Heap) (sb : Addr) (a : Addr) (val : Addr) (us : List Int32) (vs : List Int32) (x : Int32) (xn : Nat) (R : Int32) (cs : Int32) (hS : YCs Z cs) (hcs : ¬ cs = 0) (hAs : YAs Z) (hHi : YHi Z) (hLo : YLo Z) (hfm : YFm Z) (hul : us.length = 32) (hx : x.toInt = xn) (hx6 : xn ≤ 3) (h1 : ¬ (((16 : Int32) ||| x) ||| (1 : Int32)) < 0) (h2 : ¬ ((16 : Int32) - x) < (1 : Int32)) (hvl : vs.length = 1) (L : Int32) (hL : L.toInt = (IL vs).length) (hR : L >>> ((0 : Int32) &&& 31) = R) (hm : ¬ (0 : Int32) < (x + R) - (16 : Int32)) (s : Addr) (iE : YEs Z h0 a) (iV : YSv Z h0 a (.ref s)) (iC : YSc Z h0 a (.int 0)) (iA : Ary Z h0 s .byte (IL vs)) (hge : Z.heap.size ≤ sb) (hE : YEb Z h0 sb) (hV : YBv Z h0 sb (.ref val)) (hC : YBc Z h0 sb (.int 1)) (hN : YBn Z h0 sb (.int x)) (hY : YBm Z h0 sb (.int 0)) (hA : Ary Z h0 val .byte (IL us)) (hgv : Z.heap.size ≤ val) (hne : s ≠ val) (hns : a ≠ sb) : Con Z B12 (List.toArray [.ref sb, .ref a]) h0 (Q12v101 Z sb val us vs x xn R h0) := by
  refine Con.mk (Ls := #[.val (.ref sb), .val (.ref a), .unset]) hw pn12 (fun mid => by first | (simp [entryFrame, mkF, argsToLocals, Value.category, Jvm.Ow.Bd.ml, B12]; done) | rfl) (Go.old fun hle' => ?_)
  have hle := hle'.1
  have hvs : val ≠ sb := own_na hw 41 rfl hE hA
  have hss : s ≠ sb := own_na hw 41 rfl hE iA
  refine Go.aloadN 1 rfl d12_0 rfl rfl ?_
  refine Go.ifnonnull_r 9 d12_1 (by decide) rfl ?_
  refine Go.aloadN 10 rfl d12_9 rfl rfl ?_
  refine Go.callV 13 rfl (C := B13) a [] (rest := []) 87 88 90 89 20 91 (c13k0 Z hw h0 a R cs hS hcs s (IL vs) L hL hR iE iV iC iA) iE d12_10 rfl rfl rfl rfl rfl rfl (by decide) pd13 rfl rfl rfl (W := 0) (lb rfl) (by decide) (by decide) (by decide) (by decide) fun v101 h102 q103 => ?_
  obtain ⟨rfl, rfl⟩ := q103
  refine Go.istoreN 14 rfl d12_13 (Ls' := #[.val (.ref sb), .val (.ref a), .val (.int R)]) rfl ?_
  refine Go.aloadN 15 rfl d12_14 rfl rfl ?_
  refine Go.aloadN 16 rfl d12_15 rfl rfl ?_
  refine Go.getF 19 rfl (v := .int x) 98 d12_16 rfl hN ?_
  refine Go.iloadN 20 rfl d12_19 rfl ?_
  refine Go.iadd 21 rfl d12_20 ?_
  refine Go.callP3 24 rfl (C := B15) sb [.int (x + R)] (rest := []) 100 101 103 102 50 104 (c15k1 Z hw h0 sb (x + R) val us hul hm hV hC hA) hE d12_21 rfl rfl rfl rfl rfl rfl (by decide) pd15 rfl rfl rfl (W := 0) (lb rfl) (by decide) (by decide) (by decide) (by decide) fun v104 h105 q106 => ?_
  obtain ⟨rfl, rfl⟩ := q106
  refine Go.aloadN 25 rfl d12_24 rfl rfl ?_
  refine Go.aloadN 26 rfl d12_25 rfl rfl ?_
  refine Go.getF 29 rfl (v := .int x) 98 d12_26 rfl hN ?_
  refine Go.aloadN 30 rfl d12_29 rfl rfl ?_
  refine Go.callP3 33 rfl (C := B16) sb [.int x, .ref a] (rest := []) 105 106 108 107 50 109 (c16v101 Z hw h0 sb x a   val us vs  xn  cs hS hcs hAs hHi hLo hfm hul hx hx6 h1 h2 hvl s iE iV iC iA hge hE hV hC hN hY hA hgv hne hns) hE d12_30 rfl rfl rfl rfl rfl rfl (by decide) pd16 rfl rfl rfl (W := 0) (lb rfl) (by decide) (by decide) (by decide) (by decide) fun v107 h108 q109 => ?_
  obtain ⟨rfl, K, A⟩ := q109
  refine Go.aloadN 34 rfl d12_33 rfl rfl ?_
  refine Go.dup 35 rfl d12_34 rfl ?_
  have F110 : YBn Z h108 sb (.int x) := (hN.keep K (ninS (Ne.symm hvs) nin0))
  refine Go.getF 38 rfl (v := .int x) 98 d12_35 rfl F110 ?_
  refine Go.iloadN 39 rfl d12_38 rfl ?_
  refine Go.iadd 40 rfl d12_39 ?_
  have F111 : YEb Z h108 sb := (hE.keep K)
  refine Go.putF 43 rfl (v' := .int (x + R)) (ty := .int) 98 99 41 d12_40 rfl F110 F111 (Or.inl rfl) rfl (by decide) rfl rfl hge fun h112 K113 W114 F115 => ?_
  refine Go.aloadN 44 rfl d12_43 rfl rfl ?_
  have F116 : YBv Z h112 sb (.ref val) := (Fld.oth hw (hV.keep K (ninS (Ne.symm hvs) nin0)) W114 55 99 (Or.inl rfl) (Or.inl rfl) (by decide) rfl rfl)
  have F117 : YBc Z h112 sb (.int (1 : Int32)) := (Fld.oth hw (hC.keep K (ninS (Ne.symm hvs) nin0)) W114 57 99 (Or.inl rfl) (Or.inl rfl) (by decide) rfl rfl)
  have F118 : YBm Z h112 sb (.int (0 : Int32)) := (Fld.oth hw (hY.keep K (ninS (Ne.symm hvs) nin0)) W114 258 99 (Or.inl rfl) (Or.inl rfl) (by decide) rfl rfl)
  have F119 : Ary Z h112 val .byte (IL (put us (xn + 0) (vs.getD 0 0 &&& (255 : Int32)))) := (A.keep K113 (ninS hvs nin0))
  exact Go.retA d12_44 rfl rfl rfl (by decide) (by decide) ⟨rfl, (((Keep.refl h0 [sb, val]).trans K (by simp)).trans K113 (by simp)), F116, F117, F115, F118, F119⟩
def Q11v101 (Z : State) (sb : Addr) (val : Addr) (us : List Int32) (vs : List Int32) (x : Int32) (xn : Nat) (R : Int32) (h0 : Heap) (v : Option Value) (h : Heap) : Prop := v = some (.ref sb) ∧ Keep h0 h [sb, val] ∧ YBv Z h sb (.ref val) ∧ YBc Z h sb (.int 1) ∧ YBn Z h sb (.int (x + R)) ∧ YBm Z h sb (.int 0) ∧ Ary Z h val .byte (IL (put us (xn + 0) (vs.getD 0 0 &&& (255 : Int32))))
theorem c11v101 (Z : State) (hw : Wd Z tables_1) (h0 : Heap) (sb : Addr) (a : Addr) (val : Addr) (us : List Int32) (vs : List Int32) (x : Int32) (xn : Nat) (R : Int32) (cs : Int32) (hS : YCs Z cs) (hcs : ¬ cs = 0) (hAs : YAs Z) (hHi : YHi Z) (hLo : YLo Z) (hfm : YFm Z) (hul : us.length = 32) (hx : x.toInt = xn) (hx6 : xn ≤ 3) (h1 : ¬ (((16 : Int32) ||| x) ||| (1 : Int32)) < 0) (h2 : ¬ ((16 : Int32) - x) < (1 : Int32)) (hvl : vs.length = 1) (L : Int32) (hL : L.toInt = (IL vs).length) (hR : L >>> ((0 : Int32) &&& 31) = R) (hm : ¬ (0 : Int32) < (x + R) - (16 : Int32)) (s : Addr) (iE : YEs Z h0 a) (iV : YSv Z h0 a (.ref s)) (iC : YSc Z h0 a (.int 0)) (iA : Ary Z h0 s .byte (IL vs)) (hge : Z.heap.size ≤ sb) (hE : YEb Z h0 sb) (hV : YBv Z h0 sb (.ref val)) (hC : YBc Z h0 sb (.int 1)) (hN : YBn Z h0 sb (.int x)) (hY : YBm Z h0 sb (.int 0)) (hA : Ary Z h0 val .byte (IL us)) (hgv : Z.heap.size ≤ val) (hne : s ≠ val) (hns : a ≠ sb) : Con Z B11 (List.toArray [.ref sb, .ref a]) h0 (Q11v101 Z sb val us vs x xn R h0) := by
  refine Con.mk (Ls := #[.val (.ref sb), .val (.ref a)]) hw pn11 (fun mid => by first | (simp [entryFrame, mkF, argsToLocals, Value.category, Jvm.Ow.Bd.ml, B11]; done) | rfl) (Go.old fun hle' => ?_)
  have hle := hle'.1
  refine Go.aloadN 1 rfl d11_0 rfl rfl ?_
  refine Go.aloadN 2 rfl d11_1 rfl rfl ?_
  refine Go.callU 5 rfl (C := B12) sb [.ref a] (rest := []) 82 83 50 86 84 103 (c12v101 Z hw h0 sb a val us vs x xn R cs hS hcs hAs hHi hLo hfm hul hx hx6 h1 h2 hvl L hL hR hm s iE iV iC iA hge hE hV hC hN hY hA hgv hne hns) (Ins.self hE) d11_2 rfl rfl rfl rfl rfl rfl rfl (by decide) (by decide) pd12 rfl rfl rfl (W := 0) (lb rfl) (by decide) (by decide) (by decide) (by decide) fun v101 h102 q103 => ?_
  obtain ⟨rfl, RR⟩ := q103
  refine Go.pop 6 rfl d11_5 rfl ?_
  refine Go.aloadN 7 rfl d11_6 rfl rfl ?_
  exact Go.retA d11_7 rfl rfl rfl (by decide) (by decide) ⟨rfl, RR⟩
def Q16v100 (Z : State) (sb : Addr) (val : Addr) (us : List Int32) (vs : List Int32) (x : Int32) (xn : Nat) (h0 : Heap) (v : Option Value) (h : Heap) : Prop := v = none ∧ Keep h0 h [val] ∧ Ary Z h val .byte (IL (us))
theorem c16v100 (Z : State) (hw : Wd Z tables_1) (h0 : Heap) (sb : Addr) (x : Int32) (a : Addr) (val : Addr) (us : List Int32) (vs : List Int32) (xn : Nat) (cs : Int32) (hS : YCs Z cs) (hcs : ¬ cs = 0) (hAs : YAs Z) (hHi : YHi Z) (hLo : YLo Z) (hfm : YFm Z) (hul : us.length = 32) (hx : x.toInt = xn) (hx6 : xn ≤ 3) (h1 : ¬ (((16 : Int32) ||| x) ||| (0 : Int32)) < 0) (h2 : ¬ ((16 : Int32) - x) < (0 : Int32)) (hvl : vs.length = 0) (s : Addr) (iE : YEs Z h0 a) (iV : YSv Z h0 a (.ref s)) (iC : YSc Z h0 a (.int 0)) (iA : Ary Z h0 s .byte (IL vs)) (hge : Z.heap.size ≤ sb) (hE : YEb Z h0 sb) (hV : YBv Z h0 sb (.ref val)) (hC : YBc Z h0 sb (.int 1)) (hN : YBn Z h0 sb (.int x)) (hY : YBm Z h0 sb (.int 0)) (hA : Ary Z h0 val .byte (IL us)) (hgv : Z.heap.size ≤ val) (hne : s ≠ val) (hns : a ≠ sb) : Con Z B16 (List.toArray [.ref sb, .int x, .ref a]) h0 (Q16v100 Z sb val us vs x xn h0) := by
  refine Con.mk (Ls := #[.val (.ref sb), .val (.int x), .val (.ref a)]) hw pn16 (fun mid => by first | (simp [entryFrame, mkF, argsToLocals, Value.category, Jvm.Ow.Bd.ml, B16]; done) | rfl) (Go.old fun hle' => ?_)
  have hle := hle'.1
  have hvs : val ≠ sb := own_na hw 41 rfl hE hA
  have hss : s ≠ sb := own_na hw 41 rfl hE iA
  refine Go.aloadN 1 rfl d16_0 rfl rfl ?_
  refine Go.aloadN 2 rfl d16_1 rfl rfl ?_
  refine Go.callP3 5 rfl (C := B17) sb [.ref a] (rest := []) 110 111 113 112 50 114 (c17q10 Z hw h0 sb a cs hS hcs hE hC iE iC) hE d16_2 rfl rfl rfl rfl rfl rfl (by decide) pd17 rfl rfl rfl (W := 0) (lb rfl) (by decide) (by decide) (by decide) (by decide) fun v101 h102 q103 => ?_
  obtain ⟨rfl, rfl⟩ := q103
  refine Go.aloadN 6 rfl d16_5 rfl rfl ?_
  refine Go.aloadN 7 rfl d16_6 rfl rfl ?_
  refine Go.getF 10 rfl (v := .ref val) 54 d16_7 rfl hV ?_
  refine Go.iloadN 11 rfl d16_10 rfl ?_
  refine Go.aloadN 12 rfl d16_11 rfl rfl ?_
  refine Go.getF 15 rfl (v := .int (1 : Int32)) 56 d16_12 rfl hC ?_
  refine Go.callV 18 rfl (C := B18) a [.ref val, .int x, .int (1 : Int32)] (rest := []) 116 117 119 118 20 120 (c18i0 Z hw h0 a val x us vs xn cs hS hcs hAs hHi hLo hfm hx hx6 hul h1 h2 s iE iV iC iA hvl hA hgv hne) iE d16_15 rfl rfl rfl rfl rfl rfl (by decide) pd18 rfl rfl rfl (W := 0) (lb rfl) (by decide) (by decide) (by decide) (by decide) fun v104 h105 q106 => ?_
  obtain ⟨rfl, K2, A2⟩ := q106
  exact Go.retV d16_18 rfl (by decide) (by decide) ⟨rfl, ((Keep.refl h0 [val]).trans K2 (by simp)), A2⟩
def Q12v100 (Z : State) (sb : Addr) (val : Addr) (us : List Int32) (vs : List Int32) (x : Int32) (xn : Nat) (R : Int32) (h0 : Heap) (v : Option Value) (h : Heap) : Prop := v = some (.ref sb) ∧ Keep h0 h [sb, val] ∧ YBv Z h sb (.ref val) ∧ YBc Z h sb (.int 1) ∧ YBn Z h sb (.int (x + R)) ∧ YBm Z h sb (.int 0) ∧ Ary Z h val .byte (IL (us))
theorem c12v100 (Z : State) (hw : Wd Z tables_1) (h0 : Heap) (sb : Addr) (a : Addr) (val : Addr) (us : List Int32) (vs : List Int32) (x : Int32) (xn : Nat) (R : Int32) (cs : Int32) (hS : YCs Z cs) (hcs : ¬ cs = 0) (hAs : YAs Z) (hHi : YHi Z) (hLo : YLo Z) (hfm : YFm Z) (hul : us.length = 32) (hx : x.toInt = xn) (hx6 : xn ≤ 3) (h1 : ¬ (((16 : Int32) ||| x) ||| (0 : Int32)) < 0) (h2 : ¬ ((16 : Int32) - x) < (0 : Int32)) (hvl : vs.length = 0) (L : Int32) (hL : L.toInt = (IL vs).length) (hR : L >>> ((0 : Int32) &&& 31) = R) (hm : ¬ (0 : Int32) < (x + R) - (16 : Int32)) (s : Addr) (iE : YEs Z h0 a) (iV : YSv Z h0 a (.ref s)) (iC : YSc Z h0 a (.int 0)) (iA : Ary Z h0 s .byte (IL vs)) (hge : Z.heap.size ≤ sb) (hE : YEb Z h0 sb) (hV : YBv Z h0 sb (.ref val)) (hC : YBc Z h0 sb (.int 1)) (hN : YBn Z h0 sb (.int x)) (hY : YBm Z h0 sb (.int 0)) (hA : Ary Z h0 val .byte (IL us)) (hgv : Z.heap.size ≤ val) (hne : s ≠ val) (hns : a ≠ sb) : Con Z B12 (List.toArray [.ref sb, .ref a]) h0 (Q12v100 Z sb val us vs x xn R h0) := by
  refine Con.mk (Ls := #[.val (.ref sb), .val (.ref a), .unset]) hw pn12 (fun mid => by first | (simp [entryFrame, mkF, argsToLocals, Value.category, Jvm.Ow.Bd.ml, B12]; done) | rfl) (Go.old fun hle' => ?_)
  have hle := hle'.1
  have hvs : val ≠ sb := own_na hw 41 rfl hE hA
  have hss : s ≠ sb := own_na hw 41 rfl hE iA
  refine Go.aloadN 1 rfl d12_0 rfl rfl ?_
  refine Go.ifnonnull_r 9 d12_1 (by decide) rfl ?_
  refine Go.aloadN 10 rfl d12_9 rfl rfl ?_
  refine Go.callV 13 rfl (C := B13) a [] (rest := []) 87 88 90 89 20 91 (c13k0 Z hw h0 a R cs hS hcs s (IL vs) L hL hR iE iV iC iA) iE d12_10 rfl rfl rfl rfl rfl rfl (by decide) pd13 rfl rfl rfl (W := 0) (lb rfl) (by decide) (by decide) (by decide) (by decide) fun v101 h102 q103 => ?_
  obtain ⟨rfl, rfl⟩ := q103
  refine Go.istoreN 14 rfl d12_13 (Ls' := #[.val (.ref sb), .val (.ref a), .val (.int R)]) rfl ?_
  refine Go.aloadN 15 rfl d12_14 rfl rfl ?_
  refine Go.aloadN 16 rfl d12_15 rfl rfl ?_
  refine Go.getF 19 rfl (v := .int x) 98 d12_16 rfl hN ?_
  refine Go.iloadN 20 rfl d12_19 rfl ?_
  refine Go.iadd 21 rfl d12_20 ?_
  refine Go.callP3 24 rfl (C := B15) sb [.int (x + R)] (rest := []) 100 101 103 102 50 104 (c15k1 Z hw h0 sb (x + R) val us hul hm hV hC hA) hE d12_21 rfl rfl rfl rfl rfl rfl (by decide) pd15 rfl rfl rfl (W := 0) (lb rfl) (by decide) (by decide) (by decide) (by decide) fun v104 h105 q106 => ?_
  obtain ⟨rfl, rfl⟩ := q106
  refine Go.aloadN 25 rfl d12_24 rfl rfl ?_
  refine Go.aloadN 26 rfl d12_25 rfl rfl ?_
  refine Go.getF 29 rfl (v := .int x) 98 d12_26 rfl hN ?_
  refine Go.aloadN 30 rfl d12_29 rfl rfl ?_
  refine Go.callP3 33 rfl (C := B16) sb [.int x, .ref a] (rest := []) 105 106 108 107 50 109 (c16v100 Z hw h0 sb x a   val us vs  xn  cs hS hcs hAs hHi hLo hfm hul hx hx6 h1 h2 hvl s iE iV iC iA hge hE hV hC hN hY hA hgv hne hns) hE d12_30 rfl rfl rfl rfl rfl rfl (by decide) pd16 rfl rfl rfl (W := 0) (lb rfl) (by decide) (by decide) (by decide) (by decide) fun v107 h108 q109 => ?_
  obtain ⟨rfl, K, A⟩ := q109
  refine Go.aloadN 34 rfl d12_33 rfl rfl ?_
  refine Go.dup 35 rfl d12_34 rfl ?_
  have F110 : YBn Z h108 sb (.int x) := (hN.keep K (ninS (Ne.symm hvs) nin0))
  refine Go.getF 38 rfl (v := .int x) 98 d12_35 rfl F110 ?_
  refine Go.iloadN 39 rfl d12_38 rfl ?_
  refine Go.iadd 40 rfl d12_39 ?_
  have F111 : YEb Z h108 sb := (hE.keep K)
  refine Go.putF 43 rfl (v' := .int (x + R)) (ty := .int) 98 99 41 d12_40 rfl F110 F111 (Or.inl rfl) rfl (by decide) rfl rfl hge fun h112 K113 W114 F115 => ?_
  refine Go.aloadN 44 rfl d12_43 rfl rfl ?_
  have F116 : YBv Z h112 sb (.ref val) := (Fld.oth hw (hV.keep K (ninS (Ne.symm hvs) nin0)) W114 55 99 (Or.inl rfl) (Or.inl rfl) (by decide) rfl rfl)
  have F117 : YBc Z h112 sb (.int (1 : Int32)) := (Fld.oth hw (hC.keep K (ninS (Ne.symm hvs) nin0)) W114 57 99 (Or.inl rfl) (Or.inl rfl) (by decide) rfl rfl)
  have F118 : YBm Z h112 sb (.int (0 : Int32)) := (Fld.oth hw (hY.keep K (ninS (Ne.symm hvs) nin0)) W114 258 99 (Or.inl rfl) (Or.inl rfl) (by decide) rfl rfl)
  have F119 : Ary Z h112 val .byte (IL (us)) := (A.keep K113 (ninS hvs nin0))
  exact Go.retA d12_44 rfl rfl rfl (by decide) (by decide) ⟨rfl, (((Keep.refl h0 [sb, val]).trans K (by simp)).trans K113 (by simp)), F116, F117, F115, F118, F119⟩
def Q11v100 (Z : State) (sb : Addr) (val : Addr) (us : List Int32) (vs : List Int32) (x : Int32) (xn : Nat) (R : Int32) (h0 : Heap) (v : Option Value) (h : Heap) : Prop := v = some (.ref sb) ∧ Keep h0 h [sb, val] ∧ YBv Z h sb (.ref val) ∧ YBc Z h sb (.int 1) ∧ YBn Z h sb (.int (x + R)) ∧ YBm Z h sb (.int 0) ∧ Ary Z h val .byte (IL (us))
theorem c11v100 (Z : State) (hw : Wd Z tables_1) (h0 : Heap) (sb : Addr) (a : Addr) (val : Addr) (us : List Int32) (vs : List Int32) (x : Int32) (xn : Nat) (R : Int32) (cs : Int32) (hS : YCs Z cs) (hcs : ¬ cs = 0) (hAs : YAs Z) (hHi : YHi Z) (hLo : YLo Z) (hfm : YFm Z) (hul : us.length = 32) (hx : x.toInt = xn) (hx6 : xn ≤ 3) (h1 : ¬ (((16 : Int32) ||| x) ||| (0 : Int32)) < 0) (h2 : ¬ ((16 : Int32) - x) < (0 : Int32)) (hvl : vs.length = 0) (L : Int32) (hL : L.toInt = (IL vs).length) (hR : L >>> ((0 : Int32) &&& 31) = R) (hm : ¬ (0 : Int32) < (x + R) - (16 : Int32)) (s : Addr) (iE : YEs Z h0 a) (iV : YSv Z h0 a (.ref s)) (iC : YSc Z h0 a (.int 0)) (iA : Ary Z h0 s .byte (IL vs)) (hge : Z.heap.size ≤ sb) (hE : YEb Z h0 sb) (hV : YBv Z h0 sb (.ref val)) (hC : YBc Z h0 sb (.int 1)) (hN : YBn Z h0 sb (.int x)) (hY : YBm Z h0 sb (.int 0)) (hA : Ary Z h0 val .byte (IL us)) (hgv : Z.heap.size ≤ val) (hne : s ≠ val) (hns : a ≠ sb) : Con Z B11 (List.toArray [.ref sb, .ref a]) h0 (Q11v100 Z sb val us vs x xn R h0) := by
  refine Con.mk (Ls := #[.val (.ref sb), .val (.ref a)]) hw pn11 (fun mid => by first | (simp [entryFrame, mkF, argsToLocals, Value.category, Jvm.Ow.Bd.ml, B11]; done) | rfl) (Go.old fun hle' => ?_)
  have hle := hle'.1
  refine Go.aloadN 1 rfl d11_0 rfl rfl ?_
  refine Go.aloadN 2 rfl d11_1 rfl rfl ?_
  refine Go.callU 5 rfl (C := B12) sb [.ref a] (rest := []) 82 83 50 86 84 103 (c12v100 Z hw h0 sb a val us vs x xn R cs hS hcs hAs hHi hLo hfm hul hx hx6 h1 h2 hvl L hL hR hm s iE iV iC iA hge hE hV hC hN hY hA hgv hne hns) (Ins.self hE) d11_2 rfl rfl rfl rfl rfl rfl rfl (by decide) (by decide) pd12 rfl rfl rfl (W := 0) (lb rfl) (by decide) (by decide) (by decide) (by decide) fun v101 h102 q103 => ?_
  obtain ⟨rfl, RR⟩ := q103
  refine Go.pop 6 rfl d11_5 rfl ?_
  refine Go.aloadN 7 rfl d11_6 rfl rfl ?_
  exact Go.retA d11_7 rfl rfl rfl (by decide) (by decide) ⟨rfl, RR⟩
def Q16v11 (Z : State) (sb : Addr) (val : Addr) (us : List Int32) (vs : List Int32) (x : Int32) (xn : Nat) (yn : Nat) (h0 : Heap) (v : Option Value) (h : Heap) : Prop := v = none ∧ Keep h0 h [val] ∧ Ary Z h val .byte (IL (us.take yn ++ vs ++ us.drop (yn + vs.length)))
theorem c16v11 (Z : State) (hw : Wd Z tables_1) (h0 : Heap) (sb : Addr) (x : Int32) (a : Addr) (val : Addr) (us : List Int32) (vs : List Int32) (xn : Nat) (yn : Nat) (cs : Int32) (hS : YCs Z cs) (hcs : ¬ cs = 0) (hAs : YAs Z) (hHi : YHi Z) (hLo : YLo Z) (hfm : YFm Z) (hul : us.length = 32) (hx : x.toInt = xn) (hx6 : xn ≤ 3) (y : Int32) (hy : x <<< ((1 : Int32) &&& 31) = y) (hyn : y.toInt = yn) (L : Int32) (hL : L.toInt = (IL vs).length) (hfit : yn + vs.length ≤ us.length) (s : Addr) (iE : YEs Z h0 a) (iV : YSv Z h0 a (.ref s)) (iC : YSc Z h0 a (.int 1)) (iA : Ary Z h0 s .byte (IL vs)) (hge : Z.heap.size ≤ sb) (hE : YEb Z h0 sb) (hV : YBv Z h0 sb (.ref val)) (hC : YBc Z h0 sb (.int 1)) (hN : YBn Z h0 sb (.int x)) (hY : YBm Z h0 sb (.int 0)) (hA : Ary Z h0 val .byte (IL us)) (hgv : Z.heap.size ≤ val) (hne : s ≠ val) (hns : a ≠ sb) : Con Z B16 (List.toArray [.ref sb, .int x, .ref a]) h0 (Q16v11 Z sb val us vs x xn yn h0) := by
  refine Con.mk (Ls := #[.val (.ref sb), .val (.int x), .val (.ref a)]) hw pn16 (fun mid => by first | (simp [entryFrame, mkF, argsToLocals, Value.category, Jvm.Ow.Bd.ml, B16]; done) | rfl) (Go.old fun hle' => ?_)
  have hle := hle'.1
  have hvs : val ≠ sb := own_na hw 41 rfl hE hA
  have hss : s ≠ sb := own_na hw 41 rfl hE iA
  refine Go.aloadN 1 rfl d16_0 rfl rfl ?_
  refine Go.aloadN 2 rfl d16_1 rfl rfl ?_
  refine Go.callP3 5 rfl (C := B17) sb [.ref a] (rest := []) 110 111 113 112 50 114 (c17q11 Z hw h0 sb a cs hS hcs hE hC iE iC) hE d16_2 rfl rfl rfl rfl rfl rfl (by decide) pd17 rfl rfl rfl (W := 0) (lb rfl) (by decide) (by decide) (by decide) (by decide) fun v101 h102 q103 => ?_
  obtain ⟨rfl, rfl⟩ := q103
  refine Go.aloadN 6 rfl d16_5 rfl rfl ?_
  refine Go.aloadN 7 rfl d16_6 rfl rfl ?_
  refine Go.getF 10 rfl (v := .ref val) 54 d16_7 rfl hV ?_
  refine Go.iloadN 11 rfl d16_10 rfl ?_
  refine Go.aloadN 12 rfl d16_11 rfl rfl ?_
  refine Go.getF 15 rfl (v := .int (1 : Int32)) 56 d16_12 rfl hC ?_
  refine Go.callV 18 rfl (C := B18) a [.ref val, .int x, .int (1 : Int32)] (rest := []) 116 117 119 118 20 120 (c18k1 Z hw h0 a val x us vs yn cs hS hcs y hy hyn L hL hfit s iE iV iC iA hA hgv hne) iE d16_15 rfl rfl rfl rfl rfl rfl (by decide) pd18 rfl rfl rfl (W := 0) (lb rfl) (by decide) (by decide) (by decide) (by decide) fun v104 h105 q106 => ?_
  obtain ⟨rfl, K2, A2⟩ := q106
  exact Go.retV d16_18 rfl (by decide) (by decide) ⟨rfl, ((Keep.refl h0 [val]).trans K2 (by simp)), A2⟩
def Q12v11 (Z : State) (sb : Addr) (val : Addr) (us : List Int32) (vs : List Int32) (x : Int32) (xn : Nat) (yn : Nat) (R : Int32) (h0 : Heap) (v : Option Value) (h : Heap) : Prop := v = some (.ref sb) ∧ Keep h0 h [sb, val] ∧ YBv Z h sb (.ref val) ∧ YBc Z h sb (.int 1) ∧ YBn Z h sb (.int (x + R)) ∧ YBm Z h sb (.int 0) ∧ Ary Z h val .byte (IL (us.take yn ++ vs ++ us.drop (yn + vs.length)))
theorem c12v11 (Z : State) (hw : Wd Z tables_1) (h0 : Heap) (sb : Addr) (a : Addr) (val : Addr) (us : List Int32) (vs : List Int32) (x : Int32) (xn : Nat) (yn : Nat) (R : Int32) (cs : Int32) (hS : YCs Z cs) (hcs : ¬ cs = 0) (hAs : YAs Z) (hHi : YHi Z) (hLo : YLo Z) (hfm : YFm Z) (hul : us.length = 32) (hx : x.toInt = xn) (hx6 : xn ≤ 3) (y : Int32) (hy : x <<< ((1 : Int32) &&& 31) = y) (hyn : y.toInt = yn) (L : Int32) (hL : L.toInt = (IL vs).length) (hfit : yn + vs.length ≤ us.length) (hR : L >>> ((1 : Int32) &&& 31) = R) (hm : ¬ (0 : Int32) < (x + R) - (16 : Int32)) (s : Addr) (iE : YEs Z h0 a) (iV : YSv Z h0 a (.ref s)) (iC : YSc Z h0 a (.int 1)) (iA : Ary Z h0 s .byte (IL vs)) (hge : Z.heap.size ≤ sb) (hE : YEb Z h0 sb) (hV : YBv Z h0 sb (.ref val)) (hC : YBc Z h0 sb (.int 1)) (hN : YBn Z h0 sb (.int x)) (hY : YBm Z h0 sb (.int 0)) (hA : Ary Z h0 val .byte (IL us)) (hgv : Z.heap.size ≤ val) (hne : s ≠ val) (hns : a ≠ sb) : Con Z B12 (List.toArray [.ref sb, .ref a]) h0 (Q12v11 Z sb val us vs x xn yn R h0) := by
  refine Con.mk (Ls := #[.val (.ref sb), .val (.ref a), .unset]) hw pn12 (fun mid => by first | (simp [entryFrame, mkF, argsToLocals, Value.category, Jvm.Ow.Bd.ml, B12]; done) | rfl) (Go.old fun hle' => ?_)
  have hle := hle'.1
  have hvs : val ≠ sb := own_na hw 41 rfl hE hA
  have hss : s ≠ sb := own_na hw 41 rfl hE iA
  refine Go.aloadN 1 rfl d12_0 rfl rfl ?_
  refine Go.ifnonnull_r 9 d12_1 (by decide) rfl ?_
  refine Go.aloadN 10 rfl d12_9 rfl rfl ?_
  refine Go.callV 13 rfl (C := B13) a [] (rest := []) 87 88 90 89 20 91 (c13k1 Z hw h0 a R cs hS hcs s (IL vs) L hL hR iE iV iC iA) iE d12_10 rfl rfl rfl rfl rfl rfl (by decide) pd13 rfl rfl rfl (W := 0) (lb rfl) (by decide) (by decide) (by decide) (by decide) fun v101 h102 q103 => ?_
  obtain ⟨rfl, rfl⟩ := q103
  refine Go.istoreN 14 rfl d12_13 (Ls' := #[.val (.ref sb), .val (.ref a), .val (.int R)]) rfl ?_
  refine Go.aloadN 15 rfl d12_14 rfl rfl ?_
  refine Go.aloadN 16 rfl d12_15 rfl rfl ?_
  refine Go.getF 19 rfl (v := .int x) 98 d12_16 rfl hN ?_
  refine Go.iloadN 20 rfl d12_19 rfl ?_
  refine Go.iadd 21 rfl d12_20 ?_
  refine Go.callP3 24 rfl (C := B15) sb [.int (x + R)] (rest := []) 100 101 103 102 50 104 (c15k1 Z hw h0 sb (x + R) val us hul hm hV hC hA) hE d12_21 rfl rfl rfl rfl rfl rfl (by decide) pd15 rfl rfl rfl (W := 0) (lb rfl) (by decide) (by decide) (by decide) (by decide) fun v104 h105 q106 => ?_
  obtain ⟨rfl, rfl⟩ := q106
  refine Go.aloadN 25 rfl d12_24 rfl rfl ?_
  refine Go.aloadN 26 rfl d12_25 rfl rfl ?_
  refine Go.getF 29 rfl (v := .int x) 98 d12_26 rfl hN ?_
  refine Go.aloadN 30 rfl d12_29 rfl rfl ?_
  refine Go.callP3 33 rfl (C := B16) sb [.int x, .ref a] (rest := []) 105 106 108 107 50 109 (c16v11 Z hw h0 sb x a   val us vs  xn yn  cs hS hcs hAs hHi hLo hfm hul hx hx6 y hy hyn L hL hfit s iE iV iC iA hge hE hV hC hN hY hA hgv hne hns) hE d12_30 rfl rfl rfl rfl rfl rfl (by decide) pd16 rfl rfl rfl (W := 0) (lb rfl) (by decide) (by decide) (by decide) (by decide) fun v107 h108 q109 => ?_
  obtain ⟨rfl, K, A⟩ := q109
  refine Go.aloadN 34 rfl d12_33 rfl rfl ?_
  refine Go.dup 35 rfl d12_34 rfl ?_
  have F110 : YBn Z h108 sb (.int x) := (hN.keep K (ninS (Ne.symm hvs) nin0))
  refine Go.getF 38 rfl (v := .int x) 98 d12_35 rfl F110 ?_
  refine Go.iloadN 39 rfl d12_38 rfl ?_
  refine Go.iadd 40 rfl d12_39 ?_
  have F111 : YEb Z h108 sb := (hE.keep K)
  refine Go.putF 43 rfl (v' := .int (x + R)) (ty := .int) 98 99 41 d12_40 rfl F110 F111 (Or.inl rfl) rfl (by decide) rfl rfl hge fun h112 K113 W114 F115 => ?_
  refine Go.aloadN 44 rfl d12_43 rfl rfl ?_
  have F116 : YBv Z h112 sb (.ref val) := (Fld.oth hw (hV.keep K (ninS (Ne.symm hvs) nin0)) W114 55 99 (Or.inl rfl) (Or.inl rfl) (by decide) rfl rfl)
  have F117 : YBc Z h112 sb (.int (1 : Int32)) := (Fld.oth hw (hC.keep K (ninS (Ne.symm hvs) nin0)) W114 57 99 (Or.inl rfl) (Or.inl rfl) (by decide) rfl rfl)
  have F118 : YBm Z h112 sb (.int (0 : Int32)) := (Fld.oth hw (hY.keep K (ninS (Ne.symm hvs) nin0)) W114 258 99 (Or.inl rfl) (Or.inl rfl) (by decide) rfl rfl)
  have F119 : Ary Z h112 val .byte (IL (us.take yn ++ vs ++ us.drop (yn + vs.length))) := (A.keep K113 (ninS hvs nin0))
  exact Go.retA d12_44 rfl rfl rfl (by decide) (by decide) ⟨rfl, (((Keep.refl h0 [sb, val]).trans K (by simp)).trans K113 (by simp)), F116, F117, F115, F118, F119⟩
def Q11v11 (Z : State) (sb : Addr) (val : Addr) (us : List Int32) (vs : List Int32) (x : Int32) (xn : Nat) (yn : Nat) (R : Int32) (h0 : Heap) (v : Option Value) (h : Heap) : Prop := v = some (.ref sb) ∧ Keep h0 h [sb, val] ∧ YBv Z h sb (.ref val) ∧ YBc Z h sb (.int 1) ∧ YBn Z h sb (.int (x + R)) ∧ YBm Z h sb (.int 0) ∧ Ary Z h val .byte (IL (us.take yn ++ vs ++ us.drop (yn + vs.length)))
theorem c11v11 (Z : State) (hw : Wd Z tables_1) (h0 : Heap) (sb : Addr) (a : Addr) (val : Addr) (us : List Int32) (vs : List Int32) (x : Int32) (xn : Nat) (yn : Nat) (R : Int32) (cs : Int32) (hS : YCs Z cs) (hcs : ¬ cs = 0) (hAs : YAs Z) (hHi : YHi Z) (hLo : YLo Z) (hfm : YFm Z) (hul : us.length = 32) (hx : x.toInt = xn) (hx6 : xn ≤ 3) (y : Int32) (hy : x <<< ((1 : Int32) &&& 31) = y) (hyn : y.toInt = yn) (L : Int32) (hL : L.toInt = (IL vs).length) (hfit : yn + vs.length ≤ us.length) (hR : L >>> ((1 : Int32) &&& 31) = R) (hm : ¬ (0 : Int32) < (x + R) - (16 : Int32)) (s : Addr) (iE : YEs Z h0 a) (iV : YSv Z h0 a (.ref s)) (iC : YSc Z h0 a (.int 1)) (iA : Ary Z h0 s .byte (IL vs)) (hge : Z.heap.size ≤ sb) (hE : YEb Z h0 sb) (hV : YBv Z h0 sb (.ref val)) (hC : YBc Z h0 sb (.int 1)) (hN : YBn Z h0 sb (.int x)) (hY : YBm Z h0 sb (.int 0)) (hA : Ary Z h0 val .byte (IL us)) (hgv : Z.heap.size ≤ val) (hne : s ≠ val) (hns : a ≠ sb) : Con Z B11 (List.toArray [.ref sb, .ref a]) h0 (Q11v11 Z sb val us vs x xn yn R h0) := by
  refine Con.mk (Ls := #[.val (.ref sb), .val (.ref a)]) hw pn11 (fun mid => by first | (simp [entryFrame, mkF, argsToLocals, Value.category, Jvm.Ow.Bd.ml, B11]; done) | rfl) (Go.old fun hle' => ?_)
  have hle := hle'.1
  refine Go.aloadN 1 rfl d11_0 rfl rfl ?_
  refine Go.aloadN 2 rfl d11_1 rfl rfl ?_
  refine Go.callU 5 rfl (C := B12) sb [.ref a] (rest := []) 82 83 50 86 84 103 (c12v11 Z hw h0 sb a val us vs x xn yn R cs hS hcs hAs hHi hLo hfm hul hx hx6 y hy hyn L hL hfit hR hm s iE iV iC iA hge hE hV hC hN hY hA hgv hne hns) (Ins.self hE) d11_2 rfl rfl rfl rfl rfl rfl rfl (by decide) (by decide) pd12 rfl rfl rfl (W := 0) (lb rfl) (by decide) (by decide) (by decide) (by decide) fun v101 h102 q103 => ?_
  obtain ⟨rfl, RR⟩ := q103
  refine Go.pop 6 rfl d11_5 rfl ?_
  refine Go.aloadN 7 rfl d11_6 rfl rfl ?_
  exact Go.retA d11_7 rfl rfl rfl (by decide) (by decide) ⟨rfl, RR⟩
def Q16v00 (Z : State) (sb : Addr) (val : Addr) (us : List Int32) (vs : List Int32) (x : Int32) (xn : Nat) (yn : Nat) (h0 : Heap) (v : Option Value) (h : Heap) : Prop := v = none ∧ Keep h0 h [val] ∧ Ary Z h val .byte (IL (us.take yn ++ vs ++ us.drop (yn + vs.length)))
theorem c16v00 (Z : State) (hw : Wd Z tables_1) (h0 : Heap) (sb : Addr) (x : Int32) (a : Addr) (val : Addr) (us : List Int32) (vs : List Int32) (xn : Nat) (yn : Nat) (cs : Int32) (hS : YCs Z cs) (hcs : ¬ cs = 0) (hAs : YAs Z) (hHi : YHi Z) (hLo : YLo Z) (hfm : YFm Z) (hul : us.length = 16) (hx : x.toInt = xn) (hx6 : xn ≤ 3) (y : Int32) (hy : x <<< ((0 : Int32) &&& 31) = y) (hyn : y.toInt = yn) (L : Int32) (hL : L.toInt = (IL vs).length) (hfit : yn + vs.length ≤ us.length) (s : Addr) (iE : YEs Z h0 a) (iV : YSv Z h0 a (.ref s)) (iC : YSc Z h0 a (.int 0)) (iA : Ary Z h0 s .byte (IL vs)) (hge : Z.heap.size ≤ sb) (hE : YEb Z h0 sb) (hV : YBv Z h0 sb (.ref val)) (hC : YBc Z h0 sb (.int 0)) (hN : YBn Z h0 sb (.int x)) (hY : YBm Z h0 sb (.int 0)) (hA : Ary Z h0 val .byte (IL us)) (hgv : Z.heap.size ≤ val) (hne : s ≠ val) (hns : a ≠ sb) : Con Z B16 (List.toArray [.ref sb, .int x, .ref a]) h0 (Q16v00 Z sb val us vs x xn yn h0) := by
  refine Con.mk (Ls := #[.val (.ref sb), .val (.int x), .val (.ref a)]) hw pn16 (fun mid => by first | (simp [entryFrame, mkF, argsToLocals, Value.category, Jvm.Ow.Bd.ml, B16]; done) | rfl) (Go.old fun hle' => ?_)
  have hle := hle'.1
  have hvs : val ≠ sb := own_na hw 41 rfl hE hA
  have hss : s ≠ sb := own_na hw 41 rfl hE iA
  refine Go.aloadN 1 rfl d16_0 rfl rfl ?_
  refine Go.aloadN 2 rfl d16_1 rfl rfl ?_
  refine Go.callP3 5 rfl (C := B17) sb [.ref a] (rest := []) 110 111 113 112 50 114 (c17q00 Z hw h0 sb a cs hS hcs hE hC iE iC) hE d16_2 rfl rfl rfl rfl rfl rfl (by decide) pd17 rfl rfl rfl (W := 0) (lb rfl) (by decide) (by decide) (by decide) (by decide) fun v101 h102 q103 => ?_
  obtain ⟨rfl, rfl⟩ := q103
  refine Go.aloadN 6 rfl d16_5 rfl rfl ?_
  refine Go.aloadN 7 rfl d16_6 rfl rfl ?_
  refine Go.getF 10 rfl (v := .ref val) 54 d16_7 rfl hV ?_
  refine Go.iloadN 11 rfl d16_10 rfl ?_
  refine Go.aloadN 12 rfl d16_11 rfl rfl ?_
  refine Go.getF 15 rfl (v := .int (0 : Int32)) 56 d16_12 rfl hC ?_
  refine Go.callV 18 rfl (C := B18) a [.ref val, .int x, .int (0 : Int32)] (rest := []) 116 117 119 118 20 120 (c18k0 Z hw h0 a val x us vs yn cs hS hcs y hy hyn L hL hfit s iE iV iC iA hA hgv hne) iE d16_15 rfl rfl rfl rfl rfl rfl (by decide) pd18 rfl rfl rfl (W := 0) (lb rfl) (by decide) (by decide) (by decide) (by decide) fun v104 h105 q106 => ?_
  obtain ⟨rfl, K2, A2⟩ := q106
  exact Go.retV d16_18 rfl (by decide) (by decide) ⟨rfl, ((Keep.refl h0 [val]).trans K2 (by simp)), A2⟩
def Q12v00 (Z : State) (sb : Addr) (val : Addr) (us : List Int32) (vs : List Int32) (x : Int32) (xn : Nat) (yn : Nat) (R : Int32) (h0 : Heap) (v : Option Value) (h : Heap) : Prop := v = some (.ref sb) ∧ Keep h0 h [sb, val] ∧ YBv Z h sb (.ref val) ∧ YBc Z h sb (.int 0) ∧ YBn Z h sb (.int (x + R)) ∧ YBm Z h sb (.int 0) ∧ Ary Z h val .byte (IL (us.take yn ++ vs ++ us.drop (yn + vs.length)))
theorem c12v00 (Z : State) (hw : Wd Z tables_1) (h0 : Heap) (sb : Addr) (a : Addr) (val : Addr) (us : List Int32) (vs : List Int32) (x : Int32) (xn : Nat) (yn : Nat) (R : Int32) (cs : Int32) (hS : YCs Z cs) (hcs : ¬ cs = 0) (hAs : YAs Z) (hHi : YHi Z) (hLo : YLo Z) (hfm : YFm Z) (hul : us.length = 16) (hx : x.toInt = xn) (hx6 : xn ≤ 3) (y : Int32) (hy : x <<< ((0 : Int32) &&& 31) = y) (hyn : y.toInt = yn) (L : Int32) (hL : L.toInt = (IL vs).length) (hfit : yn + vs.length ≤ us.length) (hR : L >>> ((0 : Int32) &&& 31) = R) (hm : ¬ (0 : Int32) < (x + R) - (16 : Int32)) (s : Addr) (iE : YEs Z h0 a) (iV : YSv Z h0 a (.ref s)) (iC : YSc Z h0 a (.int 0)) (iA : Ary Z h0 s .byte (IL vs)) (hge : Z.heap.size ≤ sb) (hE : YEb Z h0 sb) (hV : YBv Z h0 sb (.ref val)) (hC : YBc Z h0 sb (.int 0)) (hN : YBn Z h0 sb (.int x)) (hY : YBm Z h0 sb (.int 0)) (hA : Ary Z h0 val .byte (IL us)) (hgv : Z.heap.size ≤ val) (hne : s ≠ val) (hns : a ≠ sb) : Con Z B12 (List.toArray [.ref sb, .ref a]) h0 (Q12v00 Z sb val us vs x xn yn R h0) := by
  refine Con.mk (Ls := #[.val (.ref sb), .val (.ref a), .unset]) hw pn12 (fun mid => by first | (simp [entryFrame, mkF, argsToLocals, Value.category, Jvm.Ow.Bd.ml, B12]; done) | rfl) (Go.old fun hle' => ?_)
  have hle := hle'.1
  have hvs : val ≠ sb := own_na hw 41 rfl hE hA
  have hss : s ≠ sb := own_na hw 41 rfl hE iA
  refine Go.aloadN 1 rfl d12_0 rfl rfl ?_
  refine Go.ifnonnull_r 9 d12_1 (by decide) rfl ?_
  refine Go.aloadN 10 rfl d12_9 rfl rfl ?_
  refine Go.callV 13 rfl (C := B13) a [] (rest := []) 87 88 90 89 20 91 (c13k0 Z hw h0 a R cs hS hcs s (IL vs) L hL hR iE iV iC iA) iE d12_10 rfl rfl rfl rfl rfl rfl (by decide) pd13 rfl rfl rfl (W := 0) (lb rfl) (by decide) (by decide) (by decide) (by decide) fun v101 h102 q103 => ?_
  obtain ⟨rfl, rfl⟩ := q103
  refine Go.istoreN 14 rfl d12_13 (Ls' := #[.val (.ref sb), .val (.ref a), .val (.int R)]) rfl ?_
  refine Go.aloadN 15 rfl d12_14 rfl rfl ?_
  refine Go.aloadN 16 rfl d12_15 rfl rfl ?_
  refine Go.getF 19 rfl (v := .int x) 98 d12_16 rfl hN ?_
  refine Go.iloadN 20 rfl d12_19 rfl ?_
  refine Go.iadd 21 rfl d12_20 ?_
  refine Go.callP3 24 rfl (C := B15) sb [.int (x + R)] (rest := []) 100 101 103 102 50 104 (c15k0 Z hw h0 sb (x + R) val us hul hm hV hC hA) hE d12_21 rfl rfl rfl rfl rfl rfl (by decide) pd15 rfl rfl rfl (W := 0) (lb rfl) (by decide) (by decide) (by decide) (by decide) fun v104 h105 q106 => ?_
  obtain ⟨rfl, rfl⟩ := q106
  refine Go.aloadN 25 rfl d12_24 rfl rfl ?_
  refine Go.aloadN 26 rfl d12_25 rfl rfl ?_
  refine Go.getF 29 rfl (v := .int x) 98 d12_26 rfl hN ?_
  refine Go.aloadN 30 rfl d12_29 rfl rfl ?_
  refine Go.callP3 33 rfl (C := B16) sb [.int x, .ref a] (rest := []) 105 106 108 107 50 109 (c16v00 Z hw h0 sb x a   val us vs  xn yn  cs hS hcs hAs hHi hLo hfm hul hx hx6 y hy hyn L hL hfit s iE iV iC iA hge hE hV hC hN hY hA hgv hne hns) hE d12_30 rfl rfl rfl rfl rfl rfl (by decide) pd16 rfl rfl rfl (W := 0) (lb rfl) (by decide) (by decide) (by decide) (by decide) fun v107 h108 q109 => ?_
  obtain ⟨rfl, K, A⟩ := q109
  refine Go.aloadN 34 rfl d12_33 rfl rfl ?_
  refine Go.dup 35 rfl d12_34 rfl ?_
  have F110 : YBn Z h108 sb (.int x) := (hN.keep K (ninS (Ne.symm hvs) nin0))
  refine Go.getF 38 rfl (v := .int x) 98 d12_35 rfl F110 ?_
  refine Go.iloadN 39 rfl d12_38 rfl ?_
  refine Go.iadd 40 rfl d12_39 ?_
  have F111 : YEb Z h108 sb := (hE.keep K)
  refine Go.putF 43 rfl (v' := .int (x + R)) (ty := .int) 98 99 41 d12_40 rfl F110 F111 (Or.inl rfl) rfl (by decide) rfl rfl hge fun h112 K113 W114 F115 => ?_
  refine Go.aloadN 44 rfl d12_43 rfl rfl ?_
  have F116 : YBv Z h112 sb (.ref val) := (Fld.oth hw (hV.keep K (ninS (Ne.symm hvs) nin0)) W114 55 99 (Or.inl rfl) (Or.inl rfl) (by decide) rfl rfl)
  have F117 : YBc Z h112 sb (.int (0 : Int32)) := (Fld.oth hw (hC.keep K (ninS (Ne.symm hvs) nin0)) W114 57 99 (Or.inl rfl) (Or.inl rfl) (by decide) rfl rfl)
  have F118 : YBm Z h112 sb (.int (0 : Int32)) := (Fld.oth hw (hY.keep K (ninS (Ne.symm hvs) nin0)) W114 258 99 (Or.inl rfl) (Or.inl rfl) (by decide) rfl rfl)
  have F119 : Ary Z h112 val .byte (IL (us.take yn ++ vs ++ us.drop (yn + vs.length))) := (A.keep K113 (ninS hvs nin0))
  exact Go.retA d12_44 rfl rfl rfl (by decide) (by decide) ⟨rfl, (((Keep.refl h0 [sb, val]).trans K (by simp)).trans K113 (by simp)), F116, F117, F115, F118, F119⟩
def Q11v00 (Z : State) (sb : Addr) (val : Addr) (us : List Int32) (vs : List Int32) (x : Int32) (xn : Nat) (yn : Nat) (R : Int32) (h0 : Heap) (v : Option Value) (h : Heap) : Prop := v = some (.ref sb) ∧ Keep h0 h [sb, val] ∧ YBv Z h sb (.ref val) ∧ YBc Z h sb (.int 0) ∧ YBn Z h sb (.int (x + R)) ∧ YBm Z h sb (.int 0) ∧ Ary Z h val .byte (IL (us.take yn ++ vs ++ us.drop (yn + vs.length)))
theorem c11v00 (Z : State) (hw : Wd Z tables_1) (h0 : Heap) (sb : Addr) (a : Addr) (val : Addr) (us : List Int32) (vs : List Int32) (x : Int32) (xn : Nat) (yn : Nat) (R : Int32) (cs : Int32) (hS : YCs Z cs) (hcs : ¬ cs = 0) (hAs : YAs Z) (hHi : YHi Z) (hLo : YLo Z) (hfm : YFm Z) (hul : us.length = 16) (hx : x.toInt = xn) (hx6 : xn ≤ 3) (y : Int32) (hy : x <<< ((0 : Int32) &&& 31) = y) (hyn : y.toInt = yn) (L : Int32) (hL : L.toInt = (IL vs).length) (hfit : yn + vs.length ≤ us.length) (hR : L >>> ((0 : Int32) &&& 31) = R) (hm : ¬ (0 : Int32) < (x + R) - (16 : Int32)) (s : Addr) (iE : YEs Z h0 a) (iV : YSv Z h0 a (.ref s)) (iC : YSc Z h0 a (.int 0)) (iA : Ary Z h0 s .byte (IL vs)) (hge : Z.heap.size ≤ sb) (hE : YEb Z h0 sb) (hV : YBv Z h0 sb (.ref val)) (hC : YBc Z h0 sb (.int 0)) (hN : YBn Z h0 sb (.int x)) (hY : YBm Z h0 sb (.int 0)) (hA : Ary Z h0 val .byte (IL us)) (hgv : Z.heap.size ≤ val) (hne : s ≠ val) (hns : a ≠ sb) : Con Z B11 (List.toArray [.ref sb, .ref a]) h0 (Q11v00 Z sb val us vs x xn yn R h0) := by
  refine Con.mk (Ls := #[.val (.ref sb), .val (.ref a)]) hw pn11 (fun mid => by first | (simp [entryFrame, mkF, argsToLocals, Value.category, Jvm.Ow.Bd.ml, B11]; done) | rfl) (Go.old fun hle' => ?_)
  have hle := hle'.1
  refine Go.aloadN 1 rfl d11_0 rfl rfl ?_
  refine Go.aloadN 2 rfl d11_1 rfl rfl ?_
  refine Go.callU 5 rfl (C := B12) sb [.ref a] (rest := []) 82 83 50 86 84 103 (c12v00 Z hw h0 sb a val us vs x xn yn R cs hS hcs hAs hHi hLo hfm hul hx hx6 y hy hyn L hL hfit hR hm s iE iV iC iA hge hE hV hC hN hY hA hgv hne hns) (Ins.self hE) d11_2 rfl rfl rfl rfl rfl rfl rfl (by decide) (by decide) pd12 rfl rfl rfl (W := 0) (lb rfl) (by decide) (by decide) (by decide) (by decide) fun v101 h102 q103 => ?_
  obtain ⟨rfl, RR⟩ := q103
  refine Go.pop 6 rfl d11_5 rfl ?_
  refine Go.aloadN 7 rfl d11_6 rfl rfl ?_
  exact Go.retA d11_7 rfl rfl rfl (by decide) (by decide) ⟨rfl, RR⟩
theorem d21_0 : decode jdk_42_method_150_code 0 = .ok (.aload_n 0, 1) := by decide +kernel
theorem d21_1 : decode jdk_42_method_150_code 1 = .ok (.invokespecial 1, 3) := by decide +kernel
theorem d21_4 : decode jdk_42_method_150_code 4 = .ok (.aload_n 1, 1) := by decide +kernel
theorem d21_5 : decode jdk_42_method_150_code 5 = .ok (.invokevirtual 552, 3) := by decide +kernel
theorem d21_8 : decode jdk_42_method_150_code 8 = .ok (.astore_n 3, 1) := by decide +kernel
theorem d21_9 : decode jdk_42_method_150_code 9 = .ok (.aload_n 1, 1) := by decide +kernel
theorem d21_10 : decode jdk_42_method_150_code 10 = .ok (.invokevirtual 549, 3) := by decide +kernel
theorem d21_13 : decode jdk_42_method_150_code 13 = .ok (.istore 4, 2) := by decide +kernel
theorem d21_15 : decode jdk_42_method_150_code 15 = .ok (.aload_n 1, 1) := by decide +kernel
theorem d21_16 : decode jdk_42_method_150_code 16 = .ok (.invokevirtual 1047, 3) := by decide +kernel
theorem d21_19 : decode jdk_42_method_150_code 19 = .ok (.ifCond .eq 22, 3) := by decide +kernel
theorem d21_22 : decode jdk_42_method_150_code 22 = .ok (.aload_n 0, 1) := by decide +kernel
theorem d21_23 : decode jdk_42_method_150_code 23 = .ok (.iconst 0, 1) := by decide +kernel
theorem d21_24 : decode jdk_42_method_150_code 24 = .ok (.putfield 15, 3) := by decide +kernel
theorem d21_27 : decode jdk_42_method_150_code 27 = .ok (.aload_n 0, 1) := by decide +kernel
theorem d21_28 : decode jdk_42_method_150_code 28 = .ok (.aload_n 3, 1) := by decide +kernel
theorem d21_29 : decode jdk_42_method_150_code 29 = .ok (.iconst 0, 1) := by decide +kernel
theorem d21_30 : decode jdk_42_method_150_code 30 = .ok (.iload 4, 2) := by decide +kernel
theorem d21_32 : decode jdk_42_method_150_code 32 = .ok (.invokestatic 54, 3) := by decide +kernel
theorem d21_35 : decode jdk_42_method_150_code 35 = .ok (.putfield 9, 3) := by decide +kernel
theorem d21_38 : decode jdk_42_method_150_code 38 = .ok (.goto 59, 3) := by decide +kernel
theorem d21_41 : decode jdk_42_method_150_code 41 = .ok (.getstatic 38, 3) := by decide +kernel
theorem d21_44 : decode jdk_42_method_150_code 44 = .ok (.ifCond .eq 35, 3) := by decide +kernel
theorem d21_47 : decode jdk_42_method_150_code 47 = .ok (.aload_n 1, 1) := by decide +kernel
theorem d21_48 : decode jdk_42_method_150_code 48 = .ok (.getfield 1048, 3) := by decide +kernel
theorem d21_51 : decode jdk_42_method_150_code 51 = .ok (.ifCond .eq 28, 3) := by decide +kernel
theorem d21_79 : decode jdk_42_method_150_code 79 = .ok (.aload_n 0, 1) := by decide +kernel
theorem d21_80 : decode jdk_42_method_150_code 80 = .ok (.iconst 1, 1) := by decide +kernel
theorem d21_81 : decode jdk_42_method_150_code 81 = .ok (.putfield 15, 3) := by decide +kernel
theorem d21_84 : decode jdk_42_method_150_code 84 = .ok (.aload_n 0, 1) := by decide +kernel
theorem d21_85 : decode jdk_42_method_150_code 85 = .ok (.aload_n 3, 1) := by decide +kernel
theorem d21_86 : decode jdk_42_method_150_code 86 = .ok (.iconst 0, 1) := by decide +kernel
theorem d21_87 : decode jdk_42_method_150_code 87 = .ok (.iload 4, 2) := by decide +kernel
theorem d21_89 : decode jdk_42_method_150_code 89 = .ok (.iconst 1, 1) := by decide +kernel
theorem d21_90 : decode jdk_42_method_150_code 90 = .ok (.ishl, 1) := by decide +kernel
theorem d21_91 : decode jdk_42_method_150_code 91 = .ok (.invokestatic 54, 3) := by decide +kernel
theorem d21_94 : decode jdk_42_method_150_code 94 = .ok (.putfield 9, 3) := by decide +kernel
theorem d21_97 : decode jdk_42_method_150_code 97 = .ok (.return_, 1) := by decide +kernel
theorem pd21 : parseMethodDescriptor "(Ljava/lang/AbstractStringBuilder;Ljava/lang/Void;)V" = some ⟨[(.object "java/lang/AbstractStringBuilder"), (.object "java/lang/Void")], none⟩ := by decide +kernel
theorem pn21 : plainFor (⟨"java/lang/String", "<init>", "(Ljava/lang/AbstractStringBuilder;Ljava/lang/Void;)V"⟩ : MethodName) = true := by first | (refine plainFor_of_name ?_; simp [plainName, overriddenIn]; done) | (refine plainFor_of_name ?_; decide +kernel) | decide +kernel
abbrev B21 : Bd := ((⟨"java/lang/String", "<init>", "(Ljava/lang/AbstractStringBuilder;Ljava/lang/Void;)V"⟩ : MethodName), jdk_42_method_150_code, 5, none, ({ frames := 3, cells := 1, slots := 10, locals := 49 } : Room), tables_1)
def Q21k0 (Z : State) (a : Addr) (us : List Int32) (yn : Nat) (h0 : Heap) (v : Option Value) (h : Heap) : Prop := v = none ∧ ∃ t, h0.size ≤ t ∧ Keep h0 h [a] ∧ YSv Z h a (.ref t) ∧ YSc Z h a (.int 0) ∧ Ary Z h t .byte (IL (us.take yn))
theorem c21k0 (Z : State) (hw : Wd Z tables_1) (h0 : Heap) (a : Addr) (sb : Addr) (us : List Int32) (yn : Nat) (cs : Int32) (hS : YCs Z cs) (hcs : ¬ cs = 0) (val : Addr) (y : Int32) (hyn : y.toInt = yn) (hy9 : yn ≤ 10) (hyl : y < (16 : Int32)) (hy0 : ¬ y < (0 : Int32)) (hul : us.length = 16) (hge : Z.heap.size ≤ a) (hE : YEs Z h0 a) (hV : YSv Z h0 a .null) (hC : YSc Z h0 a (.int 0)) (bhE : YEb Z h0 sb) (bhV : YBv Z h0 sb (.ref val)) (bhC : YBc Z h0 sb (.int 0)) (bhN : YBn Z h0 sb (.int y)) (bhY : YBm Z h0 sb (.int 0)) (bhA : Ary Z h0 val .byte (IL us)) (hnb : sb ≠ a) : Con Z B21 (List.toArray [.ref a, .ref sb, .null]) h0 (Q21k0 Z a us yn h0) := by
  refine Con.mk (Ls := #[.val (.ref a), .val (.ref sb), .val (.null), .unset, .unset]) hw pn21 (fun mid => by first | (simp [entryFrame, mkF, argsToLocals, Value.category, Jvm.Ow.Bd.ml, B21]; done) | rfl) (Go.old fun hle' => ?_)
  have hle := hle'.1
  have hva : val ≠ a := own_na hw 21 rfl hE bhA
  refine Go.aloadN 1 rfl d21_0 rfl rfl ?_
  refine Go.initO 4 rfl 73 17 18 d21_1 rfl rfl rfl rfl (by decide) (W := 0) (lb rfl) (by decide) ?_
  refine Go.aloadN 5 rfl d21_4 rfl rfl ?_
  refine Go.callV 8 rfl (C := B22) sb [] (rest := []) 138 139 141 140 50 142 (c22 Z hw h0 sb val bhV) bhE d21_5 rfl rfl rfl rfl rfl rfl (by decide) pd22 rfl rfl rfl (W := 0) (lb rfl) (by decide) (by decide) (by decide) (by decide) fun v101 h102 q103 => ?_
  obtain ⟨rfl, rfl⟩ := q103
  refine Go.astoreN 9 rfl d21_8 rfl (Ls' := #[.val (.ref a), .val (.ref sb), .val (.null), .val (.ref val), .unset]) rfl ?_
  refine Go.aloadN 10 rfl d21_9 rfl rfl ?_
  refine Go.callVZ 13 rfl (C := B23) (y := ⟨"java/lang/AbstractStringBuilder", "length", "()I"⟩) sb [] (rest := []) 143 144 146 147 42 148 103 (c23 Z hw h0 sb y bhE bhN) bhE d21_10 rfl rfl rfl rfl rfl rfl rfl rfl (by decide) pd23 rfl rfl rfl (W := 0) (lb rfl) (by decide) (by decide) (by decide) (by decide) fun v104 h105 q106 => ?_
  obtain ⟨rfl, rfl⟩ := q106
  refine Go.istore 15 rfl d21_13 (Ls' := #[.val (.ref a), .val (.ref sb), .val (.null), .val (.ref val), .val (.int y)]) rfl ?_
  refine Go.aloadN 16 rfl d21_15 rfl rfl ?_
  refine Go.callV 19 rfl (C := B25) sb [] (rest := []) 151 152 154 153 50 155 (c25k0 Z hw h0 sb cs hS hcs bhC) bhE d21_16 rfl rfl rfl rfl rfl rfl (by decide) pd25 rfl rfl rfl (W := 0) (lb rfl) (by decide) (by decide) (by decide) (by decide) fun v107 h108 q109 => ?_
  obtain ⟨rfl, rfl⟩ := q109
  refine Go.if_eq 41 22 d21_19 (by decide) rfl rfl (fun (b110 : (1 : Int32) = 0) => ?_) (fun (b110 : ¬ (1 : Int32) = 0) => ?_)
  · exact absurd b110 (show ¬ (1 : Int32) = 0 from (by decide))
  · refine Go.aloadN 23 rfl d21_22 rfl rfl ?_
    refine Go.iconst 24 rfl (0 : Int32) d21_23 rfl ?_
    refine Go.putF 27 rfl (v' := .int (0 : Int32)) (ty := .byte) 76 23 21 d21_24 rfl hC hE (Or.inr ⟨rfl, rfl, rfl⟩) rfl (by decide) rfl rfl hge fun h111 K112 W113 F114 => ?_
    refine Go.aloadN 28 rfl d21_27 rfl rfl ?_
    refine Go.aloadN 29 rfl d21_28 rfl rfl ?_
    refine Go.iconst 30 rfl (0 : Int32) d21_29 rfl ?_
    refine Go.iload 32 rfl d21_30 rfl ?_
    have F115 : Ary Z h111 val .byte (IL us) := (bhA.keep K112 (ninS hva nin0))
    refine Go.callS 35 rfl (C := B26) [.ref val, .int (0 : Int32), .int y] (rest := [.ref a]) 156 157 158 159 (c26p Z hw h111 val y us yn hyn hy9 (16 : Int32) (by rw [IL.len, hul]; rfl) hyl (by omega) hy0 F115) d21_32 rfl rfl rfl rfl (by decide) pd26 rfl rfl rfl (W := 1) (lb rfl) (by decide) (by decide) (by decide) (by decide) fun v116 h117 q118 => ?_
    obtain ⟨t, rfl, g, K, At⟩ := q118
    have z119 : Z.heap.size ≤ t := Nat.le_trans (Nat.le_trans hle K112.1) g
    have F120 : YSv Z h117 a (.null) := ((Fld.oth hw hV W113 22 23 (Or.inr rfl) (Or.inr rfl) (by decide) rfl rfl).keep K nin0)
    have F121 : YEs Z h117 a := ((hE.keep K112).keep K)
    refine Go.putF 38 rfl (v' := .ref t) (ty := (.array .byte)) 75 22 21 d21_35 rfl F120 F121 (Or.inr ⟨rfl, rfl, rfl⟩) rfl (by decide) rfl rfl hge fun h122 K123 W124 F125 => ?_
    refine Go.goto 97 d21_38 (by decide) (by decide) ?_
    have kc126 : Keep h0 h122 [a] := ((((Keep.refl h0 [a]).trans K112 (by simp)).trans K all0).trans K123 (by simp))
    have F127 : YSc Z h122 a (.int (0 : Int32)) := (Fld.oth hw (F114.keep K nin0) W124 23 22 (Or.inr rfl) (Or.inr rfl) (by decide) rfl rfl)
    have ne128 : t ≠ a := (show @Ne Nat t a from by have := ltN F114.lt; have := g; omega)
    have F129 : Ary Z h122 t .byte (IL (us.take yn)) := (At.keep K123 (ninS ne128 nin0))
    exact Go.retV d21_97 rfl (by decide) (by decide) ⟨rfl, t, (by have := K112.1; have := g; omega), kc126, F125, F127, F129⟩
theorem d20_0 : decode jdk_42_method_53_code 0 = .ok (.aload_n 0, 1) := by decide +kernel
theorem d20_1 : decode jdk_42_method_53_code 1 = .ok (.aload_n 1, 1) := by decide +kernel
theorem d20_2 : decode jdk_42_method_53_code 2 = .ok (.aconst_null, 1) := by decide +kernel
theorem d20_3 : decode jdk_42_method_53_code 3 = .ok (.invokespecial 489, 3) := by decide +kernel
theorem d20_6 : decode jdk_42_method_53_code 6 = .ok (.return_, 1) := by decide +kernel
theorem pd20 : parseMethodDescriptor "(Ljava/lang/StringBuilder;)V" = some ⟨[(.object "java/lang/StringBuilder")], none⟩ := by decide +kernel
theorem pn20 : plainFor (⟨"java/lang/String", "<init>", "(Ljava/lang/StringBuilder;)V"⟩ : MethodName) = true := by first | (refine plainFor_of_name ?_; simp [plainName, overriddenIn]; done) | (refine plainFor_of_name ?_; decide +kernel) | decide +kernel
abbrev B20 : Bd := ((⟨"java/lang/String", "<init>", "(Ljava/lang/StringBuilder;)V"⟩ : MethodName), jdk_42_method_53_code, 2, none, ({ frames := 4, cells := 1, slots := 10, locals := 65 } : Room), tables_1)
def Q20k0 (Z : State) (a : Addr) (us : List Int32) (yn : Nat) (h0 : Heap) (v : Option Value) (h : Heap) : Prop := v = none ∧ ∃ t, h0.size ≤ t ∧ Keep h0 h [a] ∧ YSv Z h a (.ref t) ∧ YSc Z h a (.int 0) ∧ Ary Z h t .byte (IL (us.take yn))
theorem c20k0 (Z : State) (hw : Wd Z tables_1) (h0 : Heap) (a : Addr) (sb : Addr) (us : List Int32) (yn : Nat) (cs : Int32) (hS : YCs Z cs) (hcs : ¬ cs = 0) (val : Addr) (y : Int32) (hyn : y.toInt = yn) (hy9 : yn ≤ 10) (hyl : y < (16 : Int32)) (hy0 : ¬ y < (0 : Int32)) (hul : us.length = 16) (hge : Z.heap.size ≤ a) (hE : YEs Z h0 a) (hV : YSv Z h0 a .null) (hC : YSc Z h0 a (.int 0)) (bhE : YEb Z h0 sb) (bhV : YBv Z h0 sb (.ref val)) (bhC : YBc Z h0 sb (.int 0)) (bhN : YBn Z h0 sb (.int y)) (bhY : YBm Z h0 sb (.int 0)) (bhA : Ary Z h0 val .byte (IL us)) (hnb : sb ≠ a) : Con Z B20 (List.toArray [.ref a, .ref sb]) h0 (Q20k0 Z a us yn h0) := by
  refine Con.mk (Ls := #[.val (.ref a), .val (.ref sb)]) hw pn20 (fun mid => by first | (simp [entryFrame, mkF, argsToLocals, Value.category, Jvm.Ow.Bd.ml, B20]; done) | rfl) (Go.old fun hle' => ?_)
  have hle := hle'.1
  refine Go.aloadN 1 rfl d20_0 rfl rfl ?_
  refine Go.aloadN 2 rfl d20_1 rfl rfl ?_
  refine Go.aconstNull 3 rfl d20_2 ?_
  refine Go.callI 6 rfl (C := B21) a [.ref sb, .null] (rest := []) 135 136 20 137 (c21k0 Z hw h0 a sb us yn cs hS hcs val y hyn hy9 hyl hy0 hul hge hE hV hC bhE bhV bhC bhN bhY bhA hnb) d20_3 rfl rfl rfl rfl rfl rfl (by decide) pd21 rfl rfl rfl (W := 0) (lb rfl) (by decide) (by decide) (by decide) (by decide) fun v101 h102 q103 => ?_
  obtain ⟨rfl, R⟩ := q103
  exact Go.retV d20_6 rfl (by decide) (by decide) ⟨rfl, R⟩
theorem d19_0 : decode jdk_67_method_42_code 0 = .ok (.new 18, 3) := by decide +kernel
theorem d19_3 : decode jdk_67_method_42_code 3 = .ok (.dup, 1) := by decide +kernel
theorem d19_4 : decode jdk_67_method_42_code 4 = .ok (.aload_n 0, 1) := by decide +kernel
theorem d19_5 : decode jdk_67_method_42_code 5 = .ok (.invokespecial 137, 3) := by decide +kernel
theorem d19_8 : decode jdk_67_method_42_code 8 = .ok (.areturn, 1) := by decide +kernel
theorem pd19 : parseMethodDescriptor "()Ljava/lang/String;" = some ⟨[], some (.object "java/lang/String")⟩ := by decide +kernel
theorem pn19 : plainFor (⟨"java/lang/StringBuilder", "toString", "()Ljava/lang/String;"⟩ : MethodName) = true := by first | (refine plainFor_of_name ?_; simp [plainName, overriddenIn]; done) | (refine plainFor_of_name ?_; decide +kernel) | decide +kernel
abbrev B19 : Bd := ((⟨"java/lang/StringBuilder", "toString", "()Ljava/lang/String;"⟩ : MethodName), jdk_67_method_42_code, 1, (some (.object "java/lang/String")), ({ frames := 5, cells := 2, slots := 14, locals := 79 } : Room), tables_1)
def Q19k0 (Z : State) (us : List Int32) (yn : Nat) (h0 : Heap) (v : Option Value) (h : Heap) : Prop := ∃ a t, v = some (.ref a) ∧ h0.size ≤ a ∧ h0.size ≤ t ∧ Keep h0 h [] ∧ YEs Z h a ∧ YSv Z h a (.ref t) ∧ YSc Z h a (.int 0) ∧ Ary Z h t .byte (IL (us.take yn))
theorem c19k0 (Z : State) (hw : Wd Z tables_1) (h0 : Heap) (sb : Addr) (us : List Int32) (yn : Nat) (cs : Int32) (hS : YCs Z cs) (hcs : ¬ cs = 0) (val : Addr) (y : Int32) (hyn : y.toInt = yn) (hy9 : yn ≤ 10) (hyl : y < (16 : Int32)) (hy0 : ¬ y < (0 : Int32)) (hul : us.length = 16) (bhE : YEb Z h0 sb) (bhV : YBv Z h0 sb (.ref val)) (bhC : YBc Z h0 sb (.int 0)) (bhN : YBn Z h0 sb (.int y)) (bhY : YBm Z h0 sb (.int 0)) (bhA : Ary Z h0 val .byte (IL us)) : Con Z B19 (List.toArray [.ref sb]) h0 (Q19k0 Z us yn h0) := by
  refine Con.mk (Ls := #[.val (.ref sb)]) hw pn19 (fun mid => by first | (simp [entryFrame, mkF, argsToLocals, Value.category, Jvm.Ow.Bd.ml, B19]; done) | rfl) (Go.old fun hle' => ?_)
  have hle := hle'.1
  refine Go.newO 3 rfl 131 21 20 d19_0 rfl rfl rfl (by decide) (by decide) fun h102 a101 g103 z104 K105 E106 D107 => ?_
  refine Go.dup 4 rfl d19_3 rfl ?_
  refine Go.aloadN 5 rfl d19_4 rfl rfl ?_
  have F108 : YEb Z h102 sb := (bhE.keep K105)
  have F109 : YBv Z h102 sb (.ref val) := (bhV.keep K105 nin0)
  have F110 : YBc Z h102 sb (.int (0 : Int32)) := (bhC.keep K105 nin0)
  have F111 : YBn Z h102 sb (.int y) := (bhN.keep K105 nin0)
  have F112 : YBm Z h102 sb (.int (0 : Int32)) := (bhY.keep K105 nin0)
  have F113 : Ary Z h102 val .byte (IL us) := (bhA.keep K105 nin0)
  have ne114 : sb ≠ a101 := (show @Ne Nat sb a101 from by have := ltN bhE.lt; have := g103; omega)
  refine Go.callI 8 rfl (C := B20) a101 [.ref sb] (rest := [.ref a101]) 132 133 20 134 (c20k0 Z hw h102 a101 sb us yn cs hS hcs val y hyn hy9 hyl hy0 hul z104 E106 (D107 22 (Or.inr rfl) (ty := (.array .byte)) (by decide) : YSv Z h102 a101 (.null)) (D107 23 (Or.inr rfl) (ty := .byte) (by decide) : YSc Z h102 a101 (.int (0 : Int32))) F108 F109 F110 F111 F112 F113 ne114) d19_5 rfl rfl rfl rfl rfl rfl (by decide) pd20 rfl rfl rfl (W := 1) (lb rfl) (by decide) (by decide) (by decide) (by decide) fun v115 h116 q117 => ?_
  obtain ⟨rfl, t, g, K, F1, F2, A⟩ := q117
  have F118 : YEs Z h116 a101 := (E106.keep K)
  exact Go.retA d19_8 rfl rfl rfl (by decide) (by decide) ⟨a101, t, rfl, Nat.le_of_eq g103.symm, (by have := K105.1; omega), (((Keep.refl h0 []).trans K105 all0).trans K (allS (Or.inr (Nat.le_of_eq g103.symm)) all0)), F118, F1, F2, A⟩
def Q21k1 (Z : State) (a : Addr) (us : List Int32) (yn : Nat) (h0 : Heap) (v : Option Value) (h : Heap) : Prop := v = none ∧ ∃ t, h0.size ≤ t ∧ Keep h0 h [a] ∧ YSv Z h a (.ref t) ∧ YSc Z h a (.int 1) ∧ Ary Z h t .byte (IL (us.take yn))
theorem c21k1 (Z : State) (hw : Wd Z tables_1) (h0 : Heap) (a : Addr) (sb : Addr) (us : List Int32) (yn : Nat) (cs : Int32) (hS : YCs Z cs) (hcs : ¬ cs = 0) (val : Addr) (y : Int32) (x : Int32) (hyv : x <<< ((1 : Int32) &&& 31) = y) (hyn : y.toInt = yn) (hy9 : yn ≤ 10) (hyl : y < (32 : Int32)) (hy0 : ¬ y < (0 : Int32)) (hul : us.length = 32) (hge : Z.heap.size ≤ a) (hE : YEs Z h0 a) (hV : YSv Z h0 a .null) (hC : YSc Z h0 a (.int 0)) (bhE : YEb Z h0 sb) (bhV : YBv Z h0 sb (.ref val)) (bhC : YBc Z h0 sb (.int 1)) (bhN : YBn Z h0 sb (.int x)) (bhY : YBm Z h0 sb (.int 0)) (bhA : Ary Z h0 val .byte (IL us)) (hnb : sb ≠ a) : Con Z B21 (List.toArray [.ref a, .ref sb, .null]) h0 (Q21k1 Z a us yn h0) := by
  refine Con.mk (Ls := #[.val (.ref a), .val (.ref sb), .val (.null), .unset, .unset]) hw pn21 (fun mid => by first | (simp [entryFrame, mkF, argsToLocals, Value.category, Jvm.Ow.Bd.ml, B21]; done) | rfl) (Go.old fun hle' => ?_)
  have hle := hle'.1
  have hva : val ≠ a := own_na hw 21 rfl hE bhA
  refine Go.aloadN 1 rfl d21_0 rfl rfl ?_
  refine Go.initO 4 rfl 73 17 18 d21_1 rfl rfl rfl rfl (by decide) (W := 0) (lb rfl) (by decide) ?_
  refine Go.aloadN 5 rfl d21_4 rfl rfl ?_
  refine Go.callV 8 rfl (C := B22) sb [] (rest := []) 138 139 141 140 50 142 (c22 Z hw h0 sb val bhV) bhE d21_5 rfl rfl rfl rfl rfl rfl (by decide) pd22 rfl rfl rfl (W := 0) (lb rfl) (by decide) (by decide) (by decide) (by decide) fun v101 h102 q103 => ?_
  obtain ⟨rfl, rfl⟩ := q103
  refine Go.astoreN 9 rfl d21_8 rfl (Ls' := #[.val (.ref a), .val (.ref sb), .val (.null), .val (.ref val), .unset]) rfl ?_
  refine Go.aloadN 10 rfl d21_9 rfl rfl ?_
  refine Go.callVZ 13 rfl (C := B23) (y := ⟨"java/lang/AbstractStringBuilder", "length", "()I"⟩) sb [] (rest := []) 143 144 146 147 42 148 103 (c23 Z hw h0 sb x bhE bhN) bhE d21_10 rfl rfl rfl rfl rfl rfl rfl rfl (by decide) pd23 rfl rfl rfl (W := 0) (lb rfl) (by decide) (by decide) (by decide) (by decide) fun v104 h105 q106 => ?_
  obtain ⟨rfl, rfl⟩ := q106
  refine Go.istore 15 rfl d21_13 (Ls' := #[.val (.ref a), .val (.ref sb), .val (.null), .val (.ref val), .val (.int x)]) rfl ?_
  refine Go.aloadN 16 rfl d21_15 rfl rfl ?_
  refine Go.callV 19 rfl (C := B25) sb [] (rest := []) 151 152 154 153 50 155 (c25k1 Z hw h0 sb cs hS hcs bhC) bhE d21_16 rfl rfl rfl rfl rfl rfl (by decide) pd25 rfl rfl rfl (W := 0) (lb rfl) (by decide) (by decide) (by decide) (by decide) fun v107 h108 q109 => ?_
  obtain ⟨rfl, rfl⟩ := q109
  refine Go.if_eq 41 22 d21_19 (by decide) rfl rfl (fun (b110 : (0 : Int32) = 0) => ?_) (fun (b110 : ¬ (0 : Int32) = 0) => ?_)
  · refine Go.getS 44 rfl (v := .int cs) 97 d21_41 rfl hS ?_
    refine Go.if_eq 79 47 d21_44 (by decide) rfl rfl (fun (b111 : cs = 0) => ?_) (fun (b111 : ¬ cs = 0) => ?_)
    · exact absurd b111 (show ¬ cs = 0 from hcs)
    · refine Go.aloadN 48 rfl d21_47 rfl rfl ?_
      refine Go.getF 51 rfl (v := .int (0 : Int32)) 257 d21_48 rfl bhY ?_
      refine Go.if_eq 79 54 d21_51 (by decide) rfl rfl (fun (b112 : (0 : Int32) = 0) => ?_) (fun (b112 : ¬ (0 : Int32) = 0) => ?_)
      · refine Go.aloadN 80 rfl d21_79 rfl rfl ?_
        refine Go.iconst 81 rfl (1 : Int32) d21_80 rfl ?_
        refine Go.putF 84 rfl (v' := .int (1 : Int32)) (ty := .byte) 76 23 21 d21_81 rfl hC hE (Or.inr ⟨rfl, rfl, rfl⟩) rfl (by decide) rfl rfl hge fun h113 K114 W115 F116 => ?_
        refine Go.aloadN 85 rfl d21_84 rfl rfl ?_
        refine Go.aloadN 86 rfl d21_85 rfl rfl ?_
        refine Go.iconst 87 rfl (0 : Int32) d21_86 rfl ?_
        refine Go.iload 89 rfl d21_87 rfl ?_
        refine Go.iconst 90 rfl (1 : Int32) d21_89 rfl ?_
        refine Go.ishl 91 rfl d21_90 ?_
        refine Go.eqI (w := y) hyv ?_
        have F117 : Ary Z h113 val .byte (IL us) := (bhA.keep K114 (ninS hva nin0))
        refine Go.callS 94 rfl (C := B26) [.ref val, .int (0 : Int32), .int y] (rest := [.ref a]) 156 157 158 159 (c26p Z hw h113 val y us yn hyn hy9 (32 : Int32) (by rw [IL.len, hul]; rfl) hyl (by omega) hy0 F117) d21_91 rfl rfl rfl rfl (by decide) pd26 rfl rfl rfl (W := 1) (lb rfl) (by decide) (by decide) (by decide) (by decide) fun v118 h119 q120 => ?_
        obtain ⟨t, rfl, g, K, At⟩ := q120
        have z121 : Z.heap.size ≤ t := Nat.le_trans (Nat.le_trans hle K114.1) g
        have F122 : YSv Z h119 a (.null) := ((Fld.oth hw hV W115 22 23 (Or.inr rfl) (Or.inr rfl) (by decide) rfl rfl).keep K nin0)
        have F123 : YEs Z h119 a := ((hE.keep K114).keep K)
        refine Go.putF 97 rfl (v' := .ref t) (ty := (.array .byte)) 75 22 21 d21_94 rfl F122 F123 (Or.inr ⟨rfl, rfl, rfl⟩) rfl (by decide) rfl rfl hge fun h124 K125 W126 F127 => ?_
        have kc128 : Keep h0 h124 [a] := ((((Keep.refl h0 [a]).trans K114 (by simp)).trans K all0).trans K125 (by simp))
        have F129 : YSc Z h124 a (.int (1 : Int32)) := (Fld.oth hw (F116.keep K nin0) W126 23 22 (Or.inr rfl) (Or.inr rfl) (by decide) rfl rfl)
        have ne130 : t ≠ a := (show @Ne Nat t a from by have := ltN F116.lt; have := g; omega)
        have F131 : Ary Z h124 t .byte (IL (us.take yn)) := (At.keep K125 (ninS ne130 nin0))
        exact Go.retV d21_97 rfl (by decide) (by decide) ⟨rfl, t, (by have := K114.1; have := g; omega), kc128, F127, F129, F131⟩
      · exact absurd (show (0 : Int32) = 0 from (by decide)) b112
  · exact absurd (show (0 : Int32) = 0 from (by decide)) b110
def Q20k1 (Z : State) (a : Addr) (us : List Int32) (yn : Nat) (h0 : Heap) (v : Option Value) (h : Heap) : Prop := v = none ∧ ∃ t, h0.size ≤ t ∧ Keep h0 h [a] ∧ YSv Z h a (.ref t) ∧ YSc Z h a (.int 1) ∧ Ary Z h t .byte (IL (us.take yn))
theorem c20k1 (Z : State) (hw : Wd Z tables_1) (h0 : Heap) (a : Addr) (sb : Addr) (us : List Int32) (yn : Nat) (cs : Int32) (hS : YCs Z cs) (hcs : ¬ cs = 0) (val : Addr) (y : Int32) (x : Int32) (hyv : x <<< ((1 : Int32) &&& 31) = y) (hyn : y.toInt = yn) (hy9 : yn ≤ 10) (hyl : y < (32 : Int32)) (hy0 : ¬ y < (0 : Int32)) (hul : us.length = 32) (hge : Z.heap.size ≤ a) (hE : YEs Z h0 a) (hV : YSv Z h0 a .null) (hC : YSc Z h0 a (.int 0)) (bhE : YEb Z h0 sb) (bhV : YBv Z h0 sb (.ref val)) (bhC : YBc Z h0 sb (.int 1)) (bhN : YBn Z h0 sb (.int x)) (bhY : YBm Z h0 sb (.int 0)) (bhA : Ary Z h0 val .byte (IL us)) (hnb : sb ≠ a) : Con Z B20 (List.toArray [.ref a, .ref sb]) h0 (Q20k1 Z a us yn h0) := by
  refine Con.mk (Ls := #[.val (.ref a), .val (.ref sb)]) hw pn20 (fun mid => by first | (simp [entryFrame, mkF, argsToLocals, Value.category, Jvm.Ow.Bd.ml, B20]; done) | rfl) (Go.old fun hle' => ?_)
  have hle := hle'.1
  refine Go.aloadN 1 rfl d20_0 rfl rfl ?_
  refine Go.aloadN 2 rfl d20_1 rfl rfl ?_
  refine Go.aconstNull 3 rfl d20_2 ?_
  refine Go.callI 6 rfl (C := B21) a [.ref sb, .null] (rest := []) 135 136 20 137 (c21k1 Z hw h0 a sb us yn cs hS hcs val y x hyv hyn hy9 hyl hy0 hul hge hE hV hC bhE bhV bhC bhN bhY bhA hnb) d20_3 rfl rfl rfl rfl rfl rfl (by decide) pd21 rfl rfl rfl (W := 0) (lb rfl) (by decide) (by decide) (by decide) (by decide) fun v101 h102 q103 => ?_
  obtain ⟨rfl, R⟩ := q103
  exact Go.retV d20_6 rfl (by decide) (by decide) ⟨rfl, R⟩
def Q19k1 (Z : State) (us : List Int32) (yn : Nat) (h0 : Heap) (v : Option Value) (h : Heap) : Prop := ∃ a t, v = some (.ref a) ∧ h0.size ≤ a ∧ h0.size ≤ t ∧ Keep h0 h [] ∧ YEs Z h a ∧ YSv Z h a (.ref t) ∧ YSc Z h a (.int 1) ∧ Ary Z h t .byte (IL (us.take yn))
theorem c19k1 (Z : State) (hw : Wd Z tables_1) (h0 : Heap) (sb : Addr) (us : List Int32) (yn : Nat) (cs : Int32) (hS : YCs Z cs) (hcs : ¬ cs = 0) (val : Addr) (y : Int32) (x : Int32) (hyv : x <<< ((1 : Int32) &&& 31) = y) (hyn : y.toInt = yn) (hy9 : yn ≤ 10) (hyl : y < (32 : Int32)) (hy0 : ¬ y < (0 : Int32)) (hul : us.length = 32) (bhE : YEb Z h0 sb) (bhV : YBv Z h0 sb (.ref val)) (bhC : YBc Z h0 sb (.int 1)) (bhN : YBn Z h0 sb (.int x)) (bhY : YBm Z h0 sb (.int 0)) (bhA : Ary Z h0 val .byte (IL us)) : Con Z B19 (List.toArray [.ref sb]) h0 (Q19k1 Z us yn h0) := by
  refine Con.mk (Ls := #[.val (.ref sb)]) hw pn19 (fun mid => by first | (simp [entryFrame, mkF, argsToLocals, Value.category, Jvm.Ow.Bd.ml, B19]; done) | rfl) (Go.old fun hle' => ?_)
  have hle := hle'.1
  refine Go.newO 3 rfl 131 21 20 d19_0 rfl rfl rfl (by decide) (by decide) fun h102 a101 g103 z104 K105 E106 D107 => ?_
  refine Go.dup 4 rfl d19_3 rfl ?_
  refine Go.aloadN 5 rfl d19_4 rfl rfl ?_
  have F108 : YEb Z h102 sb := (bhE.keep K105)
  have F109 : YBv Z h102 sb (.ref val) := (bhV.keep K105 nin0)
  have F110 : YBc Z h102 sb (.int (1 : Int32)) := (bhC.keep K105 nin0)
  have F111 : YBn Z h102 sb (.int x) := (bhN.keep K105 nin0)
  have F112 : YBm Z h102 sb (.int (0 : Int32)) := (bhY.keep K105 nin0)
  have F113 : Ary Z h102 val .byte (IL us) := (bhA.keep K105 nin0)
  have ne114 : sb ≠ a101 := (show @Ne Nat sb a101 from by have := ltN bhE.lt; have := g103; omega)
  refine Go.callI 8 rfl (C := B20) a101 [.ref sb] (rest := [.ref a101]) 132 133 20 134 (c20k1 Z hw h102 a101 sb us yn cs hS hcs val y x hyv hyn hy9 hyl hy0 hul z104 E106 (D107 22 (Or.inr rfl) (ty := (.array .byte)) (by decide) : YSv Z h102 a101 (.null)) (D107 23 (Or.inr rfl) (ty := .byte) (by decide) : YSc Z h102 a101 (.int (0 : Int32))) F108 F109 F110 F111 F112 F113 ne114) d19_5 rfl rfl rfl rfl rfl rfl (by decide) pd20 rfl rfl rfl (W := 1) (lb rfl) (by decide) (by decide) (by decide) (by decide) fun v115 h116 q117 => ?_
  obtain ⟨rfl, t, g, K, F1, F2, A⟩ := q117
  have F118 : YEs Z h116 a101 := (E106.keep K)
  exact Go.retA d19_8 rfl rfl rfl (by decide) (by decide) ⟨a101, t, rfl, Nat.le_of_eq g103.symm, (by have := K105.1; omega), (((Keep.refl h0 []).trans K105 all0).trans K (allS (Or.inr (Nat.le_of_eq g103.symm)) all0)), F118, F1, F2, A⟩
def Q11g (Z : State) (sb val : Addr) (xs ys : List Int32) (h0 : Heap) (v : Option Value) (h : Heap) : Prop := v = some (.ref sb) ∧ ∃ val', (val' = val ∨ h0.size ≤ val') ∧ Keep h0 h [sb, val] ∧ Sbl Z h sb val' (xs ++ ys)
theorem c11g (Z : State) (hw : Wd Z tables_1) (h0 : Heap) (sb a val s : Addr) (xs ys : List Int32) (hx3 : xs.length ≤ 3) (hy2 : ys.length ≤ 2) (cs : Int32) (hS : YCs Z cs) (hcs : ¬ cs = 0) (hAs : YAs Z) (hHi : YHi Z) (hLo : YLo Z) (hfm : YFm Z) (hge : Z.heap.size ≤ sb) (hgv : Z.heap.size ≤ val) (hB : Sbl Z h0 sb val xs) (hT : Str Z h0 a s ys) (hne : s ≠ val) (hns : a ≠ sb) : Con Z B11 (List.toArray [.ref sb, .ref a]) h0 (Q11g Z sb val xs ys h0) := by
  obtain ⟨E, V, N, Y, D⟩ := hB
  obtain ⟨E', V', D'⟩ := hT
  rcases D with ⟨C, us, A, hl, S⟩ | ⟨C, us, A, hl, S⟩
  · rcases D' with ⟨C', vs, A', S'⟩ | ⟨C', vs, A', S'⟩
    · have hv := S'.len
      refine (c11v00 Z hw h0 sb a val us vs (Int32.ofNat xs.length) xs.length xs.length (Int32.ofNat ys.length) cs hS hcs hAs hHi hLo hfm hl (len_ofNat (by omega)) hx3 (Int32.ofNat xs.length) (own_sh0 _) (len_ofNat (by omega)) (Int32.ofNat ys.length) (by rw [IL.len, hv]; exact len_ofNat (by omega)) (by omega) (own_r0 _) (own_hm (n := xs.length) (m := ys.length) (by omega)) s E' V' C' A' hge E V C N Y A hgv hne hns).post fun v h q => ?_
      obtain ⟨rfl, K, F1, F2, F3, F4, An⟩ := q
      exact ⟨rfl, val, Or.inl rfl, K, E.keep K, F1, own_fc F3 (by rw [own_add, List.length_append]), F4, Or.inl ⟨F2, _, An, (own_ln (by omega)).trans hl, own_cat0 S rfl (by omega) S'⟩⟩
    · have hv := S'.len
      rcases own_le3 hx3 with rfl | ⟨x0, rfl⟩ | ⟨x0, x1, rfl⟩ | ⟨x0, x1, x2, rfl⟩
      · refine (c11v010 Z hw h0 sb a us vs (Int32.ofNat ys.length) cs hS hcs hAs hHi hLo hfm val hl (Int32.ofNat (2 * ys.length)) (by rw [IL.len, hv]; exact len_ofNat (by omega)) (by omega) (own_r1 (by omega)) (own_hm (n := 0) (m := ys.length) (by omega)) s E' V' C' A' hge E V C (own_fc N (show Int32.ofNat 0 = 0 from rfl)) Y A hgv hne hns).post fun v h q => ?_
        obtain ⟨rfl, t, g, K, F1, F2, F3, F4, An⟩ := q
        have q0 : Sq1 ((zer 32).take (2 * 0)) [] := trivial
        have hz : (zer 32).length = 32 := by first | rfl | (simp only [own_putl]; rfl)
        exact ⟨rfl, t, Or.inr g, own_km K, E.keep K, F1, own_fc F3 ((own_add 0 ys.length).trans (by rw [List.length_append]; rfl)), F4, Or.inr ⟨F2, _, An, (own_ln (by omega)).trans hz, own_cat1 (n := 0) q0 rfl (by omega) S'⟩⟩
      · refine (c11v011 Z hw h0 sb a us vs (Int32.ofNat ys.length) cs hS hcs hAs hHi hLo hfm val hl (Int32.ofNat (2 * ys.length)) (by rw [IL.len, hv]; exact len_ofNat (by omega)) (by omega) (own_r1 (by omega)) (own_hm (n := 1) (m := ys.length) (by omega)) s E' V' C' A' hge E V C (own_fc N (show Int32.ofNat 1 = 1 from rfl)) Y A hgv hne hns).post fun v h q => ?_
        obtain ⟨rfl, t, g, K, F1, F2, F3, F4, An⟩ := q
        have q0 : Sq1 ((zer 32).take (2 * 0)) [] := trivial
        have q1 : Sq1 ((put (zer 32) (0 + 0) (us.getD 0 0 &&& (255 : Int32))).take (2 * 1)) [x0] := own_put (c := 0 + 0) (by first | decide | (simp only [own_putl]; decide)) q0 (own_gcb (own_g0 S rfl (k := 0) (lb rfl)))
        have hz : (put (zer 32) (0 + 0) (us.getD 0 0 &&& (255 : Int32))).length = 32 := by first | rfl | (simp only [own_putl]; rfl)
        exact ⟨rfl, t, Or.inr g, own_km K, E.keep K, F1, own_fc F3 ((own_add 1 ys.length).trans (by rw [List.length_append]; rfl)), F4, Or.inr ⟨F2, _, An, (own_ln (by omega)).trans hz, own_cat1 (n := 1) q1 rfl (by omega) S'⟩⟩
      · refine (c11v012 Z hw h0 sb a us vs (Int32.ofNat ys.length) cs hS hcs hAs hHi hLo hfm val hl (Int32.ofNat (2 * ys.length)) (by rw [IL.len, hv]; exact len_ofNat (by omega)) (by omega) (own_r1 (by omega)) (own_hm (n := 2) (m := ys.length) (by omega)) s E' V' C' A' hge E V C (own_fc N (show Int32.ofNat 2 = 2 from rfl)) Y A hgv hne hns).post fun v h q => ?_
        obtain ⟨rfl, t, g, K, F1, F2, F3, F4, An⟩ := q
        have q0 : Sq1 ((zer 32).take (2 * 0)) [] := trivial
        have q1 : Sq1 ((put (zer 32) (0 + 0) (us.getD 0 0 &&& (255 : Int32))).take (2 * 1)) [x0] := own_put (c := 0 + 0) (by first | decide | (simp only [own_putl]; decide)) q0 (own_gcb (own_g0 S rfl (k := 0) (lb rfl)))
        have q2 : Sq1 ((put (put (zer 32) (0 + 0) (us.getD 0 0 &&& (255 : Int32))) (0 + 1) (us.getD 1 0 &&& (255 : Int32))).take (2 * 2)) [x0, x1] := own_put (c := 0 + 1) (by first | decide | (simp only [own_putl]; decide)) q1 (own_gcb (own_g0 S rfl (k := 1) (lb rfl)))
        have hz : (put (put (zer 32) (0 + 0) (us.getD 0 0 &&& (255 : Int32))) (0 + 1) (us.getD 1 0 &&& (255 : Int32))).length = 32 := by first | rfl | (simp only [own_putl]; rfl)
        exact ⟨rfl, t, Or.inr g, own_km K, E.keep K, F1, own_fc F3 ((own_add 2 ys.length).trans (by rw [List.length_append]; rfl)), F4, Or.inr ⟨F2, _, An, (own_ln (by omega)).trans hz, own_cat1 (n := 2) q2 rfl (by omega) S'⟩⟩
      · refine (c11v013 Z hw h0 sb a us vs (Int32.ofNat ys.length) cs hS hcs hAs hHi hLo hfm val hl (Int32.ofNat (2 * ys.length)) (by rw [IL.len, hv]; exact len_ofNat (by omega)) (by omega) (own_r1 (by omega)) (own_hm (n := 3) (m := ys.length) (by omega)) s E' V' C' A' hge E V C (own_fc N (show Int32.ofNat 3 = 3 from rfl)) Y A hgv hne hns).post fun v h q => ?_
        obtain ⟨rfl, t, g, K, F1, F2, F3, F4, An⟩ := q
        have q0 : Sq1 ((zer 32).take (2 * 0)) [] := trivial
        have q1 : Sq1 ((put (zer 32) (0 + 0) (us.getD 0 0 &&& (255 : Int32))).take (2 * 1)) [x0] := own_put (c := 0 + 0) (by first | decide | (simp only [own_putl]; decide)) q0 (own_gcb (own_g0 S rfl (k := 0) (lb rfl)))
        have q2 : Sq1 ((put (put (zer 32) (0 + 0) (us.getD 0 0 &&& (255 : Int32))) (0 + 1) (us.getD 1 0 &&& (255 : Int32))).take (2 * 2)) [x0, x1] := own_put (c := 0 + 1) (by first | decide | (simp only [own_putl]; decide)) q1 (own_gcb (own_g0 S rfl (k := 1) (lb rfl)))
        have q3 : Sq1 ((put (put (put (zer 32) (0 + 0) (us.getD 0 0 &&& (255 : Int32))) (0 + 1) (us.getD 1 0 &&& (255 : Int32))) (0 + 2) (us.getD 2 0 &&& (255 : Int32))).take (2 * 3)) [x0, x1, x2] := own_put (c := 0 + 2) (by first | decide | (simp only [own_putl]; decide)) q2 (own_gcb (own_g0 S rfl (k := 2) (lb rfl)))
        have hz : (put (put (put (zer 32) (0 + 0) (us.getD 0 0 &&& (255 : Int32))) (0 + 1) (us.getD 1 0 &&& (255 : Int32))) (0 + 2) (us.getD 2 0 &&& (255 : Int32))).length = 32 := by first | rfl | (simp only [own_putl]; rfl)
        exact ⟨rfl, t, Or.inr g, own_km K, E.keep K, F1, own_fc F3 ((own_add 3 ys.length).trans (by rw [List.length_append]; rfl)), F4, Or.inr ⟨F2, _, An, (own_ln (by omega)).trans hz, own_cat1 (n := 3) q3 rfl (by omega) S'⟩⟩
  · rcases D' with ⟨C', vs, A', S'⟩ | ⟨C', vs, A', S'⟩
    · rcases own_le2 hy2 with rfl | ⟨y0, rfl⟩ | ⟨y0, y1, rfl⟩
      · refine (c11v100 Z hw h0 sb a val us vs (Int32.ofNat xs.length) xs.length (0 : Int32) cs hS hcs hAs hHi hLo hfm hl (len_ofNat (by omega)) hx3 (own_bd hx3 ⟨0, by decide⟩).1 (own_bd hx3 ⟨0, by decide⟩).2 S'.len (0 : Int32) (by rw [IL.len, S'.len]; rfl) (by decide) (own_hm (n := xs.length) (m := 0) (by omega)) s E' V' C' A' hge E V C N Y A hgv hne hns).post fun v h q => ?_
        obtain ⟨rfl, K, F1, F2, F3, F4, An⟩ := q
        have q0 := S
        exact ⟨rfl, val, Or.inl rfl, K, E.keep K, F1, own_fc F3 ((own_add xs.length 0).trans (by rw [List.length_append]; rfl)), F4, Or.inr ⟨F2, _, An, (by first | exact hl | (simp only [own_putl]; exact hl)), (by rw [List.append_nil]; exact q0)⟩⟩
      · refine (c11v101 Z hw h0 sb a val us vs (Int32.ofNat xs.length) xs.length (1 : Int32) cs hS hcs hAs hHi hLo hfm hl (len_ofNat (by omega)) hx3 (own_bd hx3 ⟨1, by decide⟩).1 (own_bd hx3 ⟨1, by decide⟩).2 S'.len (1 : Int32) (by rw [IL.len, S'.len]; rfl) (by decide) (own_hm (n := xs.length) (m := 1) (by omega)) s E' V' C' A' hge E V C N Y A hgv hne hns).post fun v h q => ?_
        obtain ⟨rfl, K, F1, F2, F3, F4, An⟩ := q
        have q0 := S
        have q1 := own_put (c := xs.length + 0) (x := vs.getD 0 0 &&& (255 : Int32)) (y := y0) (by first | omega | (simp only [own_putl]; omega)) q0 (own_gcb (S'.get (i := 0) (lb rfl)))
        exact ⟨rfl, val, Or.inl rfl, K, E.keep K, F1, own_fc F3 ((own_add xs.length 1).trans (by rw [List.length_append]; rfl)), F4, Or.inr ⟨F2, _, An, (by first | exact hl | (simp only [own_putl]; exact hl)), (by rw [List.length_append]; exact q1)⟩⟩
      · refine (c11v102 Z hw h0 sb a val us vs (Int32.ofNat xs.length) xs.length (2 : Int32) cs hS hcs hAs hHi hLo hfm hl (len_ofNat (by omega)) hx3 (own_bd hx3 ⟨2, by decide⟩).1 (own_bd hx3 ⟨2, by decide⟩).2 S'.len (2 : Int32) (by rw [IL.len, S'.len]; rfl) (by decide) (own_hm (n := xs.length) (m := 2) (by omega)) s E' V' C' A' hge E V C N Y A hgv hne hns).post fun v h q => ?_
        obtain ⟨rfl, K, F1, F2, F3, F4, An⟩ := q
        have q0 := S
        have q1 := own_put (c := xs.length + 0) (x := vs.getD 0 0 &&& (255 : Int32)) (y := y0) (by first | omega | (simp only [own_putl]; omega)) q0 (own_gcb (S'.get (i := 0) (lb rfl)))
        have q2 := own_put (c := xs.length + 1) (x := vs.getD 1 0 &&& (255 : Int32)) (y := y1) (by first | omega | (simp only [own_putl]; omega)) q1 (own_gcb (S'.get (i := 1) (lb rfl)))
        exact ⟨rfl, val, Or.inl rfl, K, E.keep K, F1, own_fc F3 ((own_add xs.length 2).trans (by rw [List.length_append]; rfl)), F4, Or.inr ⟨F2, _, An, (by first | exact hl | (simp only [own_putl]; exact hl)), (by rw [List.length_append, show xs ++ [y0, y1] = xs ++ [y0] ++ [y1] by simp]; exact q2)⟩⟩
    · have hv := S'.len
      refine (c11v11 Z hw h0 sb a val us vs (Int32.ofNat xs.length) xs.length (2 * xs.length) (Int32.ofNat ys.length) cs hS hcs hAs hHi hLo hfm hl (len_ofNat (by omega)) hx3 (Int32.ofNat (2 * xs.length)) (own_sh1 (by omega)) (len_ofNat (by omega)) (Int32.ofNat (2 * ys.length)) (by rw [IL.len, hv]; exact len_ofNat (by omega)) (by omega) (own_r1 (by omega)) (own_hm (n := xs.length) (m := ys.length) (by omega)) s E' V' C' A' hge E V C N Y A hgv hne hns).post fun v h q => ?_
      obtain ⟨rfl, K, F1, F2, F3, F4, An⟩ := q
      exact ⟨rfl, val, Or.inl rfl, K, E.keep K, F1, own_fc F3 (by rw [own_add, List.length_append]), F4, Or.inr ⟨F2, _, An, (own_ln (by omega)).trans hl, own_cat1 S rfl (by omega) S'⟩⟩
def Q19g (Z : State) (xs : List Int32) (h0 : Heap) (v : Option Value) (h : Heap) : Prop := ∃ a t, v = some (.ref a) ∧ h0.size ≤ a ∧ h0.size ≤ t ∧ Keep h0 h [] ∧ Str Z h a t xs
theorem c19g (Z : State) (hw : Wd Z tables_1) (h0 : Heap) (sb val : Addr) (xs : List Int32) (hx5 : xs.length ≤ 5) (cs : Int32) (hS : YCs Z cs) (hcs : ¬ cs = 0) (hB : Sbl Z h0 sb val xs) : Con Z B19 (List.toArray [.ref sb]) h0 (Q19g Z xs h0) := by
  obtain ⟨E, V, N, Y, D⟩ := hB
  rcases D with ⟨C, us, A, hl, S⟩ | ⟨C, us, A, hl, S⟩
  · refine (c19k0 Z hw h0 sb us xs.length cs hS hcs val (Int32.ofNat xs.length) (len_ofNat (by omega)) (by omega) (own_ylt (c := 16) (by omega) (by decide)) (own_y0 (by omega)) hl E V C N Y A).post fun v h q => ?_
    obtain ⟨a, t, rfl, ga, gt, K, Ea, F1, F2, An⟩ := q
    exact ⟨a, t, rfl, ga, gt, K, Ea, F1, Or.inl ⟨F2, _, An, S⟩⟩
  · refine (c19k1 Z hw h0 sb us (2 * xs.length) cs hS hcs val (Int32.ofNat (2 * xs.length)) (Int32.ofNat xs.length) (own_sh1 (by omega)) (len_ofNat (by omega)) (by omega) (own_ylt (c := 32) (by omega) (by decide)) (own_y0 (by omega)) hl E V C N Y A).post fun v h q => ?_
    obtain ⟨a, t, rfl, ga, gt, K, Ea, F1, F2, An⟩ := q
    exact ⟨a, t, rfl, ga, gt, K, Ea, F1, Or.inr ⟨F2, _, An, S⟩⟩
theorem d1_0 : decode method_2_code 0 = .ok (.iload_n 0, 1) := by decide +kernel
theorem d1_1 : decode method_2_code 1 = .ok (.newarray .byte, 2) := by decide +kernel
theorem d1_3 : decode method_2_code 3 = .ok (.astore_n 3, 1) := by decide +kernel
theorem d1_4 : decode method_2_code 4 = .ok (.iload_n 0, 1) := by decide +kernel
theorem d1_5 : decode method_2_code 5 = .ok (.iconst 1, 1) := by decide +kernel
theorem d1_6 : decode method_2_code 6 = .ok (.if_icmp .lt 8, 3) := by decide +kernel
theorem d1_9 : decode method_2_code 9 = .ok (.aload_n 3, 1) := by decide +kernel
theorem d1_10 : decode method_2_code 10 = .ok (.iconst 0, 1) := by decide +kernel
theorem d1_11 : decode method_2_code 11 = .ok (.iload_n 1, 1) := by decide +kernel
theorem d1_12 : decode method_2_code 12 = .ok (.i2b, 1) := by decide +kernel
theorem d1_13 : decode method_2_code 13 = .ok (.bastore, 1) := by decide +kernel
theorem d1_14 : decode method_2_code 14 = .ok (.iload_n 0, 1) := by decide +kernel
theorem d1_15 : decode method_2_code 15 = .ok (.iconst 2, 1) := by decide +kernel
theorem d1_16 : decode method_2_code 16 = .ok (.if_icmp .lt 8, 3) := by decide +kernel
theorem d1_19 : decode method_2_code 19 = .ok (.aload_n 3, 1) := by decide +kernel
theorem d1_20 : decode method_2_code 20 = .ok (.iconst 1, 1) := by decide +kernel
theorem d1_21 : decode method_2_code 21 = .ok (.iload_n 2, 1) := by decide +kernel
theorem d1_22 : decode method_2_code 22 = .ok (.i2b, 1) := by decide +kernel
theorem d1_23 : decode method_2_code 23 = .ok (.bastore, 1) := by decide +kernel
theorem d1_24 : decode method_2_code 24 = .ok (.aload_n 3, 1) := by decide +kernel
theorem d1_25 : decode method_2_code 25 = .ok (.areturn, 1) := by decide +kernel
theorem pd1 : parseMethodDescriptor "(III)[B" = some ⟨[.int, .int, .int], some (.array .byte)⟩ := by decide +kernel
theorem pn1 : plainFor (⟨"com/example/umweg/umweg/core/FieldToStringPinLaw", "mk", "(III)[B"⟩ : MethodName) = true := by first | (refine plainFor_of_name ?_; simp [plainName, overriddenIn]; done) | (refine plainFor_of_name ?_; decide +kernel) | decide +kernel
abbrev B1 : Bd := ((⟨"com/example/umweg/umweg/core/FieldToStringPinLaw", "mk", "(III)[B"⟩ : MethodName), method_2_code, 4, (some (.array .byte)), ({ frames := 0, cells := 1, slots := 2, locals := 0 } : Room), tables_1)
def Q1n2 (Z : State) (b0 : Int32) (b1 : Int32) (h0 : Heap) (v : Option Value) (h : Heap) : Prop := ∃ t, v = some (.ref t) ∧ h0.size ≤ t ∧ Keep h0 h [] ∧ Ary Z h t .byte [.int b0, .int b1] ∧ Exa Z h t "[B"
theorem c1n2 (Z : State) (hw : Wd Z tables_1) (h0 : Heap) (x : Int32) (y : Int32) (b0 : Int32) (b1 : Int32) (hb0 : x.toInt8.toInt32 = b0) (hb1 : y.toInt8.toInt32 = b1) : Con Z B1 (List.toArray [.int (2 : Int32), .int x, .int y]) h0 (Q1n2 Z b0 b1 h0) := by
  refine Con.mk (Ls := #[.val (.int (2 : Int32)), .val (.int x), .val (.int y), .unset]) hw pn1 (fun mid => by first | (simp [entryFrame, mkF, argsToLocals, Value.category, Jvm.Ow.Bd.ml, B1]; done) | rfl) (Go.old fun hle' => ?_)
  have hle := hle'.1
  refine Go.iloadN 1 rfl d1_0 rfl ?_
  refine Go.newA 3 rfl 4 2 2 d1_1 rfl rfl (by decide) (by decide) (by decide) (by decide) fun h102 a101 g103 z104 K105 A106 E107 => ?_
  have A108 : Ary Z h102 a101 .byte [.int 0, .int 0] := A106
  refine Go.astoreN 4 rfl d1_3 rfl (Ls' := #[.val (.int (2 : Int32)), .val (.int x), .val (.int y), .val (.ref a101)]) rfl ?_
  refine Go.iloadN 5 rfl d1_4 rfl ?_
  refine Go.iconst 6 rfl (1 : Int32) d1_5 rfl ?_
  refine Go.icmp_lt 14 9 d1_6 (by decide) rfl rfl (fun (b109 : (2 : Int32) < (1 : Int32)) => ?_) (fun (b109 : ¬ (2 : Int32) < (1 : Int32)) => ?_)
  · exact absurd b109 (show ¬ (2 : Int32) < (1 : Int32) from (by decide))
  · refine Go.aloadN 10 rfl d1_9 rfl rfl ?_
    refine Go.iconst 11 rfl (0 : Int32) d1_10 rfl ?_
    refine Go.iloadN 12 rfl d1_11 rfl ?_
    refine Go.i2b 13 rfl d1_12 ?_
    refine Go.eqI (w := b0) hb0 ?_
    refine Go.stB 14 rfl d1_13 A108 0 rfl (lb rfl) z104 fun h110 K111 A112 => ?_
    have A113 : Ary Z h110 a101 .byte [.int (nar .byte b0), .int 0] := A112
    refine Go.iloadN 15 rfl d1_14 rfl ?_
    refine Go.iconst 16 rfl (2 : Int32) d1_15 rfl ?_
    refine Go.icmp_lt 24 19 d1_16 (by decide) rfl rfl (fun (b114 : (2 : Int32) < (2 : Int32)) => ?_) (fun (b114 : ¬ (2 : Int32) < (2 : Int32)) => ?_)
    · exact absurd b114 (show ¬ (2 : Int32) < (2 : Int32) from (by decide))
    · refine Go.aloadN 20 rfl d1_19 rfl rfl ?_
      refine Go.iconst 21 rfl (1 : Int32) d1_20 rfl ?_
      refine Go.iloadN 22 rfl d1_21 rfl ?_
      refine Go.i2b 23 rfl d1_22 ?_
      refine Go.eqI (w := b1) hb1 ?_
      refine Go.stB 24 rfl d1_23 A113 1 rfl (lb rfl) z104 fun h115 K116 A117 => ?_
      have A118 : Ary Z h115 a101 .byte [.int (nar .byte b0), .int (nar .byte b1)] := A117
      refine Go.aloadN 25 rfl d1_24 rfl rfl ?_
      have A119 : Ary Z h115 a101 .byte [.int b0, .int b1] := by have q := A118; simpa only [own_nb hb0, own_nb hb1] using q
      have kc120 : Keep h0 h115 [] := ((((Keep.refl h0 []).trans K105 all0).trans K111 (allS (Or.inr (Nat.le_of_eq g103.symm)) all0)).trans K116 (allS (Or.inr (Nat.le_of_eq g103.symm)) all0))
      have F121 : Exa Z h115 a101 "[B" := ((E107.keep K111).keep K116)
      exact Go.retA d1_25 rfl rfl rfl (by decide) (by decide) ⟨a101, rfl, Nat.le_of_eq g103.symm, kc120, A119, F121⟩
def Q1n1 (Z : State) (b0 : Int32) (h0 : Heap) (v : Option Value) (h : Heap) : Prop := ∃ t, v = some (.ref t) ∧ h0.size ≤ t ∧ Keep h0 h [] ∧ Ary Z h t .byte [.int b0] ∧ Exa Z h t "[B"
theorem c1n1 (Z : State) (hw : Wd Z tables_1) (h0 : Heap) (x : Int32) (y : Int32) (b0 : Int32) (hb0 : x.toInt8.toInt32 = b0) : Con Z B1 (List.toArray [.int (1 : Int32), .int x, .int y]) h0 (Q1n1 Z b0 h0) := by
  refine Con.mk (Ls := #[.val (.int (1 : Int32)), .val (.int x), .val (.int y), .unset]) hw pn1 (fun mid => by first | (simp [entryFrame, mkF, argsToLocals, Value.category, Jvm.Ow.Bd.ml, B1]; done) | rfl) (Go.old fun hle' => ?_)
  have hle := hle'.1
  refine Go.iloadN 1 rfl d1_0 rfl ?_
  refine Go.newA 3 rfl 4 1 1 d1_1 rfl rfl (by decide) (by decide) (by decide) (by decide) fun h102 a101 g103 z104 K105 A106 E107 => ?_
  have A108 : Ary Z h102 a101 .byte [.int 0] := A106
  refine Go.astoreN 4 rfl d1_3 rfl (Ls' := #[.val (.int (1 : Int32)), .val (.int x), .val (.int y), .val (.ref a101)]) rfl ?_
  refine Go.iloadN 5 rfl d1_4 rfl ?_
  refine Go.iconst 6 rfl (1 : Int32) d1_5 rfl ?_
  refine Go.icmp_lt 14 9 d1_6 (by decide) rfl rfl (fun (b109 : (1 : Int32) < (1 : Int32)) => ?_) (fun (b109 : ¬ (1 : Int32) < (1 : Int32)) => ?_)
  · exact absurd b109 (show ¬ (1 : Int32) < (1 : Int32) from (by decide))
  · refine Go.aloadN 10 rfl d1_9 rfl rfl ?_
    refine Go.iconst 11 rfl (0 : Int32) d1_10 rfl ?_
    refine Go.iloadN 12 rfl d1_11 rfl ?_
    refine Go.i2b 13 rfl d1_12 ?_
    refine Go.eqI (w := b0) hb0 ?_
    refine Go.stB 14 rfl d1_13 A108 0 rfl (lb rfl) z104 fun h110 K111 A112 => ?_
    have A113 : Ary Z h110 a101 .byte [.int (nar .byte b0)] := A112
    refine Go.iloadN 15 rfl d1_14 rfl ?_
    refine Go.iconst 16 rfl (2 : Int32) d1_15 rfl ?_
    refine Go.icmp_lt 24 19 d1_16 (by decide) rfl rfl (fun (b114 : (1 : Int32) < (2 : Int32)) => ?_) (fun (b114 : ¬ (1 : Int32) < (2 : Int32)) => ?_)
    · refine Go.aloadN 25 rfl d1_24 rfl rfl ?_
      have A115 : Ary Z h110 a101 .byte [.int b0] := by have q := A113; simpa only [own_nb hb0] using q
      have F116 : Exa Z h110 a101 "[B" := (E107.keep K111)
      exact Go.retA d1_25 rfl rfl rfl (by decide) (by decide) ⟨a101, rfl, Nat.le_of_eq g103.symm, (((Keep.refl h0 []).trans K105 all0).trans K111 (allS (Or.inr (Nat.le_of_eq g103.symm)) all0)), A115, F116⟩
    · exact absurd (show (1 : Int32) < (2 : Int32) from (by decide)) b114
def Q1n0 (Z : State) (h0 : Heap) (v : Option Value) (h : Heap) : Prop := ∃ t, v = some (.ref t) ∧ h0.size ≤ t ∧ Keep h0 h [] ∧ Ary Z h t .byte [] ∧ Exa Z h t "[B"
theorem c1n0 (Z : State) (hw : Wd Z tables_1) (h0 : Heap) (x : Int32) (y : Int32)   : Con Z B1 (List.toArray [.int (0 : Int32), .int x, .int y]) h0 (Q1n0 Z h0) := by
  refine Con.mk (Ls := #[.val (.int (0 : Int32)), .val (.int x), .val (.int y), .unset]) hw pn1 (fun mid => by first | (simp [entryFrame, mkF, argsToLocals, Value.category, Jvm.Ow.Bd.ml, B1]; done) | rfl) (Go.old fun hle' => ?_)
  have hle := hle'.1
  refine Go.iloadN 1 rfl d1_0 rfl ?_
  refine Go.newA 3 rfl 4 0 0 d1_1 rfl rfl (by decide) (by decide) (by decide) (by decide) fun h102 a101 g103 z104 K105 A106 E107 => ?_
  have A108 : Ary Z h102 a101 .byte [] := A106
  refine Go.astoreN 4 rfl d1_3 rfl (Ls' := #[.val (.int (0 : Int32)), .val (.int x), .val (.int y), .val (.ref a101)]) rfl ?_
  refine Go.iloadN 5 rfl d1_4 rfl ?_
  refine Go.iconst 6 rfl (1 : Int32) d1_5 rfl ?_
  refine Go.icmp_lt 14 9 d1_6 (by decide) rfl rfl (fun (b109 : (0 : Int32) < (1 : Int32)) => ?_) (fun (b109 : ¬ (0 : Int32) < (1 : Int32)) => ?_)
  · refine Go.iloadN 15 rfl d1_14 rfl ?_
    refine Go.iconst 16 rfl (2 : Int32) d1_15 rfl ?_
    refine Go.icmp_lt 24 19 d1_16 (by decide) rfl rfl (fun (b110 : (0 : Int32) < (2 : Int32)) => ?_) (fun (b110 : ¬ (0 : Int32) < (2 : Int32)) => ?_)
    · refine Go.aloadN 25 rfl d1_24 rfl rfl ?_
      have A111 : Ary Z h102 a101 .byte [] := by have q := A108; exact q
      exact Go.retA d1_25 rfl rfl rfl (by decide) (by decide) ⟨a101, rfl, Nat.le_of_eq g103.symm, ((Keep.refl h0 []).trans K105 all0), A111, E107⟩
    · exact absurd (show (0 : Int32) < (2 : Int32) from (by decide)) b110
  · exact absurd (show (0 : Int32) < (1 : Int32) from (by decide)) b109
theorem d36_0 : decode method_3_code 0 = .ok (.iload_n 0, 1) := by decide +kernel
theorem d36_1 : decode method_3_code 1 = .ok (.sipush 128, 3) := by decide +kernel
theorem d36_4 : decode method_3_code 4 = .ok (.if_icmp .ge 8, 3) := by decide +kernel
theorem d36_7 : decode method_3_code 7 = .ok (.iload_n 0, 1) := by decide +kernel
theorem d36_8 : decode method_3_code 8 = .ok (.i2c, 1) := by decide +kernel
theorem d36_9 : decode method_3_code 9 = .ok (.goto 5, 3) := by decide +kernel
theorem d36_12 : decode method_3_code 12 = .ok (.ldc 7, 2) := by decide +kernel
theorem d36_14 : decode method_3_code 14 = .ok (.ireturn, 1) := by decide +kernel
theorem pd36 : parseMethodDescriptor "(I)C" = some ⟨[.int], some .char⟩ := by decide +kernel
theorem pn36 : plainFor (⟨"com/example/umweg/umweg/core/FieldToStringPinLaw", "dec", "(I)C"⟩ : MethodName) = true := by first | (refine plainFor_of_name ?_; simp [plainName, overriddenIn]; done) | (refine plainFor_of_name ?_; decide +kernel) | decide +kernel
abbrev B36 : Bd := ((⟨"com/example/umweg/umweg/core/FieldToStringPinLaw", "dec", "(I)C"⟩ : MethodName), method_3_code, 1, (some .char), ({ frames := 0, cells := 0, slots := 0, locals := 0 } : Room), tables_1)
def Q36 (x : Int32) (h0 : Heap) (v : Option Value) (h : Heap) : Prop := v = some (.int x) ∧ h0 = h
theorem c36 (Z : State) (hw : Wd Z tables_1) (h0 : Heap) (u : Int32) (x : Int32) (hx : decv u = x) : Con Z B36 (List.toArray [.int u]) h0 (Q36 x h0) := by
  refine Con.mk (Ls := #[.val (.int u)]) hw pn36 (fun mid => by first | (simp [entryFrame, mkF, argsToLocals, Value.category, Jvm.Ow.Bd.ml, B36]; done) | rfl) (Go.old fun hle' => ?_)
  have hle := hle'.1
  refine Go.iloadN 1 rfl d36_0 rfl ?_
  refine Go.sipush 4 rfl (128 : Int32) d36_1 rfl ?_
  refine Go.icmp_ge 12 7 d36_4 (by decide) rfl rfl (fun (b101 : ¬ u < (128 : Int32)) => ?_) (fun (b101 : u < (128 : Int32)) => ?_)
  · refine Go.ldcI 14 rfl (v := (65533 : Int32)) 269 d36_12 rfl ?_
    exact Go.retN (t := .char) (z' := (65533 : Int32)) d36_14 rfl (by decide) (by decide) (by decide) (by decide) ⟨by rw [← hx, decv, if_neg b101], rfl⟩
  · refine Go.iloadN 8 rfl d36_7 rfl ?_
    refine Go.i2c 9 rfl d36_8 ?_
    refine Go.goto 14 d36_9 (by decide) (by decide) ?_
    refine Go.eqI (w := x) (own_dl b101 hx) ?_
    exact Go.retN (t := .char) (z' := x) d36_14 rfl (by decide) (own_nc (own_chd hx)) (by decide) (by decide) ⟨rfl, rfl⟩
theorem d3_0 : decode jdk_30_method_1_code 0 = .ok (.aload_n 0, 1) := by decide +kernel
theorem d3_1 : decode jdk_30_method_1_code 1 = .ok (.invokespecial 1, 3) := by decide +kernel
theorem d3_4 : decode jdk_30_method_1_code 4 = .ok (.return_, 1) := by decide +kernel
theorem pd3 : parseMethodDescriptor "()V" = some ⟨[], none⟩ := by decide +kernel
theorem pn3 : plainFor (⟨"java/lang/Record", "<init>", "()V"⟩ : MethodName) = true := by first | (refine plainFor_of_name ?_; simp [plainName, overriddenIn]; done) | (refine plainFor_of_name ?_; decide +kernel) | decide +kernel
abbrev B3 : Bd := ((⟨"java/lang/Record", "<init>", "()V"⟩ : MethodName), jdk_30_method_1_code, 1, none, ({ frames := 1, cells := 0, slots := 0, locals := 12 } : Room), tables_1)
def Q3 (h0 : Heap) (v : Option Value) (h : Heap) : Prop := v = none ∧ h0 = h
theorem c3 (Z : State) (hw : Wd Z tables_1) (h0 : Heap) (a : Addr)   : Con Z B3 (List.toArray [.ref a]) h0 (Q3 h0) := by
  refine Con.mk (Ls := #[.val (.ref a)]) hw pn3 (fun mid => by first | (simp [entryFrame, mkF, argsToLocals, Value.category, Jvm.Ow.Bd.ml, B3]; done) | rfl) (Go.old fun hle' => ?_)
  have hle := hle'.1
  refine Go.aloadN 1 rfl d3_0 rfl rfl ?_
  refine Go.initO 4 rfl 16 17 18 d3_1 rfl rfl rfl rfl (by decide) (W := 0) (lb rfl) (by decide) ?_
  exact Go.retV d3_4 rfl (by decide) (by decide) ⟨rfl, rfl⟩
end Jvm.Pilot.@@N@@
namespace Jvm.Pilot.@@N@@
open Jvm Jvm.ClassFile Sem Op Lib Jvm.Free Jvm.Stand Jvm.LawKit Jvm.RoadKit Bundle Jvm.Ox Jvm.Pilot.@@N@@.Jvm.D
open Jvm.Ow (Bd Wd Ary Aov own_ins own_na ltN len_ofNat Con ConW)
def Q54z (Z : State) (a : Addr) (h0 : Heap) (v : Option Value) (h : Heap) : Prop := v = none ∧ ∃ t, Keep h0 h [a] ∧ YSv Z h a (.ref t) ∧ YSc Z h a (.int 0) ∧ Ary Z h t .byte (IL [])
theorem c54z (Z : State) (hw : Wd Z tables_1) (h0 : Heap) (a : Addr) (m : Addr) (s : Addr)  (hge : Z.heap.size ≤ a) (hE : YEs Z h0 a) (hV : YSv Z h0 a .null) (hC : YSc Z h0 a (.int 0)) : ConHW [(800, 813, 816, 202)] Z B54 (List.toArray [.ref a, .ref m, .ref s, .int (0 : Int32), .int (0 : Int32)]) h0 [a] (Q54z Z a h0) := by
  refine ConHW.mk (Ls := #[.val (.ref a), .val (.ref m), .val (.ref s), .val (.int (0 : Int32)), .val (.int (0 : Int32)), .unset, .unset, .unset, .unset, .unset, .unset]) hw pn54 (fun mid => by first | (simp [entryFrame, mkF, argsToLocals, Value.category, Jvm.Ow.Bd.ml, B54]; done) | rfl) (Go.old fun hle' => ?_)
  have hle := hle'.1
  refine Go.aloadN 1 rfl d54_0 rfl rfl ?_
  refine Go.initO 4 rfl 73 17 18 d54_1 rfl rfl rfl rfl (by decide) (W := 0) (lb rfl) (by decide) ?_
  refine Go.iload 6 rfl d54_4 rfl ?_
  refine Go.if_ne 30 9 d54_6 (by decide) rfl rfl (fun (b101 : ¬ (0 : Int32) = 0) => ?_) (fun (b101 : (0 : Int32) = 0) => ?_)
  · exact absurd (show (0 : Int32) = 0 from (by decide)) b101
  · refine Go.aloadN 10 rfl d54_9 rfl rfl ?_
    refine Go.ldcC 12 rfl (vs := []) (z := 0) 74 20 21 4 22 23 24 25 d54_10 rfl ⟨_, rfl, rfl⟩ (by show ("java/lang/String", 7) ∈ Jvm.Ox.EL; decide) ⟨by decide, rfl⟩ (by decide) rfl (c0 := 0) (by decide) (by decide) (by decide) (by decide) [a] (Keep.refl h0 [a]) (fun _ q => q) (allS ⟨(Or.inl (by simp)), hE.lt⟩ all0) fun h103 a102 t105 K104 E106 F107 F108 A109 ne110 => ?_
    refine Go.getF 15 rfl (v := .ref t105) 75 d54_12 rfl F108 ?_
    have F111 : YSv Z h103 a (.null) := (hV.keep K104 nin0)
    have F112 : YEs Z h103 a := (hE.keep K104)
    refine Go.putF 18 rfl (v' := .ref t105) (ty := (.array .byte)) 75 22 21 d54_15 rfl F111 F112 (Or.inr ⟨rfl, rfl, rfl⟩) rfl (by decide) rfl rfl hge fun h113 K114 W115 F116 => ?_
    refine Go.aloadN 19 rfl d54_18 rfl rfl ?_
    refine Go.ldcC 21 rfl (vs := []) (z := 0) 74 20 21 4 22 23 24 25 d54_19 rfl ⟨_, rfl, rfl⟩ (by show ("java/lang/String", 7) ∈ Jvm.Ox.EL; decide) ⟨by decide, rfl⟩ (by decide) rfl (c0 := 0) (by decide) (by decide) (by decide) (by decide) [a] ((Keep.refl h103 [a]).trans K114 (by simp)) (fun _ q => q) (allS ⟨(Or.inl (by simp)), F116.lt⟩ all0) fun h118 a117 t120 K119 E121 F122 F123 A124 ne125 => ?_
    refine Go.getF 24 rfl (v := .int (0 : Int32)) 76 d54_21 rfl F122 ?_
    have F126 : YSc Z h118 a (.int (0 : Int32)) := ((Jvm.Ow.Fld.oth hw (hC.keep K104 nin0) W115 23 22 (Or.inr rfl) (Or.inr rfl) (by decide) rfl rfl).keep K119 nin0)
    have F127 : YEs Z h118 a := ((F112.keep K114).keep K119)
    refine Go.putF 27 rfl (v' := .int (0 : Int32)) (ty := .byte) 76 23 21 d54_24 rfl F126 F127 (Or.inr ⟨rfl, rfl, rfl⟩) rfl (by decide) rfl rfl hge fun h128 K129 W130 F131 => ?_
    refine Go.goto 879 d54_27 (by decide) (by decide) ?_
    have kc132 : Keep h0 h128 [a] := (((((Keep.refl h0 [a]).trans K104 all0).trans K114 (by simp)).trans K119 all0).trans K129 (by simp))
    have F133 : YSv Z h128 a (.ref t105) := (Jvm.Ow.Fld.oth hw (F116.keep K119 nin0) W130 22 23 (Or.inr rfl) (Or.inr rfl) (by decide) rfl rfl)
    have F134 : Ary Z h128 t105 .byte [] := (((A109.keep K114 (ninS (Ne.symm (ne110 a (by simp)).2) nin0)).keep K119 nin0).keep K129 (ninS (Ne.symm (ne110 a (by simp)).2) nin0))
    exact Go.retV d54_879 rfl (by decide) (by decide) ((Keep.refl h118 [a]).trans K129 (by simp)) (fun _ q => q) ⟨rfl, t105, kc132, F133, F131, F134⟩
def Q9z (Z : State) (a : Addr) (h0 : Heap) (v : Option Value) (h : Heap) : Prop := v = none ∧ ∃ t, Keep h0 h [a] ∧ YSv Z h a (.ref t) ∧ YSc Z h a (.int 0) ∧ Ary Z h t .byte (IL [])
theorem c9z (Z : State) (hw : Wd Z tables_1) (h0 : Heap) (a : Addr) (s : Addr) (m : Addr)  (hge : Z.heap.size ≤ a) (hE : YEs Z h0 a) (hV : YSv Z h0 a .null) (hC : YSc Z h0 a (.int 0)) (hA : Ary Z h0 s .byte []) (hM : Exa Z h0 m "sun/nio/cs/UTF_8") : ConH Z B9 (List.toArray [.ref a, .ref s, .ref m]) h0 [a] (Q9z Z a h0) := by
  refine ConH.mk (Ls := #[.val (.ref a), .val (.ref s), .val (.ref m)]) hw pn9 (fun mid => by first | (simp [entryFrame, mkF, argsToLocals, Value.category, Jvm.Ow.Bd.ml, B9]; done) | rfl) (Go.old fun hle' => ?_)
  have hle := hle'.1
  refine Go.aloadN 1 rfl d9_0 rfl rfl ?_
  refine Go.aloadN 2 rfl d9_1 rfl rfl ?_
  refine Go.callS 5 rfl (C := B10) [.ref m] (rest := [.ref a]) 64 65 28 66 (c10 Z hw h0 m) d9_2 rfl rfl rfl rfl (by decide) pd10 rfl rfl rfl (W := 1) (lb rfl) (by decide) (by decide) (by decide) (by decide) fun v101 h102 q103 => ?_
  obtain ⟨rfl, rfl⟩ := q103
  refine Go.castY 8 rfl 67 d9_5 rfl (own_ins hw 68 rfl hM) ?_
  refine Go.aloadN 9 rfl d9_8 rfl rfl ?_
  refine Go.iconst 10 rfl (0 : Int32) d9_9 rfl ?_
  refine Go.aloadN 11 rfl d9_10 rfl rfl ?_
  refine Go.alen 12 rfl (0 : Int32) d9_11 hA rfl ?_
  refine Go.callIHW 15 rfl (C := B54) a [.ref m, .ref s, .int (0 : Int32), .int (0 : Int32)] (rest := []) 69 70 20 72 (c54z Z hw h0 a m s hge hE hV hC) d9_12 rfl rfl rfl rfl rfl rfl (by decide) pd54 rfl rfl rfl (W := 0) (lb rfl) (by decide) (by decide) (by decide) (by decide) [a] (Keep.refl h0 [a]) (fun _ q => q) (allS ⟨(Or.inl (by simp)), hE.lt⟩ all0) (allS ⟨(Or.inl (by simp)), hE.lt⟩ all0) fun v104 h105 q106 => ?_
  obtain ⟨rfl, t, K, F1, F2, A⟩ := q106
  exact Go.retV d9_15 rfl (by decide) (by decide) (Keep.refl h105 [a]) (fun _ q => q) ⟨rfl, t, K, F1, F2, A⟩
theorem d2_0 : decode prog_13_method_1_code 0 = .ok (.aload_n 0, 1) := by decide +kernel
theorem d2_1 : decode prog_13_method_1_code 1 = .ok (.invokespecial 1, 3) := by decide +kernel
theorem d2_4 : decode prog_13_method_1_code 4 = .ok (.aload_n 1, 1) := by decide +kernel
theorem d2_5 : decode prog_13_method_1_code 5 = .ok (.ldc 7, 2) := by decide +kernel
theorem d2_7 : decode prog_13_method_1_code 7 = .ok (.invokestatic 9, 3) := by decide +kernel
theorem d2_10 : decode prog_13_method_1_code 10 = .ok (.pop, 1) := by decide +kernel
theorem d2_11 : decode prog_13_method_1_code 11 = .ok (.aload_n 2, 1) := by decide +kernel
theorem d2_12 : decode prog_13_method_1_code 12 = .ok (.ldc 15, 2) := by decide +kernel
theorem d2_14 : decode prog_13_method_1_code 14 = .ok (.invokestatic 9, 3) := by decide +kernel
theorem d2_17 : decode prog_13_method_1_code 17 = .ok (.pop, 1) := by decide +kernel
theorem d2_18 : decode prog_13_method_1_code 18 = .ok (.aload_n 0, 1) := by decide +kernel
theorem d2_19 : decode prog_13_method_1_code 19 = .ok (.aload_n 1, 1) := by decide +kernel
theorem d2_20 : decode prog_13_method_1_code 20 = .ok (.putfield 17, 3) := by decide +kernel
theorem d2_23 : decode prog_13_method_1_code 23 = .ok (.aload_n 0, 1) := by decide +kernel
theorem d2_24 : decode prog_13_method_1_code 24 = .ok (.aload_n 2, 1) := by decide +kernel
theorem d2_25 : decode prog_13_method_1_code 25 = .ok (.putfield 22, 3) := by decide +kernel
theorem d2_28 : decode prog_13_method_1_code 28 = .ok (.return_, 1) := by decide +kernel
theorem pd2 : parseMethodDescriptor "([B[B)V" = some ⟨[(.array .byte), (.array .byte)], none⟩ := by decide +kernel
theorem pn2 : plainFor (⟨"com/example/umweg/umweg/core/Field", "<init>", "([B[B)V"⟩ : MethodName) = true := by first | (refine plainFor_of_name ?_; simp [plainName, overriddenIn]; done) | (refine plainFor_of_name ?_; decide +kernel) | decide +kernel
abbrev B2 : Bd := ((⟨"com/example/umweg/umweg/core/Field", "<init>", "([B[B)V"⟩ : MethodName), prog_13_method_1_code, 3, none, ({ frames := 2, cells := 4, slots := 44, locals := 24 } : Room), tables_1)
def Q2 (Z : State) (f : Addr) (s : Addr) (u : Addr) (h0 : Heap) (v : Option Value) (h : Heap) : Prop := v = none ∧ Keep h0 h [f] ∧ Fld Z h f "com/example/umweg/umweg/core/Field" "name" "[B" (.ref s) ∧ Fld Z h f "com/example/umweg/umweg/core/Field" "value" "[B" (.ref u)
theorem c2 (Z : State) (hw : Wd Z tables_1) (h0 : Heap) (f : Addr) (s : Addr) (u : Addr)  (hge : Z.heap.size ≤ f) (hE : Exa Z h0 f "com/example/umweg/umweg/core/Field") (hN : Fld Z h0 f "com/example/umweg/umweg/core/Field" "name" "[B" .null) (hW : Fld Z h0 f "com/example/umweg/umweg/core/Field" "value" "[B" .null) : ConH Z B2 (List.toArray [.ref f, .ref s, .ref u]) h0 [f] (Q2 Z f s u h0) := by
  refine ConH.mk (Ls := #[.val (.ref f), .val (.ref s), .val (.ref u)]) hw pn2 (fun mid => by first | (simp [entryFrame, mkF, argsToLocals, Value.category, Jvm.Ow.Bd.ml, B2]; done) | rfl) (Go.old fun hle' => ?_)
  have hle := hle'.1
  refine Go.aloadN 1 rfl d2_0 rfl rfl ?_
  refine Go.callI 4 rfl (C := B3) f [] (rest := []) 11 12 14 15 (c3 Z hw h0 f) d2_1 rfl rfl rfl rfl rfl rfl (by decide) pd3 rfl rfl rfl (W := 0) (lb rfl) (by decide) (by decide) (by decide) (by decide) fun v101 h102 q103 => ?_
  obtain ⟨rfl, rfl⟩ := q103
  refine Go.aloadN 5 rfl d2_4 rfl rfl ?_
  refine Go.ldcO 7 rfl 19 20 21 4 22 23 24 25 d2_5 rfl ⟨_, rfl, rfl⟩ (c0 := 16) (by decide) (by decide) (by decide) (by decide) [f] (Keep.refl h0 [f]) (fun _ q => q) (allS ⟨(Or.inl (by simp)), hE.lt⟩ all0) fun h105 a104 K106 => ?_
  refine Go.callS 10 rfl (C := B5) [.ref s, .ref a104] (rest := []) 26 27 28 29 (c5 Z hw h105 s a104) d2_7 rfl rfl rfl rfl (by decide) pd5 rfl rfl rfl (W := 0) (lb rfl) (by decide) (by decide) (by decide) (by decide) fun v107 h108 q109 => ?_
  obtain ⟨rfl, rfl⟩ := q109
  refine Go.pop 11 rfl d2_10 rfl ?_
  refine Go.aloadN 12 rfl d2_11 rfl rfl ?_
  have F110 : Exa Z h105 f "com/example/umweg/umweg/core/Field" := (hE.keep K106)
  refine Go.ldcO 14 rfl 30 20 21 4 22 23 24 25 d2_12 rfl ⟨_, rfl, rfl⟩ (c0 := 20) (by decide) (by decide) (by decide) (by decide) [f] (Keep.refl h105 [f]) (fun _ q => q) (allS ⟨(Or.inl (by simp)), F110.lt⟩ all0) fun h112 a111 K113 => ?_
  refine Go.callS 17 rfl (C := B5) [.ref u, .ref a111] (rest := []) 26 27 28 29 (c5 Z hw h112 u a111) d2_14 rfl rfl rfl rfl (by decide) pd5 rfl rfl rfl (W := 0) (lb rfl) (by decide) (by decide) (by decide) (by decide) fun v114 h115 q116 => ?_
  obtain ⟨rfl, rfl⟩ := q116
  refine Go.pop 18 rfl d2_17 rfl ?_
  refine Go.aloadN 19 rfl d2_18 rfl rfl ?_
  refine Go.aloadN 20 rfl d2_19 rfl rfl ?_
  have F117 : Fld Z h112 f "com/example/umweg/umweg/core/Field" "name" "[B" (.null) := ((hN.keep K106 nin0).keep K113 nin0)
  have F118 : Exa Z h112 f "com/example/umweg/umweg/core/Field" := (F110.keep K113)
  refine Go.putF 23 rfl (v' := .ref s) (ty := (.array .byte)) 31 32 6 d2_20 rfl F117 F118 (Or.inr ⟨rfl, rfl, rfl⟩) rfl (by decide) rfl rfl hge fun h119 K120 W121 F122 => ?_
  refine Go.aloadN 24 rfl d2_23 rfl rfl ?_
  refine Go.aloadN 25 rfl d2_24 rfl rfl ?_
  have F123 : Fld Z h119 f "com/example/umweg/umweg/core/Field" "value" "[B" (.null) := (Jvm.Ow.Fld.oth hw ((hW.keep K106 nin0).keep K113 nin0) W121 34 32 (Or.inr rfl) (Or.inr rfl) (by decide) rfl rfl)
  have F124 : Exa Z h119 f "com/example/umweg/umweg/core/Field" := (F118.keep K120)
  refine Go.putF 28 rfl (v' := .ref u) (ty := (.array .byte)) 33 34 6 d2_25 rfl F123 F124 (Or.inr ⟨rfl, rfl, rfl⟩) rfl (by decide) rfl rfl hge fun h125 K126 W127 F128 => ?_
  have kc129 : Keep h0 h125 [f] := (((((Keep.refl h0 [f]).trans K106 all0).trans K113 all0).trans K120 (by simp)).trans K126 (by simp))
  have F130 : Fld Z h125 f "com/example/umweg/umweg/core/Field" "name" "[B" (.ref s) := (Jvm.Ow.Fld.oth hw F122 W127 32 34 (Or.inr rfl) (Or.inr rfl) (by decide) rfl rfl)
  exact Go.retV d2_28 rfl (by decide) (by decide) (((Keep.refl h112 [f]).trans K120 (by simp)).trans K126 (by simp)) (fun _ q => q) ⟨rfl, kc129, F130, F128⟩
def QS (Z : State) (a : Addr) (xs : List Int32) (h0 : Heap) (v : Option Value) (h : Heap) : Prop := v = none ∧ ∃ t, h0.size ≤ t ∧ Keep h0 h [a] ∧ Str Z h a t xs
theorem d6_0 : decode prog_13_method_5_code 0 = .ok (.new 49, 3) := by decide +kernel
theorem d6_3 : decode prog_13_method_5_code 3 = .ok (.dup, 1) := by decide +kernel
theorem d6_4 : decode prog_13_method_5_code 4 = .ok (.invokespecial 51, 3) := by decide +kernel
theorem d6_7 : decode prog_13_method_5_code 7 = .ok (.new 31, 3) := by decide +kernel
theorem d6_10 : decode prog_13_method_5_code 10 = .ok (.dup, 1) := by decide +kernel
theorem d6_11 : decode prog_13_method_5_code 11 = .ok (.aload_n 0, 1) := by decide +kernel
theorem d6_12 : decode prog_13_method_5_code 12 = .ok (.getfield 17, 3) := by decide +kernel
theorem d6_15 : decode prog_13_method_5_code 15 = .ok (.getstatic 24, 3) := by decide +kernel
theorem d6_18 : decode prog_13_method_5_code 18 = .ok (.invokespecial 52, 3) := by decide +kernel
theorem d6_21 : decode prog_13_method_5_code 21 = .ok (.invokevirtual 55, 3) := by decide +kernel
theorem d6_24 : decode prog_13_method_5_code 24 = .ok (.ldc 59, 2) := by decide +kernel
theorem d6_26 : decode prog_13_method_5_code 26 = .ok (.invokevirtual 55, 3) := by decide +kernel
theorem d6_29 : decode prog_13_method_5_code 29 = .ok (.new 31, 3) := by decide +kernel
theorem d6_32 : decode prog_13_method_5_code 32 = .ok (.dup, 1) := by decide +kernel
theorem d6_33 : decode prog_13_method_5_code 33 = .ok (.aload_n 0, 1) := by decide +kernel
theorem d6_34 : decode prog_13_method_5_code 34 = .ok (.getfield 22, 3) := by decide +kernel
theorem d6_37 : decode prog_13_method_5_code 37 = .ok (.getstatic 24, 3) := by decide +kernel
theorem d6_40 : decode prog_13_method_5_code 40 = .ok (.invokespecial 52, 3) := by decide +kernel
theorem d6_43 : decode prog_13_method_5_code 43 = .ok (.invokevirtual 55, 3) := by decide +kernel
theorem d6_46 : decode prog_13_method_5_code 46 = .ok (.invokevirtual 61, 3) := by decide +kernel
theorem d6_49 : decode prog_13_method_5_code 49 = .ok (.areturn, 1) := by decide +kernel
theorem pd6 : parseMethodDescriptor "()Ljava/lang/String;" = some ⟨[], some (.object "java/lang/String")⟩ := by decide +kernel
theorem pn6 : plainFor (⟨"com/example/umweg/umweg/core/Field", "toString", "()Ljava/lang/String;"⟩ : MethodName) = true := by first | (refine plainFor_of_name ?_; simp [plainName, overriddenIn]; done) | (refine plainFor_of_name ?_; decide +kernel) | decide +kernel
abbrev B6 : Bd := ((⟨"com/example/umweg/umweg/core/Field", "toString", "()Ljava/lang/String;"⟩ : MethodName), prog_13_method_5_code, 1, (some (.object "java/lang/String")), ({ frames := 10, cells := 19, slots := 230, locals := 143 } : Room), tables_1)
def Q6tpp (Z : State) (xs : List Int32) (zs : List Int32) (h0 : Heap) (v : Option Value) (h : Heap) : Prop := ∃ a t, v = some (.ref a) ∧ h0.size ≤ a ∧ Keep h0 h [] ∧ Str Z h a t (xs ++ 61 :: zs)
theorem c6tpp (Z : State) (hw : Wd Z tables_1) (h0 : Heap) (f : Addr) (xs : List Int32) (zs : List Int32) (ps : List Value) (hx : xs.length ≤ 2) (qs : List Value) (hz : zs.length ≤ 2) (cs : Int32) (hS : YCs Z cs) (hcs : ¬ cs = 0) (hAs : YAs Z) (hHi : YHi Z) (hLo : YLo Z) (hfm : YFm Z) (m : Addr) (hU : YUt Z m) (hU8 : YU8 Z m) (s : Addr) (u : Addr) (C1 : ∀ (h : Heap) (a : Addr), Z.heap.size ≤ a → YEs Z h a → YSv Z h a .null → YSc Z h a (.int 0) → Ary Z h s .byte ps → Exa Z h s "[B" → Exa Z h m "sun/nio/cs/UTF_8" → Con Z B9 (List.toArray [.ref a, .ref s, .ref m]) h (QS Z a xs h)) (C2 : ∀ (h : Heap) (a : Addr), Z.heap.size ≤ a → YEs Z h a → YSv Z h a .null → YSc Z h a (.int 0) → Ary Z h u .byte qs → Exa Z h u "[B" → Exa Z h m "sun/nio/cs/UTF_8" → Con Z B9 (List.toArray [.ref a, .ref u, .ref m]) h (QS Z a zs h)) (hN : Fld Z h0 f "com/example/umweg/umweg/core/Field" "name" "[B" (.ref s)) (hW : Fld Z h0 f "com/example/umweg/umweg/core/Field" "value" "[B" (.ref u)) (hA : Ary Z h0 s .byte ps) (hB : Ary Z h0 u .byte qs) (hEs : Exa Z h0 s "[B") (hEu : Exa Z h0 u "[B") (hM : Exa Z h0 m "sun/nio/cs/UTF_8") : ConH Z B6 (List.toArray [.ref f]) h0 [] (Q6tpp Z xs zs h0) := by
  refine ConH.mk (Ls := #[.val (.ref f)]) hw pn6 (fun mid => by first | (simp [entryFrame, mkF, argsToLocals, Value.category, Jvm.Ow.Bd.ml, B6]; done) | rfl) (Go.old fun hle' => ?_)
  have hle := hle'.1
  refine Go.newO 3 rfl 40 41 42 d6_0 rfl rfl rfl (by decide) (by decide) fun h102 a101 g103 z104 K105 E106 D107 => ?_
  refine Go.dup 4 rfl d6_3 rfl ?_
  refine Go.callI 7 rfl (C := B7) a101 [] (rest := [.ref a101]) 43 44 42 45 (c7 Z hw h102 a101 cs hS hcs z104 E106 (D107 55 (Or.inl rfl) (ty := (.array .byte)) (by decide) : YBv Z h102 a101 (.null)) (D107 57 (Or.inl rfl) (ty := .byte) (by decide) : YBc Z h102 a101 (.int (0 : Int32))) (D107 99 (Or.inl rfl) (ty := .int) (by decide) : YBn Z h102 a101 (.int (0 : Int32))) (D107 258 (Or.inl rfl) (ty := .boolean) (by decide) : YBm Z h102 a101 (.int (0 : Int32)))) d6_4 rfl rfl rfl rfl rfl rfl (by decide) pd7 rfl rfl rfl (W := 1) (lb rfl) (by decide) (by decide) (by decide) (by decide) fun v116 h117 q118 => ?_
  obtain ⟨rfl, t108, g109, K110, F111, F112, F113, F114, A115⟩ := q118
  have z119 : Z.heap.size ≤ t108 := Nat.le_trans (Nat.le_trans hle K105.1) g109
  have F121 : YEb Z h117 a101 := (E106.keep K110)
  have B120 : Sbl Z h117 a101 t108 [] := ⟨F121, F111, F113, F114, Or.inl ⟨F112, _, A115, rfl, trivial⟩⟩
  refine Go.newO 10 rfl 58 21 20 d6_7 rfl rfl rfl (by decide) (by decide) fun h123 a122 g124 z125 K126 E127 D128 => ?_
  refine Go.dup 11 rfl d6_10 rfl ?_
  refine Go.aloadN 12 rfl d6_11 rfl rfl ?_
  have ne129 : f ≠ a101 := (show @Ne Nat f a101 from by have := ltN hN.lt; have := g103; omega)
  have F130 : Fld Z h123 f "com/example/umweg/umweg/core/Field" "name" "[B" (.ref s) := (((hN.keep K105 nin0).keep K110 (ninS ne129 nin0)).keep K126 nin0)
  refine Go.getF 15 rfl (v := .ref s) 31 d6_12 rfl F130 ?_
  refine Go.getS 18 rfl (v := .ref m) 59 d6_15 rfl hU8 ?_
  have ne135 : s ≠ a101 := (show @Ne Nat s a101 from by have := ltN hA.lt; have := g103; omega)
  have F136 : Ary Z h123 s .byte ps := (((hA.keep K105 nin0).keep K110 (ninS ne135 nin0)).keep K126 nin0)
  have F137 : Exa Z h123 s "[B" := (((hEs.keep K105).keep K110).keep K126)
  have F138 : Exa Z h123 m "sun/nio/cs/UTF_8" := (((hM.keep K105).keep K110).keep K126)
  refine Go.callI 21 rfl (C := B9) a122 [.ref s, .ref m] (rest := [.ref a122, .ref a101]) 61 62 20 63 (C1 h123 a122 z125 E127 (D128 22 (Or.inr rfl) (ty := (.array .byte)) (by decide) : YSv Z h123 a122 (.null)) (D128 23 (Or.inr rfl) (ty := .byte) (by decide) : YSc Z h123 a122 (.int (0 : Int32))) F136 F137 F138) d6_18 rfl rfl rfl rfl rfl rfl (by decide) pd9 rfl rfl rfl (W := 2) (lb rfl) (by decide) (by decide) (by decide) (by decide) fun v139 h140 q141 => ?_
  obtain ⟨rfl, t131, g133, K132, T134⟩ := q141
  have sz143 := (Nat.le_trans K105.1 K110.1)
  have sz144 := (Nat.le_trans sz143 K126.1)
  have z142 : Z.heap.size ≤ t131 := Nat.le_trans (Nat.le_trans hle sz144) g133
  have ne149 : a101 ≠ a122 := (show @Ne Nat a101 a122 from by have := ltN F121.lt; have := g124; omega)
  have ne150 : t108 ≠ a122 := (show @Ne Nat t108 a122 from by have := ltN A115.lt; have := g124; omega)
  have B151 := ((B120.keep K126 nin0 nin0).keep K132 (ninS ne149 nin0) (ninS ne150 nin0))
  have ne152 : t131 ≠ t108 := (show @Ne Nat t131 t108 from by have := ltN A115.lt; have := K126.1; have := g133; omega)
  have F156 : YEb Z h140 a101 := ((F121.keep K126).keep K132)
  refine Go.callV 24 rfl (C := B11) a101 [.ref a122] (rest := []) 77 78 80 79 42 81 (c11g Z hw h140 a101 a122 t108 t131 [] xs (Nat.zero_le _) hx cs hS hcs hAs hHi hLo hfm z104 z119 B151 T134 ne152 (Ne.symm ne149)) F156 d6_21 rfl rfl rfl rfl rfl rfl (by decide) pd11 rfl rfl rfl (W := 0) (lb rfl) (by decide) (by decide) (by decide) (by decide) fun v153 h154 q155 => ?_
  obtain ⟨rfl, t145, o146, K147, B148⟩ := q155
  have sz158 := (Nat.le_trans sz144 K132.1)
  have z157 : Z.heap.size ≤ t145 := o146.elim (fun e => by rw [e]; exact z119) (fun g => Nat.le_trans (Nat.le_trans hle sz158) g)
  have kc159 : Keep h0 h154 [] := ((((((Keep.refl h0 []).trans K105 all0).trans K110 (allS (Or.inr (Nat.le_of_eq g103.symm)) all0)).trans K126 all0).trans K132 (allS (Or.inr (Nat.le_trans sz143 (Nat.le_of_eq g124.symm))) all0)).trans K147 (allS (Or.inr (Nat.le_of_eq g103.symm)) (allS (Or.inr (Nat.le_trans K105.1 g109)) all0)))
  have F160 : YEb Z h154 a101 := (F156.keep K147)
  refine Go.ldcC 26 rfl (vs := [.int 61]) (z := 1) 125 20 21 4 22 23 24 25 d6_24 rfl ⟨_, rfl, rfl⟩ (by show ("com/example/umweg/umweg/core/Field", 59) ∈ Jvm.Ox.EL; decide) ⟨by decide, rfl⟩ (by decide) rfl (c0 := 4) (by decide) (by decide) (by decide) (by decide) [a101, t145] kc159 (fun _ q => q) (allS ⟨(Or.inr (Nat.le_of_eq g103.symm)), F160.lt⟩ (allS ⟨(o146.elim (fun e => by rw [e]; exact (Or.inr (Nat.le_trans K105.1 g109))) (fun g => Or.inr (Nat.le_trans sz158 g))), B148.lt⟩ all0)) fun h162 a161 t164 K163 E165 F166 F167 A168 ne169 => ?_
  have T170 : Str Z h162 a161 t164 [61] := ⟨E165, F167, Or.inl ⟨F166, [61], A168, own_g61, trivial⟩⟩
  have B175 := (B148.keep K163 nin0 nin0)
  have F179 : YEb Z h162 a101 := (F160.keep K163)
  refine Go.callV 29 rfl (C := B11) a101 [.ref a161] (rest := []) 77 78 80 79 42 81 (c11g Z hw h162 a101 a161 t145 t164 ([] ++ xs) [61] (by first | (simp; done) | (simp; omega)) (by decide) cs hS hcs hAs hHi hLo hfm z104 z157 B175 T170 (Ne.symm (ne169 t145 (by simp)).2) (Ne.symm (ne169 a101 (by simp)).1)) F179 d6_26 rfl rfl rfl rfl rfl rfl (by decide) pd11 rfl rfl rfl (W := 0) (lb rfl) (by decide) (by decide) (by decide) (by decide) fun v176 h177 q178 => ?_
  obtain ⟨rfl, t171, o172, K173, B174⟩ := q178
  have sz181 := (Nat.le_trans sz158 K147.1)
  have sz182 := (Nat.le_trans sz181 K163.1)
  have z180 : Z.heap.size ≤ t171 := o172.elim (fun e => by rw [e]; exact z157) (fun g => Nat.le_trans (Nat.le_trans hle sz182) g)
  refine Go.newO 32 rfl 58 21 20 d6_29 rfl rfl rfl (by decide) (by decide) fun h184 a183 g185 z186 K187 E188 D189 => ?_
  refine Go.dup 33 rfl d6_32 rfl ?_
  refine Go.aloadN 34 rfl d6_33 rfl rfl ?_
  have ne190 : f ≠ a122 := (show @Ne Nat f a122 from by have := ltN hN.lt; have := K105.1; have := K110.1; have := g124; omega)
  have ne191 : f ≠ t108 := (show @Ne Nat f t108 from by have := ltN hN.lt; have := K105.1; have := g109; omega)
  have sz192 := (Nat.le_trans K110.1 K126.1)
  have sz193 := (Nat.le_trans sz192 K132.1)
  have ne194 : f ≠ t145 := (show @Ne Nat f t145 from by have := ltN hN.lt; have := K105.1; have := (o146.elim (fun e => by rw [e]; exact g109) (fun g => (Nat.le_trans sz193 g))); omega)
  have F195 : Fld Z h184 f "com/example/umweg/umweg/core/Field" "value" "[B" (.ref u) := ((((((((hW.keep K105 nin0).keep K110 (ninS ne129 nin0)).keep K126 nin0).keep K132 (ninS ne190 nin0)).keep K147 (ninS ne129 (ninS ne191 nin0))).keep K163 nin0).keep K173 (ninS ne129 (ninS ne194 nin0))).keep K187 nin0)
  refine Go.getF 37 rfl (v := .ref u) 33 d6_34 rfl F195 ?_
  refine Go.getS 40 rfl (v := .ref m) 59 d6_37 rfl hU8 ?_
  have ne200 : u ≠ a101 := (show @Ne Nat u a101 from by have := ltN hB.lt; have := g103; omega)
  have ne201 : u ≠ a122 := (show @Ne Nat u a122 from by have := ltN hB.lt; have := K105.1; have := K110.1; have := g124; omega)
  have ne202 : u ≠ t108 := (show @Ne Nat u t108 from by have := ltN hB.lt; have := K105.1; have := g109; omega)
  have ne203 : u ≠ t145 := (show @Ne Nat u t145 from by have := ltN hB.lt; have := K105.1; have := (o146.elim (fun e => by rw [e]; exact g109) (fun g => (Nat.le_trans sz193 g))); omega)
  have F204 : Ary Z h184 u .byte qs := ((((((((hB.keep K105 nin0).keep K110 (ninS ne200 nin0)).keep K126 nin0).keep K132 (ninS ne201 nin0)).keep K147 (ninS ne200 (ninS ne202 nin0))).keep K163 nin0).keep K173 (ninS ne200 (ninS ne203 nin0))).keep K187 nin0)
  have F205 : Exa Z h184 u "[B" := ((((((((hEu.keep K105).keep K110).keep K126).keep K132).keep K147).keep K163).keep K173).keep K187)
  have F206 : Exa Z h184 m "sun/nio/cs/UTF_8" := (((((F138.keep K132).keep K147).keep K163).keep K173).keep K187)
  refine Go.callI 43 rfl (C := B9) a183 [.ref u, .ref m] (rest := [.ref a183, .ref a101]) 61 62 20 63 (C2 h184 a183 z186 E188 (D189 22 (Or.inr rfl) (ty := (.array .byte)) (by decide) : YSv Z h184 a183 (.null)) (D189 23 (Or.inr rfl) (ty := .byte) (by decide) : YSc Z h184 a183 (.int (0 : Int32))) F204 F205 F206) d6_40 rfl rfl rfl rfl rfl rfl (by decide) pd9 rfl rfl rfl (W := 2) (lb rfl) (by decide) (by decide) (by decide) (by decide) fun v207 h208 q209 => ?_
  obtain ⟨rfl, t196, g198, K197, T199⟩ := q209
  have sz211 := (Nat.le_trans sz182 K173.1)
  have sz212 := (Nat.le_trans sz211 K187.1)
  have z210 : Z.heap.size ≤ t196 := Nat.le_trans (Nat.le_trans hle sz212) g198
  have ne217 : a101 ≠ a183 := (show @Ne Nat a101 a183 from by have := ltN F179.lt; have := K173.1; have := g185; omega)
  have ne218 : t171 ≠ a183 := (show @Ne Nat t171 a183 from by have := ltN B174.lt; have := g185; omega)
  have B219 := ((B174.keep K187 nin0 nin0).keep K197 (ninS ne217 nin0) (ninS ne218 nin0))
  have ne220 : t196 ≠ t171 := (show @Ne Nat t196 t171 from by have := ltN B174.lt; have := K187.1; have := g198; omega)
  have F224 : YEb Z h208 a101 := (((F179.keep K173).keep K187).keep K197)
  refine Go.callV 46 rfl (C := B11) a101 [.ref a183] (rest := []) 77 78 80 79 42 81 (c11g Z hw h208 a101 a183 t171 t196 (([] ++ xs) ++ [61]) zs (by first | (simp; done) | (simp; omega)) hz cs hS hcs hAs hHi hLo hfm z104 z180 B219 T199 ne220 (Ne.symm ne217)) F224 d6_43 rfl rfl rfl rfl rfl rfl (by decide) pd11 rfl rfl rfl (W := 0) (lb rfl) (by decide) (by decide) (by decide) (by decide) fun v221 h222 q223 => ?_
  obtain ⟨rfl, t213, o214, K215, B216⟩ := q223
  have sz226 := (Nat.le_trans sz212 K197.1)
  have z225 : Z.heap.size ≤ t213 := o214.elim (fun e => by rw [e]; exact z180) (fun g => Nat.le_trans (Nat.le_trans hle sz226) g)
  have F236 : YEb Z h222 a101 := (F224.keep K215)
  refine Go.callV 49 rfl (C := B19) a101 [] (rest := []) 126 127 129 128 42 130 (c19g Z hw h222 a101 t213 ((([] ++ xs) ++ [61]) ++ zs) (by first | (simp; done) | (simp; omega)) cs hS hcs B216) F236 d6_46 rfl rfl rfl rfl rfl rfl (by decide) pd19 rfl rfl rfl (W := 0) (lb rfl) (by decide) (by decide) (by decide) (by decide) fun v233 h234 q235 => ?_
  obtain ⟨a227, t228, rfl, g229, g230, K231, T232⟩ := q235
  have sz238 := (Nat.le_trans sz226 K215.1)
  have z237 : Z.heap.size ≤ a227 := Nat.le_trans (Nat.le_trans hle sz238) g229
  have kc239 : Keep h0 h234 [] := ((((((kc159.trans K163 all0).trans K173 (allS (Or.inr (Nat.le_of_eq g103.symm)) (allS (o146.elim (fun e => by rw [e]; exact (Or.inr (Nat.le_trans K105.1 g109))) (fun g => Or.inr (Nat.le_trans sz158 g))) all0))).trans K187 all0).trans K197 (allS (Or.inr (Nat.le_trans sz211 (Nat.le_of_eq g185.symm))) all0)).trans K215 (allS (Or.inr (Nat.le_of_eq g103.symm)) (allS (o172.elim (fun e => by rw [e]; exact (o146.elim (fun e => by rw [e]; exact (Or.inr (Nat.le_trans K105.1 g109))) (fun g => Or.inr (Nat.le_trans sz158 g)))) (fun g => Or.inr (Nat.le_trans sz182 g))) all0))).trans K231 all0)
  have kc240 : Keep h162 h234 [a101, t145] := ((((((Keep.refl h162 [a101, t145]).trans K173 (by simp)).trans K187 all0).trans K197 (allS (Or.inr (Nat.le_trans K173.1 (Nat.le_of_eq g185.symm))) all0)).trans K215 (allS (Or.inl (by simp)) (allS (o172.elim (fun e => by rw [e]; exact (Or.inl (by simp))) (fun g => Or.inr g)) all0))).trans K231 all0)
  exact Go.retA d6_49 rfl rfl rfl (by decide) (by decide) kc240 (fun _ q => q) ⟨a227, t228, rfl, Nat.le_trans sz238 g229, kc239, (by simpa using T232)⟩
def Q6tpz (Z : State) (xs : List Int32) (h0 : Heap) (v : Option Value) (h : Heap) : Prop := ∃ a t, v = some (.ref a) ∧ h0.size ≤ a ∧ Keep h0 h [] ∧ Str Z h a t (xs ++ 61 :: [])
theorem c6tpz (Z : State) (hw : Wd Z tables_1) (h0 : Heap) (f : Addr) (xs : List Int32) (ps : List Value) (hx : xs.length ≤ 2) (cs : Int32) (hS : YCs Z cs) (hcs : ¬ cs = 0) (hAs : YAs Z) (hHi : YHi Z) (hLo : YLo Z) (hfm : YFm Z) (m : Addr) (hU : YUt Z m) (hU8 : YU8 Z m) (s : Addr) (u : Addr) (C1 : ∀ (h : Heap) (a : Addr), Z.heap.size ≤ a → YEs Z h a → YSv Z h a .null → YSc Z h a (.int 0) → Ary Z h s .byte ps → Exa Z h s "[B" → Exa Z h m "sun/nio/cs/UTF_8" → Con Z B9 (List.toArray [.ref a, .ref s, .ref m]) h (QS Z a xs h)) (hN : Fld Z h0 f "com/example/umweg/umweg/core/Field" "name" "[B" (.ref s)) (hW : Fld Z h0 f "com/example/umweg/umweg/core/Field" "value" "[B" (.ref u)) (hA : Ary Z h0 s .byte ps) (hB : Ary Z h0 u .byte []) (hEs : Exa Z h0 s "[B") (hEu : Exa Z h0 u "[B") (hM : Exa Z h0 m "sun/nio/cs/UTF_8") : ConH Z B6 (List.toArray [.ref f]) h0 [] (Q6tpz Z xs h0) := by
  refine ConH.mk (Ls := #[.val (.ref f)]) hw pn6 (fun mid => by first | (simp [entryFrame, mkF, argsToLocals, Value.category, Jvm.Ow.Bd.ml, B6]; done) | rfl) (Go.old fun hle' => ?_)
  have hle := hle'.1
  refine Go.newO 3 rfl 40 41 42 d6_0 rfl rfl rfl (by decide) (by decide) fun h102 a101 g103 z104 K105 E106 D107 => ?_
  refine Go.dup 4 rfl d6_3 rfl ?_
  refine Go.callI 7 rfl (C := B7) a101 [] (rest := [.ref a101]) 43 44 42 45 (c7 Z hw h102 a101 cs hS hcs z104 E106 (D107 55 (Or.inl rfl) (ty := (.array .byte)) (by decide) : YBv Z h102 a101 (.null)) (D107 57 (Or.inl rfl) (ty := .byte) (by decide) : YBc Z h102 a101 (.int (0 : Int32))) (D107 99 (Or.inl rfl) (ty := .int) (by decide) : YBn Z h102 a101 (.int (0 : Int32))) (D107 258 (Or.inl rfl) (ty := .boolean) (by decide) : YBm Z h102 a101 (.int (0 : Int32)))) d6_4 rfl rfl rfl rfl rfl rfl (by decide) pd7 rfl rfl rfl (W := 1) (lb rfl) (by decide) (by decide) (by decide) (by decide) fun v116 h117 q118 => ?_
  obtain ⟨rfl, t108, g109, K110, F111, F112, F113, F114, A115⟩ := q118
  have z119 : Z.heap.size ≤ t108 := Nat.le_trans (Nat.le_trans hle K105.1) g109
  have F121 : YEb Z h117 a101 := (E106.keep K110)
  have B120 : Sbl Z h117 a101 t108 [] := ⟨F121, F111, F113, F114, Or.inl ⟨F112, _, A115, rfl, trivial⟩⟩
  refine Go.newO 10 rfl 58 21 20 d6_7 rfl rfl rfl (by decide) (by decide) fun h123 a122 g124 z125 K126 E127 D128 => ?_
  refine Go.dup 11 rfl d6_10 rfl ?_
  refine Go.aloadN 12 rfl d6_11 rfl rfl ?_
  have ne129 : f ≠ a101 := (show @Ne Nat f a101 from by have := ltN hN.lt; have := g103; omega)
  have F130 : Fld Z h123 f "com/example/umweg/umweg/core/Field" "name" "[B" (.ref s) := (((hN.keep K105 nin0).keep K110 (ninS ne129 nin0)).keep K126 nin0)
  refine Go.getF 15 rfl (v := .ref s) 31 d6_12 rfl F130 ?_
  refine Go.getS 18 rfl (v := .ref m) 59 d6_15 rfl hU8 ?_
  have ne135 : s ≠ a101 := (show @Ne Nat s a101 from by have := ltN hA.lt; have := g103; omega)
  have F136 : Ary Z h123 s .byte ps := (((hA.keep K105 nin0).keep K110 (ninS ne135 nin0)).keep K126 nin0)
  have F137 : Exa Z h123 s "[B" := (((hEs.keep K105).keep K110).keep K126)
  have F138 : Exa Z h123 m "sun/nio/cs/UTF_8" := (((hM.keep K105).keep K110).keep K126)
  refine Go.callI 21 rfl (C := B9) a122 [.ref s, .ref m] (rest := [.ref a122, .ref a101]) 61 62 20 63 (C1 h123 a122 z125 E127 (D128 22 (Or.inr rfl) (ty := (.array .byte)) (by decide) : YSv Z h123 a122 (.null)) (D128 23 (Or.inr rfl) (ty := .byte) (by decide) : YSc Z h123 a122 (.int (0 : Int32))) F136 F137 F138) d6_18 rfl rfl rfl rfl rfl rfl (by decide) pd9 rfl rfl rfl (W := 2) (lb rfl) (by decide) (by decide) (by decide) (by decide) fun v139 h140 q141 => ?_
  obtain ⟨rfl, t131, g133, K132, T134⟩ := q141
  have sz143 := (Nat.le_trans K105.1 K110.1)
  have sz144 := (Nat.le_trans sz143 K126.1)
  have z142 : Z.heap.size ≤ t131 := Nat.le_trans (Nat.le_trans hle sz144) g133
  have ne149 : a101 ≠ a122 := (show @Ne Nat a101 a122 from by have := ltN F121.lt; have := g124; omega)
  have ne150 : t108 ≠ a122 := (show @Ne Nat t108 a122 from by have := ltN A115.lt; have := g124; omega)
  have B151 := ((B120.keep K126 nin0 nin0).keep K132 (ninS ne149 nin0) (ninS ne150 nin0))
  have ne152 : t131 ≠ t108 := (show @Ne Nat t131 t108 from by have := ltN A115.lt; have := K126.1; have := g133; omega)
  have F156 : YEb Z h140 a101 := ((F121.keep K126).keep K132)
  refine Go.callV 24 rfl (C := B11) a101 [.ref a122] (rest := []) 77 78 80 79 42 81 (c11g Z hw h140 a101 a122 t108 t131 [] xs (Nat.zero_le _) hx cs hS hcs hAs hHi hLo hfm z104 z119 B151 T134 ne152 (Ne.symm ne149)) F156 d6_21 rfl rfl rfl rfl rfl rfl (by decide) pd11 rfl rfl rfl (W := 0) (lb rfl) (by decide) (by decide) (by decide) (by decide) fun v153 h154 q155 => ?_
  obtain ⟨rfl, t145, o146, K147, B148⟩ := q155
  have sz158 := (Nat.le_trans sz144 K132.1)
  have z157 : Z.heap.size ≤ t145 := o146.elim (fun e => by rw [e]; exact z119) (fun g => Nat.le_trans (Nat.le_trans hle sz158) g)
  have kc159 : Keep h0 h154 [] := ((((((Keep.refl h0 []).trans K105 all0).trans K110 (allS (Or.inr (Nat.le_of_eq g103.symm)) all0)).trans K126 all0).trans K132 (allS (Or.inr (Nat.le_trans sz143 (Nat.le_of_eq g124.symm))) all0)).trans K147 (allS (Or.inr (Nat.le_of_eq g103.symm)) (allS (Or.inr (Nat.le_trans K105.1 g109)) all0)))
  have F160 : YEb Z h154 a101 := (F156.keep K147)
  refine Go.ldcC 26 rfl (vs := [.int 61]) (z := 1) 125 20 21 4 22 23 24 25 d6_24 rfl ⟨_, rfl, rfl⟩ (by show ("com/example/umweg/umweg/core/Field", 59) ∈ Jvm.Ox.EL; decide) ⟨by decide, rfl⟩ (by decide) rfl (c0 := 4) (by decide) (by decide) (by decide) (by decide) [a101, t145] kc159 (fun _ q => q) (allS ⟨(Or.inr (Nat.le_of_eq g103.symm)), F160.lt⟩ (allS ⟨(o146.elim (fun e => by rw [e]; exact (Or.inr (Nat.le_trans K105.1 g109))) (fun g => Or.inr (Nat.le_trans sz158 g))), B148.lt⟩ all0)) fun h162 a161 t164 K163 E165 F166 F167 A168 ne169 => ?_
  have T170 : Str Z h162 a161 t164 [61] := ⟨E165, F167, Or.inl ⟨F166, [61], A168, own_g61, trivial⟩⟩
  have B175 := (B148.keep K163 nin0 nin0)
  have F179 : YEb Z h162 a101 := (F160.keep K163)
  refine Go.callV 29 rfl (C := B11) a101 [.ref a161] (rest := []) 77 78 80 79 42 81 (c11g Z hw h162 a101 a161 t145 t164 ([] ++ xs) [61] (by first | (simp; done) | (simp; omega)) (by decide) cs hS hcs hAs hHi hLo hfm z104 z157 B175 T170 (Ne.symm (ne169 t145 (by simp)).2) (Ne.symm (ne169 a101 (by simp)).1)) F179 d6_26 rfl rfl rfl rfl rfl rfl (by decide) pd11 rfl rfl rfl (W := 0) (lb rfl) (by decide) (by decide) (by decide) (by decide) fun v176 h177 q178 => ?_
  obtain ⟨rfl, t171, o172, K173, B174⟩ := q178
  have sz181 := (Nat.le_trans sz158 K147.1)
  have sz182 := (Nat.le_trans sz181 K163.1)
  have z180 : Z.heap.size ≤ t171 := o172.elim (fun e => by rw [e]; exact z157) (fun g => Nat.le_trans (Nat.le_trans hle sz182) g)
  refine Go.newO 32 rfl 58 21 20 d6_29 rfl rfl rfl (by decide) (by decide) fun h184 a183 g185 z186 K187 E188 D189 => ?_
  refine Go.dup 33 rfl d6_32 rfl ?_
  refine Go.aloadN 34 rfl d6_33 rfl rfl ?_
  have ne190 : f ≠ a122 := (show @Ne Nat f a122 from by have := ltN hN.lt; have := K105.1; have := K110.1; have := g124; omega)
  have ne191 : f ≠ t108 := (show @Ne Nat f t108 from by have := ltN hN.lt; have := K105.1; have := g109; omega)
  have sz192 := (Nat.le_trans K110.1 K126.1)
  have sz193 := (Nat.le_trans sz192 K132.1)
  have ne194 : f ≠ t145 := (show @Ne Nat f t145 from by have := ltN hN.lt; have := K105.1; have := (o146.elim (fun e => by rw [e]; exact g109) (fun g => (Nat.le_trans sz193 g))); omega)
  have F195 : Fld Z h184 f "com/example/umweg/umweg/core/Field" "value" "[B" (.ref u) := ((((((((hW.keep K105 nin0).keep K110 (ninS ne129 nin0)).keep K126 nin0).keep K132 (ninS ne190 nin0)).keep K147 (ninS ne129 (ninS ne191 nin0))).keep K163 nin0).keep K173 (ninS ne129 (ninS ne194 nin0))).keep K187 nin0)
  refine Go.getF 37 rfl (v := .ref u) 33 d6_34 rfl F195 ?_
  refine Go.getS 40 rfl (v := .ref m) 59 d6_37 rfl hU8 ?_
  have B201 := (B174.keep K187 nin0 nin0)
  have ne202 : u ≠ a101 := (show @Ne Nat u a101 from by have := ltN hB.lt; have := g103; omega)
  have ne203 : u ≠ a122 := (show @Ne Nat u a122 from by have := ltN hB.lt; have := K105.1; have := K110.1; have := g124; omega)
  have ne204 : u ≠ t108 := (show @Ne Nat u t108 from by have := ltN hB.lt; have := K105.1; have := g109; omega)
  have ne205 : u ≠ t145 := (show @Ne Nat u t145 from by have := ltN hB.lt; have := K105.1; have := (o146.elim (fun e => by rw [e]; exact g109) (fun g => (Nat.le_trans sz193 g))); omega)
  have F206 : Ary Z h184 u .byte [] := ((((((((hB.keep K105 nin0).keep K110 (ninS ne202 nin0)).keep K126 nin0).keep K132 (ninS ne203 nin0)).keep K147 (ninS ne202 (ninS ne204 nin0))).keep K163 nin0).keep K173 (ninS ne202 (ninS ne205 nin0))).keep K187 nin0)
  have F207 : Exa Z h184 m "sun/nio/cs/UTF_8" := (((((F138.keep K132).keep K147).keep K163).keep K173).keep K187)
  have F211 : YEb Z h184 a101 := ((F179.keep K173).keep K187)
  refine Go.callIH 43 rfl (C := B9) a183 [.ref u, .ref m] (rest := [.ref a183, .ref a101]) 61 62 20 63 (c9z Z hw h184 a183 u m z186 E188 (D189 22 (Or.inr rfl) (ty := (.array .byte)) (by decide) : YSv Z h184 a183 (.null)) (D189 23 (Or.inr rfl) (ty := .byte) (by decide) : YSc Z h184 a183 (.int (0 : Int32))) F206 F207) d6_40 rfl rfl rfl rfl rfl rfl (by decide) pd9 rfl rfl rfl (W := 2) (lb rfl) (by decide) (by decide) (by decide) (by decide) [a101, t171] (((Keep.refl h162 [a101, t145]).trans K173 (by simp)).trans K187 all0) (fun _ q => q) (allS ⟨(Or.inr (Nat.le_trans K173.1 (Nat.le_of_eq g185.symm))), E188.lt⟩ all0) (allS ⟨(Or.inl (by simp)), F211.lt⟩ (allS ⟨(o172.elim (fun e => by rw [e]; exact (Or.inl (by simp))) (fun g => Or.inr g)), B201.lt⟩ all0)) fun v208 h209 q210 => ?_
  obtain ⟨rfl, t196, K197, F198, C199, A200⟩ := q210
  have ne213 : a101 ≠ a183 := (show @Ne Nat a101 a183 from by have := ltN F179.lt; have := K173.1; have := g185; omega)
  have ne214 : t171 ≠ a183 := (show @Ne Nat t171 a183 from by have := ltN B174.lt; have := g185; omega)
  have B215 := (B201.keep K197 (ninS ne213 nin0) (ninS ne214 nin0))
  have ne212 : t196 ≠ t171 := B215.nn A200
  have F217 : YEs Z h209 a183 := (E188.keep K197)
  have T216 : Str Z h209 a183 t196 [] := ⟨F217, F198, Or.inl ⟨C199, _, A200, trivial⟩⟩
  have F225 : YEb Z h209 a101 := (F211.keep K197)
  refine Go.callV 46 rfl (C := B11) a101 [.ref a183] (rest := []) 77 78 80 79 42 81 (c11g Z hw h209 a101 a183 t171 t196 (([] ++ xs) ++ [61]) [] (by first | (simp; done) | (simp; omega)) (Nat.zero_le _) cs hS hcs hAs hHi hLo hfm z104 z180 B215 T216 ne212 (Ne.symm ne213)) F225 d6_43 rfl rfl rfl rfl rfl rfl (by decide) pd11 rfl rfl rfl (W := 0) (lb rfl) (by decide) (by decide) (by decide) (by decide) fun v222 h223 q224 => ?_
  obtain ⟨rfl, t218, o219, K220, B221⟩ := q224
  have sz227 := (Nat.le_trans sz182 K173.1)
  have sz228 := (Nat.le_trans sz227 K187.1)
  have sz229 := (Nat.le_trans sz228 K197.1)
  have z226 : Z.heap.size ≤ t218 := o219.elim (fun e => by rw [e]; exact z180) (fun g => Nat.le_trans (Nat.le_trans hle sz229) g)
  have F239 : YEb Z h223 a101 := (F225.keep K220)
  refine Go.callV 49 rfl (C := B19) a101 [] (rest := []) 126 127 129 128 42 130 (c19g Z hw h223 a101 t218 ((([] ++ xs) ++ [61]) ++ []) (by first | (simp; done) | (simp; omega)) cs hS hcs B221) F239 d6_46 rfl rfl rfl rfl rfl rfl (by decide) pd19 rfl rfl rfl (W := 0) (lb rfl) (by decide) (by decide) (by decide) (by decide) fun v236 h237 q238 => ?_
  obtain ⟨a230, t231, rfl, g232, g233, K234, T235⟩ := q238
  have sz241 := (Nat.le_trans sz229 K220.1)
  have z240 : Z.heap.size ≤ a230 := Nat.le_trans (Nat.le_trans hle sz241) g232
  have kc242 : Keep h0 h237 [] := ((((((kc159.trans K163 all0).trans K173 (allS (Or.inr (Nat.le_of_eq g103.symm)) (allS (o146.elim (fun e => by rw [e]; exact (Or.inr (Nat.le_trans K105.1 g109))) (fun g => Or.inr (Nat.le_trans sz158 g))) all0))).trans K187 all0).trans K197 (allS (Or.inr (Nat.le_trans sz227 (Nat.le_of_eq g185.symm))) all0)).trans K220 (allS (Or.inr (Nat.le_of_eq g103.symm)) (allS (o172.elim (fun e => by rw [e]; exact (o146.elim (fun e => by rw [e]; exact (Or.inr (Nat.le_trans K105.1 g109))) (fun g => Or.inr (Nat.le_trans sz158 g)))) (fun g => Or.inr (Nat.le_trans sz182 g))) all0))).trans K234 all0)
  exact Go.retA d6_49 rfl rfl rfl (by decide) (by decide) (((Keep.refl h209 [a101, t171]).trans K220 (by simp)).trans K234 all0) (fun _ q => q) ⟨a230, t231, rfl, Nat.le_trans sz241 g232, kc242, (by simpa using T235)⟩
def Q6tzp (Z : State) (zs : List Int32) (h0 : Heap) (v : Option Value) (h : Heap) : Prop := ∃ a t, v = some (.ref a) ∧ h0.size ≤ a ∧ Keep h0 h [] ∧ Str Z h a t ([] ++ 61 :: zs)
theorem c6tzp (Z : State) (hw : Wd Z tables_1) (h0 : Heap) (f : Addr) (zs : List Int32) (qs : List Value) (hz : zs.length ≤ 2) (cs : Int32) (hS : YCs Z cs) (hcs : ¬ cs = 0) (hAs : YAs Z) (hHi : YHi Z) (hLo : YLo Z) (hfm : YFm Z) (m : Addr) (hU : YUt Z m) (hU8 : YU8 Z m) (s : Addr) (u : Addr) (C2 : ∀ (h : Heap) (a : Addr), Z.heap.size ≤ a → YEs Z h a → YSv Z h a .null → YSc Z h a (.int 0) → Ary Z h u .byte qs → Exa Z h u "[B" → Exa Z h m "sun/nio/cs/UTF_8" → Con Z B9 (List.toArray [.ref a, .ref u, .ref m]) h (QS Z a zs h)) (hN : Fld Z h0 f "com/example/umweg/umweg/core/Field" "name" "[B" (.ref s)) (hW : Fld Z h0 f "com/example/umweg/umweg/core/Field" "value" "[B" (.ref u)) (hA : Ary Z h0 s .byte []) (hB : Ary Z h0 u .byte qs) (hEs : Exa Z h0 s "[B") (hEu : Exa Z h0 u "[B") (hM : Exa Z h0 m "sun/nio/cs/UTF_8") : ConH Z B6 (List.toArray [.ref f]) h0 [] (Q6tzp Z zs h0) := by
  refine ConH.mk (Ls := #[.val (.ref f)]) hw pn6 (fun mid => by first | (simp [entryFrame, mkF, argsToLocals, Value.category, Jvm.Ow.Bd.ml, B6]; done) | rfl) (Go.old fun hle' => ?_)
  have hle := hle'.1
  refine Go.newO 3 rfl 40 41 42 d6_0 rfl rfl rfl (by decide) (by decide) fun h102 a101 g103 z104 K105 E106 D107 => ?_
  refine Go.dup 4 rfl d6_3 rfl ?_
  refine Go.callI 7 rfl (C := B7) a101 [] (rest := [.ref a101]) 43 44 42 45 (c7 Z hw h102 a101 cs hS hcs z104 E106 (D107 55 (Or.inl rfl) (ty := (.array .byte)) (by decide) : YBv Z h102 a101 (.null)) (D107 57 (Or.inl rfl) (ty := .byte) (by decide) : YBc Z h102 a101 (.int (0 : Int32))) (D107 99 (Or.inl rfl) (ty := .int) (by decide) : YBn Z h102 a101 (.int (0 : Int32))) (D107 258 (Or.inl rfl) (ty := .boolean) (by decide) : YBm Z h102 a101 (.int (0 : Int32)))) d6_4 rfl rfl rfl rfl rfl rfl (by decide) pd7 rfl rfl rfl (W := 1) (lb rfl) (by decide) (by decide) (by decide) (by decide) fun v116 h117 q118 => ?_
  obtain ⟨rfl, t108, g109, K110, F111, F112, F113, F114, A115⟩ := q118
  have z119 : Z.heap.size ≤ t108 := Nat.le_trans (Nat.le_trans hle K105.1) g109
  have F121 : YEb Z h117 a101 := (E106.keep K110)
  have B120 : Sbl Z h117 a101 t108 [] := ⟨F121, F111, F113, F114, Or.inl ⟨F112, _, A115, rfl, trivial⟩⟩
  refine Go.newO 10 rfl 58 21 20 d6_7 rfl rfl rfl (by decide) (by decide) fun h123 a122 g124 z125 K126 E127 D128 => ?_
  refine Go.dup 11 rfl d6_10 rfl ?_
  refine Go.aloadN 12 rfl d6_11 rfl rfl ?_
  have ne129 : f ≠ a101 := (show @Ne Nat f a101 from by have := ltN hN.lt; have := g103; omega)
  have F130 : Fld Z h123 f "com/example/umweg/umweg/core/Field" "name" "[B" (.ref s) := (((hN.keep K105 nin0).keep K110 (ninS ne129 nin0)).keep K126 nin0)
  refine Go.getF 15 rfl (v := .ref s) 31 d6_12 rfl F130 ?_
  refine Go.getS 18 rfl (v := .ref m) 59 d6_15 rfl hU8 ?_
  have B136 := (B120.keep K126 nin0 nin0)
  have ne137 : s ≠ a101 := (show @Ne Nat s a101 from by have := ltN hA.lt; have := g103; omega)
  have F138 : Ary Z h123 s .byte [] := (((hA.keep K105 nin0).keep K110 (ninS ne137 nin0)).keep K126 nin0)
  have F139 : Exa Z h123 m "sun/nio/cs/UTF_8" := (((hM.keep K105).keep K110).keep K126)
  have kc143 : Keep h0 h123 [] := ((((Keep.refl h0 []).trans K105 all0).trans K110 (allS (Or.inr (Nat.le_of_eq g103.symm)) all0)).trans K126 all0)
  have sz144 := (Nat.le_trans K105.1 K110.1)
  have F145 : YEb Z h123 a101 := (F121.keep K126)
  refine Go.callIH 21 rfl (C := B9) a122 [.ref s, .ref m] (rest := [.ref a122, .ref a101]) 61 62 20 63 (c9z Z hw h123 a122 s m z125 E127 (D128 22 (Or.inr rfl) (ty := (.array .byte)) (by decide) : YSv Z h123 a122 (.null)) (D128 23 (Or.inr rfl) (ty := .byte) (by decide) : YSc Z h123 a122 (.int (0 : Int32))) F138 F139) d6_18 rfl rfl rfl rfl rfl rfl (by decide) pd9 rfl rfl rfl (W := 2) (lb rfl) (by decide) (by decide) (by decide) (by decide) [a101, t108] kc143 (fun _ q => q) (allS ⟨(Or.inr (Nat.le_trans sz144 (Nat.le_of_eq g124.symm))), E127.lt⟩ all0) (allS ⟨(Or.inr (Nat.le_of_eq g103.symm)), F145.lt⟩ (allS ⟨(Or.inr (Nat.le_trans K105.1 g109)), B136.lt⟩ all0)) fun v140 h141 q142 => ?_
  obtain ⟨rfl, t131, K132, F133, C134, A135⟩ := q142
  have ne147 : a101 ≠ a122 := (show @Ne Nat a101 a122 from by have := ltN F121.lt; have := g124; omega)
  have ne148 : t108 ≠ a122 := (show @Ne Nat t108 a122 from by have := ltN A115.lt; have := g124; omega)
  have B149 := (B136.keep K132 (ninS ne147 nin0) (ninS ne148 nin0))
  have ne146 : t131 ≠ t108 := B149.nn A135
  have F151 : YEs Z h141 a122 := (E127.keep K132)
  have T150 : Str Z h141 a122 t131 [] := ⟨F151, F133, Or.inl ⟨C134, _, A135, trivial⟩⟩
  have F159 : YEb Z h141 a101 := (F145.keep K132)
  refine Go.callV 24 rfl (C := B11) a101 [.ref a122] (rest := []) 77 78 80 79 42 81 (c11g Z hw h141 a101 a122 t108 t131 [] [] (Nat.zero_le _) (Nat.zero_le _) cs hS hcs hAs hHi hLo hfm z104 z119 B149 T150 ne146 (Ne.symm ne147)) F159 d6_21 rfl rfl rfl rfl rfl rfl (by decide) pd11 rfl rfl rfl (W := 0) (lb rfl) (by decide) (by decide) (by decide) (by decide) fun v156 h157 q158 => ?_
  obtain ⟨rfl, t152, o153, K154, B155⟩ := q158
  have sz161 := (Nat.le_trans sz144 K126.1)
  have sz162 := (Nat.le_trans sz161 K132.1)
  have z160 : Z.heap.size ≤ t152 := o153.elim (fun e => by rw [e]; exact z119) (fun g => Nat.le_trans (Nat.le_trans hle sz162) g)
  have F163 : YEb Z h157 a101 := (F159.keep K154)
  refine Go.ldcC 26 rfl (vs := [.int 61]) (z := 1) 125 20 21 4 22 23 24 25 d6_24 rfl ⟨_, rfl, rfl⟩ (by show ("com/example/umweg/umweg/core/Field", 59) ∈ Jvm.Ox.EL; decide) ⟨by decide, rfl⟩ (by decide) rfl (c0 := 4) (by decide) (by decide) (by decide) (by decide) [a101, t152] ((Keep.refl h141 [a101, t108]).trans K154 (by simp)) (fun _ q => q) (allS ⟨(Or.inl (by simp)), F163.lt⟩ (allS ⟨(o153.elim (fun e => by rw [e]; exact (Or.inl (by simp))) (fun g => Or.inr g)), B155.lt⟩ all0)) fun h165 a164 t167 K166 E168 F169 F170 A171 ne172 => ?_
  have T173 : Str Z h165 a164 t167 [61] := ⟨E168, F170, Or.inl ⟨F169, [61], A171, own_g61, trivial⟩⟩
  have B178 := (B155.keep K166 nin0 nin0)
  have F182 : YEb Z h165 a101 := (F163.keep K166)
  refine Go.callV 29 rfl (C := B11) a101 [.ref a164] (rest := []) 77 78 80 79 42 81 (c11g Z hw h165 a101 a164 t152 t167 ([] ++ []) [61] (by first | (simp; done) | (simp; omega)) (by decide) cs hS hcs hAs hHi hLo hfm z104 z160 B178 T173 (Ne.symm (ne172 t152 (by simp)).2) (Ne.symm (ne172 a101 (by simp)).1)) F182 d6_26 rfl rfl rfl rfl rfl rfl (by decide) pd11 rfl rfl rfl (W := 0) (lb rfl) (by decide) (by decide) (by decide) (by decide) fun v179 h180 q181 => ?_
  obtain ⟨rfl, t174, o175, K176, B177⟩ := q181
  have sz184 := (Nat.le_trans sz162 K154.1)
  have sz185 := (Nat.le_trans sz184 K166.1)
  have z183 : Z.heap.size ≤ t174 := o175.elim (fun e => by rw [e]; exact z160) (fun g => Nat.le_trans (Nat.le_trans hle sz185) g)
  refine Go.newO 32 rfl 58 21 20 d6_29 rfl rfl rfl (by decide) (by decide) fun h187 a186 g188 z189 K190 E191 D192 => ?_
  refine Go.dup 33 rfl d6_32 rfl ?_
  refine Go.aloadN 34 rfl d6_33 rfl rfl ?_
  have ne193 : f ≠ a122 := (show @Ne Nat f a122 from by have := ltN hN.lt; have := K105.1; have := K110.1; have := g124; omega)
  have ne194 : f ≠ t108 := (show @Ne Nat f t108 from by have := ltN hN.lt; have := K105.1; have := g109; omega)
  have sz195 := (Nat.le_trans K110.1 K126.1)
  have sz196 := (Nat.le_trans sz195 K132.1)
  have ne197 : f ≠ t152 := (show @Ne Nat f t152 from by have := ltN hN.lt; have := K105.1; have := (o153.elim (fun e => by rw [e]; exact g109) (fun g => (Nat.le_trans sz196 g))); omega)
  have F198 : Fld Z h187 f "com/example/umweg/umweg/core/Field" "value" "[B" (.ref u) := ((((((((hW.keep K105 nin0).keep K110 (ninS ne129 nin0)).keep K126 nin0).keep K132 (ninS ne193 nin0)).keep K154 (ninS ne129 (ninS ne194 nin0))).keep K166 nin0).keep K176 (ninS ne129 (ninS ne197 nin0))).keep K190 nin0)
  refine Go.getF 37 rfl (v := .ref u) 33 d6_34 rfl F198 ?_
  refine Go.getS 40 rfl (v := .ref m) 59 d6_37 rfl hU8 ?_
  have ne203 : u ≠ a101 := (show @Ne Nat u a101 from by have := ltN hB.lt; have := g103; omega)
  have ne204 : u ≠ a122 := (show @Ne Nat u a122 from by have := ltN hB.lt; have := K105.1; have := K110.1; have := g124; omega)
  have ne205 : u ≠ t108 := (show @Ne Nat u t108 from by have := ltN hB.lt; have := K105.1; have := g109; omega)
  have ne206 : u ≠ t152 := (show @Ne Nat u t152 from by have := ltN hB.lt; have := K105.1; have := (o153.elim (fun e => by rw [e]; exact g109) (fun g => (Nat.le_trans sz196 g))); omega)
  have F207 : Ary Z h187 u .byte qs := ((((((((hB.keep K105 nin0).keep K110 (ninS ne203 nin0)).keep K126 nin0).keep K132 (ninS ne204 nin0)).keep K154 (ninS ne203 (ninS ne205 nin0))).keep K166 nin0).keep K176 (ninS ne203 (ninS ne206 nin0))).keep K190 nin0)
  have F208 : Exa Z h187 u "[B" := ((((((((hEu.keep K105).keep K110).keep K126).keep K132).keep K154).keep K166).keep K176).keep K190)
  have F209 : Exa Z h187 m "sun/nio/cs/UTF_8" := (((((F139.keep K132).keep K154).keep K166).keep K176).keep K190)
  refine Go.callI 43 rfl (C := B9) a186 [.ref u, .ref m] (rest := [.ref a186, .ref a101]) 61 62 20 63 (C2 h187 a186 z189 E191 (D192 22 (Or.inr rfl) (ty := (.array .byte)) (by decide) : YSv Z h187 a186 (.null)) (D192 23 (Or.inr rfl) (ty := .byte) (by decide) : YSc Z h187 a186 (.int (0 : Int32))) F207 F208 F209) d6_40 rfl rfl rfl rfl rfl rfl (by decide) pd9 rfl rfl rfl (W := 2) (lb rfl) (by decide) (by decide) (by decide) (by decide) fun v210 h211 q212 => ?_
  obtain ⟨rfl, t199, g201, K200, T202⟩ := q212
  have sz214 := (Nat.le_trans sz185 K176.1)
  have sz215 := (Nat.le_trans sz214 K190.1)
  have z213 : Z.heap.size ≤ t199 := Nat.le_trans (Nat.le_trans hle sz215) g201
  have ne220 : a101 ≠ a186 := (show @Ne Nat a101 a186 from by have := ltN F182.lt; have := K176.1; have := g188; omega)
  have ne221 : t174 ≠ a186 := (show @Ne Nat t174 a186 from by have := ltN B177.lt; have := g188; omega)
  have B222 := ((B177.keep K190 nin0 nin0).keep K200 (ninS ne220 nin0) (ninS ne221 nin0))
  have ne223 : t199 ≠ t174 := (show @Ne Nat t199 t174 from by have := ltN B177.lt; have := K190.1; have := g201; omega)
  have F227 : YEb Z h211 a101 := (((F182.keep K176).keep K190).keep K200)
  refine Go.callV 46 rfl (C := B11) a101 [.ref a186] (rest := []) 77 78 80 79 42 81 (c11g Z hw h211 a101 a186 t174 t199 (([] ++ []) ++ [61]) zs (by first | (simp; done) | (simp; omega)) hz cs hS hcs hAs hHi hLo hfm z104 z183 B222 T202 ne223 (Ne.symm ne220)) F227 d6_43 rfl rfl rfl rfl rfl rfl (by decide) pd11 rfl rfl rfl (W := 0) (lb rfl) (by decide) (by decide) (by decide) (by decide) fun v224 h225 q226 => ?_
  obtain ⟨rfl, t216, o217, K218, B219⟩ := q226
  have sz229 := (Nat.le_trans sz215 K200.1)
  have z228 : Z.heap.size ≤ t216 := o217.elim (fun e => by rw [e]; exact z183) (fun g => Nat.le_trans (Nat.le_trans hle sz229) g)
  have F239 : YEb Z h225 a101 := (F227.keep K218)
  refine Go.callV 49 rfl (C := B19) a101 [] (rest := []) 126 127 129 128 42 130 (c19g Z hw h225 a101 t216 ((([] ++ []) ++ [61]) ++ zs) (by first | (simp; done) | (simp; omega)) cs hS hcs B219) F239 d6_46 rfl rfl rfl rfl rfl rfl (by decide) pd19 rfl rfl rfl (W := 0) (lb rfl) (by decide) (by decide) (by decide) (by decide) fun v236 h237 q238 => ?_
  obtain ⟨a230, t231, rfl, g232, g233, K234, T235⟩ := q238
  have sz241 := (Nat.le_trans sz229 K218.1)
  have z240 : Z.heap.size ≤ a230 := Nat.le_trans (Nat.le_trans hle sz241) g232
  have kc242 : Keep h0 h237 [] := ((((((((kc143.trans K132 (allS (Or.inr (Nat.le_trans sz144 (Nat.le_of_eq g124.symm))) all0)).trans K154 (allS (Or.inr (Nat.le_of_eq g103.symm)) (allS (Or.inr (Nat.le_trans K105.1 g109)) all0))).trans K166 all0).trans K176 (allS (Or.inr (Nat.le_of_eq g103.symm)) (allS (o153.elim (fun e => by rw [e]; exact (Or.inr (Nat.le_trans K105.1 g109))) (fun g => Or.inr (Nat.le_trans sz162 g))) all0))).trans K190 all0).trans K200 (allS (Or.inr (Nat.le_trans sz214 (Nat.le_of_eq g188.symm))) all0)).trans K218 (allS (Or.inr (Nat.le_of_eq g103.symm)) (allS (o175.elim (fun e => by rw [e]; exact (o153.elim (fun e => by rw [e]; exact (Or.inr (Nat.le_trans K105.1 g109))) (fun g => Or.inr (Nat.le_trans sz162 g)))) (fun g => Or.inr (Nat.le_trans sz185 g))) all0))).trans K234 all0)
  have kc243 : Keep h165 h237 [a101, t152] := ((((((Keep.refl h165 [a101, t152]).trans K176 (by simp)).trans K190 all0).trans K200 (allS (Or.inr (Nat.le_trans K176.1 (Nat.le_of_eq g188.symm))) all0)).trans K218 (allS (Or.inl (by simp)) (allS (o175.elim (fun e => by rw [e]; exact (Or.inl (by simp))) (fun g => Or.inr g)) all0))).trans K234 all0)
  exact Go.retA d6_49 rfl rfl rfl (by decide) (by decide) kc243 (fun _ q => q) ⟨a230, t231, rfl, Nat.le_trans sz241 g232, kc242, (by simpa using T235)⟩
def Q6tzz (Z : State) (h0 : Heap) (v : Option Value) (h : Heap) : Prop := ∃ a t, v = some (.ref a) ∧ h0.size ≤ a ∧ Keep h0 h [] ∧ Str Z h a t ([] ++ 61 :: [])
theorem c6tzz (Z : State) (hw : Wd Z tables_1) (h0 : Heap) (f : Addr)  (cs : Int32) (hS : YCs Z cs) (hcs : ¬ cs = 0) (hAs : YAs Z) (hHi : YHi Z) (hLo : YLo Z) (hfm : YFm Z) (m : Addr) (hU : YUt Z m) (hU8 : YU8 Z m) (s : Addr) (u : Addr) (hN : Fld Z h0 f "com/example/umweg/umweg/core/Field" "name" "[B" (.ref s)) (hW : Fld Z h0 f "com/example/umweg/umweg/core/Field" "value" "[B" (.ref u)) (hA : Ary Z h0 s .byte []) (hB : Ary Z h0 u .byte []) (hEs : Exa Z h0 s "[B") (hEu : Exa Z h0 u "[B") (hM : Exa Z h0 m "sun/nio/cs/UTF_8") : ConH Z B6 (List.toArray [.ref f]) h0 [] (Q6tzz Z h0) := by
  refine ConH.mk (Ls := #[.val (.ref f)]) hw pn6 (fun mid => by first | (simp [entryFrame, mkF, argsToLocals, Value.category, Jvm.Ow.Bd.ml, B6]; done) | rfl) (Go.old fun hle' => ?_)
  have hle := hle'.1
  refine Go.newO 3 rfl 40 41 42 d6_0 rfl rfl rfl (by decide) (by decide) fun h102 a101 g103 z104 K105 E106 D107 => ?_
  refine Go.dup 4 rfl d6_3 rfl ?_
  refine Go.callI 7 rfl (C := B7) a101 [] (rest := [.ref a101]) 43 44 42 45 (c7 Z hw h102 a101 cs hS hcs z104 E106 (D107 55 (Or.inl rfl) (ty := (.array .byte)) (by decide) : YBv Z h102 a101 (.null)) (D107 57 (Or.inl rfl) (ty := .byte) (by decide) : YBc Z h102 a101 (.int (0 : Int32))) (D107 99 (Or.inl rfl) (ty := .int) (by decide) : YBn Z h102 a101 (.int (0 : Int32))) (D107 258 (Or.inl rfl) (ty := .boolean) (by decide) : YBm Z h102 a101 (.int (0 : Int32)))) d6_4 rfl rfl rfl rfl rfl rfl (by decide) pd7 rfl rfl rfl (W := 1) (lb rfl) (by decide) (by decide) (by decide) (by decide) fun v116 h117 q118 => ?_
  obtain ⟨rfl, t108, g109, K110, F111, F112, F113, F114, A115⟩ := q118
  have z119 : Z.heap.size ≤ t108 := Nat.le_trans (Nat.le_trans hle K105.1) g109
  have F121 : YEb Z h117 a101 := (E106.keep K110)
  have B120 : Sbl Z h117 a101 t108 [] := ⟨F121, F111, F113, F114, Or.inl ⟨F112, _, A115, rfl, trivial⟩⟩
  refine Go.newO 10 rfl 58 21 20 d6_7 rfl rfl rfl (by decide) (by decide) fun h123 a122 g124 z125 K126 E127 D128 => ?_
  refine Go.dup 11 rfl d6_10 rfl ?_
  refine Go.aloadN 12 rfl d6_11 rfl rfl ?_
  have ne129 : f ≠ a101 := (show @Ne Nat f a101 from by have := ltN hN.lt; have := g103; omega)
  have F130 : Fld Z h123 f "com/example/umweg/umweg/core/Field" "name" "[B" (.ref s) := (((hN.keep K105 nin0).keep K110 (ninS ne129 nin0)).keep K126 nin0)
  refine Go.getF 15 rfl (v := .ref s) 31 d6_12 rfl F130 ?_
  refine Go.getS 18 rfl (v := .ref m) 59 d6_15 rfl hU8 ?_
  have B136 := (B120.keep K126 nin0 nin0)
  have ne137 : s ≠ a101 := (show @Ne Nat s a101 from by have := ltN hA.lt; have := g103; omega)
  have F138 : Ary Z h123 s .byte [] := (((hA.keep K105 nin0).keep K110 (ninS ne137 nin0)).keep K126 nin0)
  have F139 : Exa Z h123 m "sun/nio/cs/UTF_8" := (((hM.keep K105).keep K110).keep K126)
  have kc143 : Keep h0 h123 [] := ((((Keep.refl h0 []).trans K105 all0).trans K110 (allS (Or.inr (Nat.le_of_eq g103.symm)) all0)).trans K126 all0)
  have sz144 := (Nat.le_trans K105.1 K110.1)
  have F145 : YEb Z h123 a101 := (F121.keep K126)
  refine Go.callIH 21 rfl (C := B9) a122 [.ref s, .ref m] (rest := [.ref a122, .ref a101]) 61 62 20 63 (c9z Z hw h123 a122 s m z125 E127 (D128 22 (Or.inr rfl) (ty := (.array .byte)) (by decide) : YSv Z h123 a122 (.null)) (D128 23 (Or.inr rfl) (ty := .byte) (by decide) : YSc Z h123 a122 (.int (0 : Int32))) F138 F139) d6_18 rfl rfl rfl rfl rfl rfl (by decide) pd9 rfl rfl rfl (W := 2) (lb rfl) (by decide) (by decide) (by decide) (by decide) [a101, t108] kc143 (fun _ q => q) (allS ⟨(Or.inr (Nat.le_trans sz144 (Nat.le_of_eq g124.symm))), E127.lt⟩ all0) (allS ⟨(Or.inr (Nat.le_of_eq g103.symm)), F145.lt⟩ (allS ⟨(Or.inr (Nat.le_trans K105.1 g109)), B136.lt⟩ all0)) fun v140 h141 q142 => ?_
  obtain ⟨rfl, t131, K132, F133, C134, A135⟩ := q142
  have ne147 : a101 ≠ a122 := (show @Ne Nat a101 a122 from by have := ltN F121.lt; have := g124; omega)
  have ne148 : t108 ≠ a122 := (show @Ne Nat t108 a122 from by have := ltN A115.lt; have := g124; omega)
  have B149 := (B136.keep K132 (ninS ne147 nin0) (ninS ne148 nin0))
  have ne146 : t131 ≠ t108 := B149.nn A135
  have F151 : YEs Z h141 a122 := (E127.keep K132)
  have T150 : Str Z h141 a122 t131 [] := ⟨F151, F133, Or.inl ⟨C134, _, A135, trivial⟩⟩
  have F159 : YEb Z h141 a101 := (F145.keep K132)
  refine Go.callV 24 rfl (C := B11) a101 [.ref a122] (rest := []) 77 78 80 79 42 81 (c11g Z hw h141 a101 a122 t108 t131 [] [] (Nat.zero_le _) (Nat.zero_le _) cs hS hcs hAs hHi hLo hfm z104 z119 B149 T150 ne146 (Ne.symm ne147)) F159 d6_21 rfl rfl rfl rfl rfl rfl (by decide) pd11 rfl rfl rfl (W := 0) (lb rfl) (by decide) (by decide) (by decide) (by decide) fun v156 h157 q158 => ?_
  obtain ⟨rfl, t152, o153, K154, B155⟩ := q158
  have sz161 := (Nat.le_trans sz144 K126.1)
  have sz162 := (Nat.le_trans sz161 K132.1)
  have z160 : Z.heap.size ≤ t152 := o153.elim (fun e => by rw [e]; exact z119) (fun g => Nat.le_trans (Nat.le_trans hle sz162) g)
  have F163 : YEb Z h157 a101 := (F159.keep K154)
  refine Go.ldcC 26 rfl (vs := [.int 61]) (z := 1) 125 20 21 4 22 23 24 25 d6_24 rfl ⟨_, rfl, rfl⟩ (by show ("com/example/umweg/umweg/core/Field", 59) ∈ Jvm.Ox.EL; decide) ⟨by decide, rfl⟩ (by decide) rfl (c0 := 4) (by decide) (by decide) (by decide) (by decide) [a101, t152] ((Keep.refl h141 [a101, t108]).trans K154 (by simp)) (fun _ q => q) (allS ⟨(Or.inl (by simp)), F163.lt⟩ (allS ⟨(o153.elim (fun e => by rw [e]; exact (Or.inl (by simp))) (fun g => Or.inr g)), B155.lt⟩ all0)) fun h165 a164 t167 K166 E168 F169 F170 A171 ne172 => ?_
  have T173 : Str Z h165 a164 t167 [61] := ⟨E168, F170, Or.inl ⟨F169, [61], A171, own_g61, trivial⟩⟩
  have B178 := (B155.keep K166 nin0 nin0)
  have F182 : YEb Z h165 a101 := (F163.keep K166)
  refine Go.callV 29 rfl (C := B11) a101 [.ref a164] (rest := []) 77 78 80 79 42 81 (c11g Z hw h165 a101 a164 t152 t167 ([] ++ []) [61] (by first | (simp; done) | (simp; omega)) (by decide) cs hS hcs hAs hHi hLo hfm z104 z160 B178 T173 (Ne.symm (ne172 t152 (by simp)).2) (Ne.symm (ne172 a101 (by simp)).1)) F182 d6_26 rfl rfl rfl rfl rfl rfl (by decide) pd11 rfl rfl rfl (W := 0) (lb rfl) (by decide) (by decide) (by decide) (by decide) fun v179 h180 q181 => ?_
  obtain ⟨rfl, t174, o175, K176, B177⟩ := q181
  have sz184 := (Nat.le_trans sz162 K154.1)
  have sz185 := (Nat.le_trans sz184 K166.1)
  have z183 : Z.heap.size ≤ t174 := o175.elim (fun e => by rw [e]; exact z160) (fun g => Nat.le_trans (Nat.le_trans hle sz185) g)
  refine Go.newO 32 rfl 58 21 20 d6_29 rfl rfl rfl (by decide) (by decide) fun h187 a186 g188 z189 K190 E191 D192 => ?_
  refine Go.dup 33 rfl d6_32 rfl ?_
  refine Go.aloadN 34 rfl d6_33 rfl rfl ?_
  have ne193 : f ≠ a122 := (show @Ne Nat f a122 from by have := ltN hN.lt; have := K105.1; have := K110.1; have := g124; omega)
  have ne194 : f ≠ t108 := (show @Ne Nat f t108 from by have := ltN hN.lt; have := K105.1; have := g109; omega)
  have sz195 := (Nat.le_trans K110.1 K126.1)
  have sz196 := (Nat.le_trans sz195 K132.1)
  have ne197 : f ≠ t152 := (show @Ne Nat f t152 from by have := ltN hN.lt; have := K105.1; have := (o153.elim (fun e => by rw [e]; exact g109) (fun g => (Nat.le_trans sz196 g))); omega)
  have F198 : Fld Z h187 f "com/example/umweg/umweg/core/Field" "value" "[B" (.ref u) := ((((((((hW.keep K105 nin0).keep K110 (ninS ne129 nin0)).keep K126 nin0).keep K132 (ninS ne193 nin0)).keep K154 (ninS ne129 (ninS ne194 nin0))).keep K166 nin0).keep K176 (ninS ne129 (ninS ne197 nin0))).keep K190 nin0)
  refine Go.getF 37 rfl (v := .ref u) 33 d6_34 rfl F198 ?_
  refine Go.getS 40 rfl (v := .ref m) 59 d6_37 rfl hU8 ?_
  have B204 := (B177.keep K190 nin0 nin0)
  have ne205 : u ≠ a101 := (show @Ne Nat u a101 from by have := ltN hB.lt; have := g103; omega)
  have ne206 : u ≠ a122 := (show @Ne Nat u a122 from by have := ltN hB.lt; have := K105.1; have := K110.1; have := g124; omega)
  have ne207 : u ≠ t108 := (show @Ne Nat u t108 from by have := ltN hB.lt; have := K105.1; have := g109; omega)
  have ne208 : u ≠ t152 := (show @Ne Nat u t152 from by have := ltN hB.lt; have := K105.1; have := (o153.elim (fun e => by rw [e]; exact g109) (fun g => (Nat.le_trans sz196 g))); omega)
  have F209 : Ary Z h187 u .byte [] := ((((((((hB.keep K105 nin0).keep K110 (ninS ne205 nin0)).keep K126 nin0).keep K132 (ninS ne206 nin0)).keep K154 (ninS ne205 (ninS ne207 nin0))).keep K166 nin0).keep K176 (ninS ne205 (ninS ne208 nin0))).keep K190 nin0)
  have F210 : Exa Z h187 m "sun/nio/cs/UTF_8" := (((((F139.keep K132).keep K154).keep K166).keep K176).keep K190)
  have F214 : YEb Z h187 a101 := ((F182.keep K176).keep K190)
  refine Go.callIH 43 rfl (C := B9) a186 [.ref u, .ref m] (rest := [.ref a186, .ref a101]) 61 62 20 63 (c9z Z hw h187 a186 u m z189 E191 (D192 22 (Or.inr rfl) (ty := (.array .byte)) (by decide) : YSv Z h187 a186 (.null)) (D192 23 (Or.inr rfl) (ty := .byte) (by decide) : YSc Z h187 a186 (.int (0 : Int32))) F209 F210) d6_40 rfl rfl rfl rfl rfl rfl (by decide) pd9 rfl rfl rfl (W := 2) (lb rfl) (by decide) (by decide) (by decide) (by decide) [a101, t174] (((Keep.refl h165 [a101, t152]).trans K176 (by simp)).trans K190 all0) (fun _ q => q) (allS ⟨(Or.inr (Nat.le_trans K176.1 (Nat.le_of_eq g188.symm))), E191.lt⟩ all0) (allS ⟨(Or.inl (by simp)), F214.lt⟩ (allS ⟨(o175.elim (fun e => by rw [e]; exact (Or.inl (by simp))) (fun g => Or.inr g)), B204.lt⟩ all0)) fun v211 h212 q213 => ?_
  obtain ⟨rfl, t199, K200, F201, C202, A203⟩ := q213
  have ne216 : a101 ≠ a186 := (show @Ne Nat a101 a186 from by have := ltN F182.lt; have := K176.1; have := g188; omega)
  have ne217 : t174 ≠ a186 := (show @Ne Nat t174 a186 from by have := ltN B177.lt; have := g188; omega)
  have B218 := (B204.keep K200 (ninS ne216 nin0) (ninS ne217 nin0))
  have ne215 : t199 ≠ t174 := B218.nn A203
  have F220 : YEs Z h212 a186 := (E191.keep K200)
  have T219 : Str Z h212 a186 t199 [] := ⟨F220, F201, Or.inl ⟨C202, _, A203, trivial⟩⟩
  have F228 : YEb Z h212 a101 := (F214.keep K200)
  refine Go.callV 46 rfl (C := B11) a101 [.ref a186] (rest := []) 77 78 80 79 42 81 (c11g Z hw h212 a101 a186 t174 t199 (([] ++ []) ++ [61]) [] (by first | (simp; done) | (simp; omega)) (Nat.zero_le _) cs hS hcs hAs hHi hLo hfm z104 z183 B218 T219 ne215 (Ne.symm ne216)) F228 d6_43 rfl rfl rfl rfl rfl rfl (by decide) pd11 rfl rfl rfl (W := 0) (lb rfl) (by decide) (by decide) (by decide) (by decide) fun v225 h226 q227 => ?_
  obtain ⟨rfl, t221, o222, K223, B224⟩ := q227
  have sz230 := (Nat.le_trans sz185 K176.1)
  have sz231 := (Nat.le_trans sz230 K190.1)
  have sz232 := (Nat.le_trans sz231 K200.1)
  have z229 : Z.heap.size ≤ t221 := o222.elim (fun e => by rw [e]; exact z183) (fun g => Nat.le_trans (Nat.le_trans hle sz232) g)
  have F242 : YEb Z h226 a101 := (F228.keep K223)
  refine Go.callV 49 rfl (C := B19) a101 [] (rest := []) 126 127 129 128 42 130 (c19g Z hw h226 a101 t221 ((([] ++ []) ++ [61]) ++ []) (by first | (simp; done) | (simp; omega)) cs hS hcs B224) F242 d6_46 rfl rfl rfl rfl rfl rfl (by decide) pd19 rfl rfl rfl (W := 0) (lb rfl) (by decide) (by decide) (by decide) (by decide) fun v239 h240 q241 => ?_
  obtain ⟨a233, t234, rfl, g235, g236, K237, T238⟩ := q241
  have sz244 := (Nat.le_trans sz232 K223.1)
  have z243 : Z.heap.size ≤ a233 := Nat.le_trans (Nat.le_trans hle sz244) g235
  have kc245 : Keep h0 h240 [] := ((((((((kc143.trans K132 (allS (Or.inr (Nat.le_trans sz144 (Nat.le_of_eq g124.symm))) all0)).trans K154 (allS (Or.inr (Nat.le_of_eq g103.symm)) (allS (Or.inr (Nat.le_trans K105.1 g109)) all0))).trans K166 all0).trans K176 (allS (Or.inr (Nat.le_of_eq g103.symm)) (allS (o153.elim (fun e => by rw [e]; exact (Or.inr (Nat.le_trans K105.1 g109))) (fun g => Or.inr (Nat.le_trans sz162 g))) all0))).trans K190 all0).trans K200 (allS (Or.inr (Nat.le_trans sz230 (Nat.le_of_eq g188.symm))) all0)).trans K223 (allS (Or.inr (Nat.le_of_eq g103.symm)) (allS (o175.elim (fun e => by rw [e]; exact (o153.elim (fun e => by rw [e]; exact (Or.inr (Nat.le_trans K105.1 g109))) (fun g => Or.inr (Nat.le_trans sz162 g)))) (fun g => Or.inr (Nat.le_trans sz185 g))) all0))).trans K237 all0)
  exact Go.retA d6_49 rfl rfl rfl (by decide) (by decide) (((Keep.refl h212 [a101, t174]).trans K223 (by simp)).trans K237 all0) (fun _ q => q) ⟨a233, t234, rfl, Nat.le_trans sz244 g235, kc245, (by simpa using T238)⟩
theorem pn0 : plainFor (⟨"com/example/umweg/umweg/core/FieldToStringPinLaw", "law", "(IIIII)Z"⟩ : MethodName) = true := by first | (refine plainFor_of_name ?_; simp [plainName, overriddenIn]; done) | (refine plainFor_of_name ?_; decide +kernel) | decide +kernel
abbrev B0 : Bd := (x, code, maxLocals, ret, room_1, tables_1)
def Q0  (v : Option Value) (h : Heap) : Prop := v = some (.int 1)
theorem c0 (Z : State) (hw : Wd Z tables_1) (h0 : Heap) (i0 : Int32) (i1 : Int32) (i2 : Int32) (i3 : Int32) (i4 : Int32)  (cs : Int32) (hS : YCs Z cs) (hcs : ¬ cs = 0) (hAs : YAs Z) (hHi : YHi Z) (hLo : YLo Z) (hfm : YFm Z) (m : Addr) (hU : YUt Z m) (hU8 : YU8 Z m) (hM : Exa Z h0 m "sun/nio/cs/UTF_8") : ConH Z B0 (List.toArray [.int i0, .int i1, .int i2, .int i3, .int i4]) h0 [] (Q0 ) := by
  refine ConH.mk (Ls := #[.val (.int i0), .val (.int i1), .val (.int i2), .val (.int i3), .val (.int i4), .unset, .unset, .unset, .unset, .unset, .unset, .unset, .unset, .unset]) hw pn0 (fun mid => by first | (simp [entryFrame, mkF, argsToLocals, Value.category, Jvm.Ow.Bd.ml, B0, maxLocals]; done) | rfl) (Go.old fun hle' => ?_)
  have hle := hle'.1
  refine Go.iloadN 1 rfl at_0 rfl ?_
  refine Go.iconst 2 rfl (3 : Int32) at_1 rfl ?_
  refine Go.iand 3 rfl at_2 ?_
  refine Go.iconst 4 rfl (3 : Int32) at_3 rfl ?_
  refine Go.irem 5 rfl at_4 (by decide) ?_
  refine Go.nameI fun v101 hv101 => ?_
  refine Go.istore 7 rfl at_5 (Ls' := #[.val (.int i0), .val (.int i1), .val (.int i2), .val (.int i3), .val (.int i4), .val (.int v101), .unset, .unset, .unset, .unset, .unset, .unset, .unset, .unset]) rfl ?_
  refine Go.iloadN 8 rfl at_7 rfl ?_
  refine Go.iconst 9 rfl (2 : Int32) at_8 rfl ?_
  refine Go.iushr 10 rfl at_9 ?_
  refine Go.iconst 11 rfl (3 : Int32) at_10 rfl ?_
  refine Go.iand 12 rfl at_11 ?_
  refine Go.iconst 13 rfl (3 : Int32) at_12 rfl ?_
  refine Go.irem 14 rfl at_13 (by decide) ?_
  refine Go.nameI fun v102 hv102 => ?_
  refine Go.istore 16 rfl at_14 (Ls' := #[.val (.int i0), .val (.int i1), .val (.int i2), .val (.int i3), .val (.int i4), .val (.int v101), .val (.int v102), .unset, .unset, .unset, .unset, .unset, .unset, .unset]) rfl ?_
  refine Go.iloadN 17 rfl at_16 rfl ?_
  refine Go.sipush 20 rfl (255 : Int32) at_17 rfl ?_
  refine Go.iand 21 rfl at_20 ?_
  refine Go.nameI fun v103 hv103 => ?_
  refine Go.istore 23 rfl at_21 (Ls' := #[.val (.int i0), .val (.int i1), .val (.int i2), .val (.int i3), .val (.int i4), .val (.int v101), .val (.int v102), .val (.int v103), .unset, .unset, .unset, .unset, .unset, .unset]) rfl ?_
  refine Go.iload 25 rfl at_23 rfl ?_
  refine Go.sipush 28 rfl (128 : Int32) at_25 rfl ?_
  refine Go.joinI (pcJ := 43) (LsJ := #[.val (.int i0), .val (.int i1), .val (.int i2), .val (.int i3), .val (.int i4), .val (.int v101), .val (.int v102), .val (.int v103), .unset, .unset, .unset, .unset, .unset, .unset]) (stJ := []) (fun v => (v103 < (128 : Int32) ∧ 0 ≤ v.toInt ∧ v.toInt < 256) ∨ (¬ v103 < (128 : Int32) ∧ 0 ≤ v.toInt ∧ v.toInt < 128)) (fun J => ?_) (fun ea hea => ?_)
  · refine Go.icmp_ge 39 31 at_28 (by decide) rfl rfl (fun (b104 : ¬ v103 < (128 : Int32)) => ?_) (fun (b104 : v103 < (128 : Int32)) => ?_)
    · refine Go.iloadN 40 rfl at_39 rfl ?_
      refine Go.bipush 42 rfl (127 : Int32) at_40 rfl ?_
      refine Go.iand 43 rfl at_42 ?_
      exact J _ (Or.inr ⟨b104, own_m7' _⟩)
    · refine Go.iloadN 32 rfl at_31 rfl ?_
      refine Go.sipush 35 rfl (255 : Int32) at_32 rfl ?_
      refine Go.iand 36 rfl at_35 ?_
      refine Go.goto 43 at_36 (by decide) (by decide) ?_
      exact J _ (Or.inl ⟨b104, own_m8' _⟩)
  · refine Go.istore 45 rfl at_43 (Ls' := #[.val (.int i0), .val (.int i1), .val (.int i2), .val (.int i3), .val (.int i4), .val (.int v101), .val (.int v102), .val (.int v103), .val (.int ea), .unset, .unset, .unset, .unset, .unset]) rfl ?_
    refine Go.iloadN 46 rfl at_45 rfl ?_
    refine Go.sipush 49 rfl (255 : Int32) at_46 rfl ?_
    refine Go.iand 50 rfl at_49 ?_
    refine Go.nameI fun v105 hv105 => ?_
    refine Go.istore 52 rfl at_50 (Ls' := #[.val (.int i0), .val (.int i1), .val (.int i2), .val (.int i3), .val (.int i4), .val (.int v101), .val (.int v102), .val (.int v103), .val (.int ea), .val (.int v105), .unset, .unset, .unset, .unset]) rfl ?_
    refine Go.iload 54 rfl at_52 rfl ?_
    refine Go.sipush 57 rfl (128 : Int32) at_54 rfl ?_
    refine Go.joinI (pcJ := 74) (LsJ := #[.val (.int i0), .val (.int i1), .val (.int i2), .val (.int i3), .val (.int i4), .val (.int v101), .val (.int v102), .val (.int v103), .val (.int ea), .val (.int v105), .unset, .unset, .unset, .unset]) (stJ := []) (fun v => (v105 < (128 : Int32) ∧ 0 ≤ v.toInt ∧ v.toInt < 256) ∨ (¬ v105 < (128 : Int32) ∧ 0 ≤ v.toInt ∧ v.toInt < 128)) (fun J => ?_) (fun ec hec => ?_)
    · refine Go.icmp_ge 69 60 at_57 (by decide) rfl rfl (fun (b106 : ¬ v105 < (128 : Int32)) => ?_) (fun (b106 : v105 < (128 : Int32)) => ?_)
      · refine Go.iload 71 rfl at_69 rfl ?_
        refine Go.bipush 73 rfl (127 : Int32) at_71 rfl ?_
        refine Go.iand 74 rfl at_73 ?_
        exact J _ (Or.inr ⟨b106, own_m7' _⟩)
      · refine Go.iload 62 rfl at_60 rfl ?_
        refine Go.sipush 65 rfl (255 : Int32) at_62 rfl ?_
        refine Go.iand 66 rfl at_65 ?_
        refine Go.goto 74 at_66 (by decide) (by decide) ?_
        exact J _ (Or.inl ⟨b106, own_m8' _⟩)
    · refine Go.istore 76 rfl at_74 (Ls' := #[.val (.int i0), .val (.int i1), .val (.int i2), .val (.int i3), .val (.int i4), .val (.int v101), .val (.int v102), .val (.int v103), .val (.int ea), .val (.int v105), .val (.int ec), .unset, .unset, .unset]) rfl ?_
      have ha0 := own_m8 hv103
      have hc0 := own_m8 hv105
      have ha1 : 0 ≤ ea.toInt ∧ ea.toInt < 256 := by rcases hea with ⟨-, p, q⟩ | ⟨-, p, q⟩ <;> omega
      have hc1 : 0 ≤ ec.toInt ∧ ec.toInt < 256 := by rcases hec with ⟨-, p, q⟩ | ⟨-, p, q⟩ <;> omega
      obtain ⟨p0, hbp0⟩ : ∃ b, v103.toInt8.toInt32 = b := ⟨_, rfl⟩
      obtain ⟨x0, hxp0⟩ : ∃ x, decv v103 = x := ⟨_, rfl⟩
      obtain ⟨hdp0, hlp0, hip0⟩ := own_db ha0 hbp0 hxp0
      obtain ⟨p1, hbp1⟩ : ∃ b, ea.toInt8.toInt32 = b := ⟨_, rfl⟩
      obtain ⟨x1, hxp1⟩ : ∃ x, decv ea = x := ⟨_, rfl⟩
      obtain ⟨hdp1, hlp1, hip1⟩ := own_db ha1 hbp1 hxp1
      obtain ⟨q0, hbq0⟩ : ∃ b, v105.toInt8.toInt32 = b := ⟨_, rfl⟩
      obtain ⟨z0, hxq0⟩ : ∃ x, decv v105 = x := ⟨_, rfl⟩
      obtain ⟨hdq0, hlq0, hiq0⟩ := own_db hc0 hbq0 hxq0
      obtain ⟨q1, hbq1⟩ : ∃ b, ec.toInt8.toInt32 = b := ⟨_, rfl⟩
      obtain ⟨z1, hxq1⟩ : ∃ x, decv ec = x := ⟨_, rfl⟩
      obtain ⟨hdq1, hlq1, hiq1⟩ := own_db hc1 hbq1 hxq1
      have hnn : ¬ (p0 < 0 ∧ p1 < 0) := fun q => hea.elim (fun g => hip0.mp q.1 g.1) (fun g => hip1.mp q.2 (by rw [Int32.lt_iff_toInt_lt]; exact g.2.2))
      have hnm : ¬ (q0 < 0 ∧ q1 < 0) := fun q => hec.elim (fun g => hiq0.mp q.1 g.1) (fun g => hiq1.mp q.2 (by rw [Int32.lt_iff_toInt_lt]; exact g.2.2))
      rcases own_n3 hv101 with rfl | rfl | rfl
      · rcases own_n3 hv102 with rfl | rfl | rfl
        · refine Go.iload 78 rfl at_76 rfl ?_
          refine Go.iload 80 rfl at_78 rfl ?_
          refine Go.iload 82 rfl at_80 rfl ?_
          refine Go.callS 85 rfl (C := B1) [.int (0 : Int32), .int v103, .int ea] (rest := []) 0 1 2 3 (c1n0 Z hw h0 v103 ea  ) at_82 rfl rfl rfl rfl (by decide) pd1 rfl rfl rfl (W := 0) (lb rfl) (by decide) (by decide) (by decide) (by decide) fun v112 h113 q114 => ?_
          obtain ⟨t107, rfl, g108, K109, A110, E111⟩ := q114
          have z115 : Z.heap.size ≤ t107 := Nat.le_trans hle g108
          refine Go.astore 87 rfl at_85 rfl (Ls' := #[.val (.int i0), .val (.int i1), .val (.int i2), .val (.int i3), .val (.int i4), .val (.int (0 : Int32)), .val (.int (0 : Int32)), .val (.int v103), .val (.int ea), .val (.int v105), .val (.int ec), .val (.ref t107), .unset, .unset]) rfl ?_
          refine Go.iload 89 rfl at_87 rfl ?_
          refine Go.iload 91 rfl at_89 rfl ?_
          refine Go.iload 93 rfl at_91 rfl ?_
          refine Go.callS 96 rfl (C := B1) [.int (0 : Int32), .int v105, .int ec] (rest := []) 0 1 2 3 (c1n0 Z hw h113 v105 ec  ) at_93 rfl rfl rfl rfl (by decide) pd1 rfl rfl rfl (W := 0) (lb rfl) (by decide) (by decide) (by decide) (by decide) fun v121 h122 q123 => ?_
          obtain ⟨t116, rfl, g117, K118, A119, E120⟩ := q123
          have z124 : Z.heap.size ≤ t116 := Nat.le_trans (Nat.le_trans hle K109.1) g117
          refine Go.astore 98 rfl at_96 rfl (Ls' := #[.val (.int i0), .val (.int i1), .val (.int i2), .val (.int i3), .val (.int i4), .val (.int (0 : Int32)), .val (.int (0 : Int32)), .val (.int v103), .val (.int ea), .val (.int v105), .val (.int ec), .val (.ref t107), .val (.ref t116), .unset]) rfl ?_
          refine Go.newO 101 rfl 5 6 7 at_98 rfl rfl rfl (by decide) (by decide) fun h126 a125 g127 z128 K129 E130 D131 => ?_
          refine Go.dup 102 rfl at_101 rfl ?_
          refine Go.aload 104 rfl at_102 rfl rfl ?_
          refine Go.aload 106 rfl at_104 rfl rfl ?_
          have kc138 : Keep h0 h126 [] := ((((Keep.refl h0 []).trans K109 all0).trans K118 all0).trans K129 all0)
          have sz139 := (Nat.le_trans K109.1 K118.1)
          refine Go.callIH 109 rfl (C := B2) a125 [.ref t107, .ref t116] (rest := [.ref a125]) 8 9 7 10 (c2 Z hw h126 a125 t107 t116 z128 E130 (D131 32 (Or.inr rfl) (ty := (.array .byte)) (by decide) : Fld Z h126 a125 "com/example/umweg/umweg/core/Field" "name" "[B" (.null)) (D131 34 (Or.inr rfl) (ty := (.array .byte)) (by decide) : Fld Z h126 a125 "com/example/umweg/umweg/core/Field" "value" "[B" (.null))) at_106 rfl rfl rfl rfl rfl rfl (by decide) pd2 rfl rfl rfl (W := 1) (lb rfl) (by decide) (by decide) (by decide) (by decide) [] kc138 (fun _ q => q) (allS ⟨(Or.inr (Nat.le_trans sz139 (Nat.le_of_eq g127.symm))), E130.lt⟩ all0) all0 fun v135 h136 q137 => ?_
          obtain ⟨rfl, K132, F133, F134⟩ := q137
          have ne140 : t107 ≠ a125 := (show @Ne Nat t107 a125 from by have := ltN E111.lt; have := K118.1; have := g127; omega)
          have F141 : Ary Z h136 t107 .byte [] := (((A110.keep K118 nin0).keep K129 nin0).keep K132 (ninS ne140 nin0))
          have ne142 : t116 ≠ a125 := (show @Ne Nat t116 a125 from by have := ltN E120.lt; have := g127; omega)
          have F143 : Ary Z h136 t116 .byte [] := ((A119.keep K129 nin0).keep K132 (ninS ne142 nin0))
          have F144 : Exa Z h136 t107 "[B" := (((E111.keep K118).keep K129).keep K132)
          have F145 : Exa Z h136 t116 "[B" := ((E120.keep K129).keep K132)
          have F146 : Exa Z h136 m "sun/nio/cs/UTF_8" := ((((hM.keep K109).keep K118).keep K129).keep K132)
          have F155 : Exa Z h136 a125 "com/example/umweg/umweg/core/Field" := (E130.keep K132)
          refine Go.callVH 112 rfl (C := B6) a125 [] (rest := []) 35 36 38 37 7 39 (c6tzz Z hw h136 a125  cs hS hcs hAs hHi hLo hfm m hU hU8 t107 t116 F133 F134 F141 F143 F144 F145 F146) F155 at_109 rfl rfl rfl rfl rfl rfl (by decide) pd6 rfl rfl rfl (W := 0) (lb rfl) (by decide) (by decide) (by decide) (by decide) [] (Keep.refl h136 []) (fun _ q => q) all0 all0 fun v152 h153 q154 => ?_
          obtain ⟨a147, t148, rfl, g149, K150, D151⟩ := q154
          have sz157 := (Nat.le_trans sz139 K129.1)
          have sz158 := (Nat.le_trans sz157 K132.1)
          have z156 : Z.heap.size ≤ a147 := Nat.le_trans (Nat.le_trans hle sz158) g149
          refine Go.astore 114 rfl at_112 rfl (Ls' := #[.val (.int i0), .val (.int i1), .val (.int i2), .val (.int i3), .val (.int i4), .val (.int (0 : Int32)), .val (.int (0 : Int32)), .val (.int v103), .val (.int ea), .val (.int v105), .val (.int ec), .val (.ref t107), .val (.ref t116), .val (.ref a147)]) rfl ?_
          refine Go.aload 116 rfl at_114 rfl rfl ?_
          refine Go.callV 119 rfl (C := B13) a147 [] (rest := []) 171 88 90 89 20 91 (c13d Z hw h153 a147 1 [(61 : Int32)] rfl (by decide) cs hS hcs t148 D151) D151.1 at_116 rfl rfl rfl rfl rfl rfl (by decide) pd13 rfl rfl rfl (W := 0) (lb rfl) (by decide) (by decide) (by decide) (by decide) fun v159 h160 q161 => ?_
          obtain ⟨rfl, rfl⟩ := q161
          refine Go.iload 121 rfl at_119 rfl ?_
          refine Go.iload 123 rfl at_121 rfl ?_
          refine Go.iadd 124 rfl at_123 ?_
          refine Go.iconst 125 rfl (1 : Int32) at_124 rfl ?_
          refine Go.iadd 126 rfl at_125 ?_
          refine Go.icmp_eq 131 129 at_126 (by decide) rfl rfl (fun (b162 : (1 : Int32) = (((0 : Int32) + (0 : Int32)) + (1 : Int32))) => ?_) (fun (b162 : ¬ (1 : Int32) = (((0 : Int32) + (0 : Int32)) + (1 : Int32))) => ?_)
          · refine Go.iload 133 rfl at_131 rfl ?_
            refine Go.iconst 134 rfl (1 : Int32) at_133 rfl ?_
            refine Go.icmp_lt 153 137 at_134 (by decide) rfl rfl (fun (b163 : (0 : Int32) < (1 : Int32)) => ?_) (fun (b163 : ¬ (0 : Int32) < (1 : Int32)) => ?_)
            · refine Go.iload 155 rfl at_153 rfl ?_
              refine Go.iconst 156 rfl (2 : Int32) at_155 rfl ?_
              refine Go.icmp_lt 175 159 at_156 (by decide) rfl rfl (fun (b164 : (0 : Int32) < (2 : Int32)) => ?_) (fun (b164 : ¬ (0 : Int32) < (2 : Int32)) => ?_)
              · refine Go.aload 177 rfl at_175 rfl rfl ?_
                refine Go.iload 179 rfl at_177 rfl ?_
                refine Go.callV 182 rfl (C := B30) a147 [.int (0 : Int32)] (rest := []) 172 173 175 174 20 176 (c30d Z hw h153 a147 (jn := 0) (0 : Int32) (61 : Int32) 1 [(61 : Int32)] rfl (by decide) (by decide) rfl cs hS hcs hAs hHi hLo hfm t148 rfl (by decide) own_c61 D151) D151.1 at_179 rfl rfl rfl rfl rfl rfl (by decide) pd30 rfl rfl rfl (W := 0) (lb rfl) (by decide) (by decide) (by decide) (by decide) fun v165 h166 q167 => ?_
                obtain ⟨rfl, rfl⟩ := q167
                refine Go.bipush 184 rfl (61 : Int32) at_182 rfl ?_
                refine Go.icmp_eq 189 187 at_184 (by decide) rfl rfl (fun (b168 : (61 : Int32) = (61 : Int32)) => ?_) (fun (b168 : ¬ (61 : Int32) = (61 : Int32)) => ?_)
                · refine Go.iload 191 rfl at_189 rfl ?_
                  refine Go.iconst 192 rfl (1 : Int32) at_191 rfl ?_
                  refine Go.icmp_lt 214 195 at_192 (by decide) rfl rfl (fun (b169 : (0 : Int32) < (1 : Int32)) => ?_) (fun (b169 : ¬ (0 : Int32) < (1 : Int32)) => ?_)
                  · refine Go.iload 216 rfl at_214 rfl ?_
                    refine Go.iconst 217 rfl (2 : Int32) at_216 rfl ?_
                    refine Go.icmp_lt 239 220 at_217 (by decide) rfl rfl (fun (b170 : (0 : Int32) < (2 : Int32)) => ?_) (fun (b170 : ¬ (0 : Int32) < (2 : Int32)) => ?_)
                    · refine Go.iconst 240 rfl (1 : Int32) at_239 rfl ?_
                      exact Go.retN (t := .boolean) (z' := 1) at_240 rfl (by decide) (by decide) (by decide) (by decide) (Keep.refl h153 []) (fun _ q => q) rfl
                    · exact absurd (show (0 : Int32) < (2 : Int32) from (by decide)) b170
                  · exact absurd (show (0 : Int32) < (1 : Int32) from (by decide)) b169
                · exact absurd (show (61 : Int32) = (61 : Int32) from (by decide)) b168
              · exact absurd (show (0 : Int32) < (2 : Int32) from (by decide)) b164
            · exact absurd (show (0 : Int32) < (1 : Int32) from (by decide)) b163
          · exact absurd (show (1 : Int32) = (((0 : Int32) + (0 : Int32)) + (1 : Int32)) from (by decide)) b162
        · refine Go.iload 78 rfl at_76 rfl ?_
          refine Go.iload 80 rfl at_78 rfl ?_
          refine Go.iload 82 rfl at_80 rfl ?_
          refine Go.callS 85 rfl (C := B1) [.int (0 : Int32), .int v103, .int ea] (rest := []) 0 1 2 3 (c1n0 Z hw h0 v103 ea  ) at_82 rfl rfl rfl rfl (by decide) pd1 rfl rfl rfl (W := 0) (lb rfl) (by decide) (by decide) (by decide) (by decide) fun v176 h177 q178 => ?_
          obtain ⟨t171, rfl, g172, K173, A174, E175⟩ := q178
          have z179 : Z.heap.size ≤ t171 := Nat.le_trans hle g172
          refine Go.astore 87 rfl at_85 rfl (Ls' := #[.val (.int i0), .val (.int i1), .val (.int i2), .val (.int i3), .val (.int i4), .val (.int (0 : Int32)), .val (.int (1 : Int32)), .val (.int v103), .val (.int ea), .val (.int v105), .val (.int ec), .val (.ref t171), .unset, .unset]) rfl ?_
          refine Go.iload 89 rfl at_87 rfl ?_
          refine Go.iload 91 rfl at_89 rfl ?_
          refine Go.iload 93 rfl at_91 rfl ?_
          refine Go.callS 96 rfl (C := B1) [.int (1 : Int32), .int v105, .int ec] (rest := []) 0 1 2 3 (c1n1 Z hw h177 v105 ec q0 hbq0) at_93 rfl rfl rfl rfl (by decide) pd1 rfl rfl rfl (W := 0) (lb rfl) (by decide) (by decide) (by decide) (by decide) fun v185 h186 q187 => ?_
          obtain ⟨t180, rfl, g181, K182, A183, E184⟩ := q187
          have z188 : Z.heap.size ≤ t180 := Nat.le_trans (Nat.le_trans hle K173.1) g181
          refine Go.astore 98 rfl at_96 rfl (Ls' := #[.val (.int i0), .val (.int i1), .val (.int i2), .val (.int i3), .val (.int i4), .val (.int (0 : Int32)), .val (.int (1 : Int32)), .val (.int v103), .val (.int ea), .val (.int v105), .val (.int ec), .val (.ref t171), .val (.ref t180), .unset]) rfl ?_
          refine Go.newO 101 rfl 5 6 7 at_98 rfl rfl rfl (by decide) (by decide) fun h190 a189 g191 z192 K193 E194 D195 => ?_
          refine Go.dup 102 rfl at_101 rfl ?_
          refine Go.aload 104 rfl at_102 rfl rfl ?_
          refine Go.aload 106 rfl at_104 rfl rfl ?_
          have kc202 : Keep h0 h190 [] := ((((Keep.refl h0 []).trans K173 all0).trans K182 all0).trans K193 all0)
          have sz203 := (Nat.le_trans K173.1 K182.1)
          refine Go.callIH 109 rfl (C := B2) a189 [.ref t171, .ref t180] (rest := [.ref a189]) 8 9 7 10 (c2 Z hw h190 a189 t171 t180 z192 E194 (D195 32 (Or.inr rfl) (ty := (.array .byte)) (by decide) : Fld Z h190 a189 "com/example/umweg/umweg/core/Field" "name" "[B" (.null)) (D195 34 (Or.inr rfl) (ty := (.array .byte)) (by decide) : Fld Z h190 a189 "com/example/umweg/umweg/core/Field" "value" "[B" (.null))) at_106 rfl rfl rfl rfl rfl rfl (by decide) pd2 rfl rfl rfl (W := 1) (lb rfl) (by decide) (by decide) (by decide) (by decide) [] kc202 (fun _ q => q) (allS ⟨(Or.inr (Nat.le_trans sz203 (Nat.le_of_eq g191.symm))), E194.lt⟩ all0) all0 fun v199 h200 q201 => ?_
          obtain ⟨rfl, K196, F197, F198⟩ := q201
          have ne204 : t171 ≠ a189 := (show @Ne Nat t171 a189 from by have := ltN E175.lt; have := K182.1; have := g191; omega)
          have F205 : Ary Z h200 t171 .byte [] := (((A174.keep K182 nin0).keep K193 nin0).keep K196 (ninS ne204 nin0))
          have ne206 : t180 ≠ a189 := (show @Ne Nat t180 a189 from by have := ltN E184.lt; have := g191; omega)
          have F207 : Ary Z h200 t180 .byte [.int q0] := ((A183.keep K193 nin0).keep K196 (ninS ne206 nin0))
          have F208 : Exa Z h200 t171 "[B" := (((E175.keep K182).keep K193).keep K196)
          have F209 : Exa Z h200 t180 "[B" := ((E184.keep K193).keep K196)
          have F210 : Exa Z h200 m "sun/nio/cs/UTF_8" := ((((hM.keep K173).keep K182).keep K193).keep K196)
          have F219 : Exa Z h200 a189 "com/example/umweg/umweg/core/Field" := (E194.keep K196)
          refine Go.callVH 112 rfl (C := B6) a189 [] (rest := []) 35 36 38 37 7 39 (c6tzp Z hw h200 a189 [z0] [.int q0] (lb rfl) cs hS hcs hAs hHi hLo hfm m hU hU8 t171 t180 (fun h a g1 g2 g3 g4 g5 g6 g7 => c9w1 Z hw h a t180 m z0 q0 hdq0 hlq0  cs hS hcs hAs hHi hLo hfm hU g1 g2 g3 g4 g5 g6 g7) F197 F198 F205 F207 F208 F209 F210) F219 at_109 rfl rfl rfl rfl rfl rfl (by decide) pd6 rfl rfl rfl (W := 0) (lb rfl) (by decide) (by decide) (by decide) (by decide) [] (Keep.refl h200 []) (fun _ q => q) all0 all0 fun v216 h217 q218 => ?_
          obtain ⟨a211, t212, rfl, g213, K214, D215⟩ := q218
          have sz221 := (Nat.le_trans sz203 K193.1)
          have sz222 := (Nat.le_trans sz221 K196.1)
          have z220 : Z.heap.size ≤ a211 := Nat.le_trans (Nat.le_trans hle sz222) g213
          refine Go.astore 114 rfl at_112 rfl (Ls' := #[.val (.int i0), .val (.int i1), .val (.int i2), .val (.int i3), .val (.int i4), .val (.int (0 : Int32)), .val (.int (1 : Int32)), .val (.int v103), .val (.int ea), .val (.int v105), .val (.int ec), .val (.ref t171), .val (.ref t180), .val (.ref a211)]) rfl ?_
          refine Go.aload 116 rfl at_114 rfl rfl ?_
          refine Go.callV 119 rfl (C := B13) a211 [] (rest := []) 171 88 90 89 20 91 (c13d Z hw h217 a211 2 [(61 : Int32), z0] rfl (by decide) cs hS hcs t212 D215) D215.1 at_116 rfl rfl rfl rfl rfl rfl (by decide) pd13 rfl rfl rfl (W := 0) (lb rfl) (by decide) (by decide) (by decide) (by decide) fun v223 h224 q225 => ?_
          obtain ⟨rfl, rfl⟩ := q225
          refine Go.iload 121 rfl at_119 rfl ?_
          refine Go.iload 123 rfl at_121 rfl ?_
          refine Go.iadd 124 rfl at_123 ?_
          refine Go.iconst 125 rfl (1 : Int32) at_124 rfl ?_
          refine Go.iadd 126 rfl at_125 ?_
          refine Go.icmp_eq 131 129 at_126 (by decide) rfl rfl (fun (b226 : (2 : Int32) = (((0 : Int32) + (1 : Int32)) + (1 : Int32))) => ?_) (fun (b226 : ¬ (2 : Int32) = (((0 : Int32) + (1 : Int32)) + (1 : Int32))) => ?_)
          · refine Go.iload 133 rfl at_131 rfl ?_
            refine Go.iconst 134 rfl (1 : Int32) at_133 rfl ?_
            refine Go.icmp_lt 153 137 at_134 (by decide) rfl rfl (fun (b227 : (0 : Int32) < (1 : Int32)) => ?_) (fun (b227 : ¬ (0 : Int32) < (1 : Int32)) => ?_)
            · refine Go.iload 155 rfl at_153 rfl ?_
              refine Go.iconst 156 rfl (2 : Int32) at_155 rfl ?_
              refine Go.icmp_lt 175 159 at_156 (by decide) rfl rfl (fun (b228 : (0 : Int32) < (2 : Int32)) => ?_) (fun (b228 : ¬ (0 : Int32) < (2 : Int32)) => ?_)
              · refine Go.aload 177 rfl at_175 rfl rfl ?_
                refine Go.iload 179 rfl at_177 rfl ?_
                refine Go.callV 182 rfl (C := B30) a211 [.int (0 : Int32)] (rest := []) 172 173 175 174 20 176 (c30d Z hw h217 a211 (jn := 0) (0 : Int32) (61 : Int32) 2 [(61 : Int32), z0] rfl (by decide) (by decide) rfl cs hS hcs hAs hHi hLo hfm t212 rfl (by decide) own_c61 D215) D215.1 at_179 rfl rfl rfl rfl rfl rfl (by decide) pd30 rfl rfl rfl (W := 0) (lb rfl) (by decide) (by decide) (by decide) (by decide) fun v229 h230 q231 => ?_
                obtain ⟨rfl, rfl⟩ := q231
                refine Go.bipush 184 rfl (61 : Int32) at_182 rfl ?_
                refine Go.icmp_eq 189 187 at_184 (by decide) rfl rfl (fun (b232 : (61 : Int32) = (61 : Int32)) => ?_) (fun (b232 : ¬ (61 : Int32) = (61 : Int32)) => ?_)
                · refine Go.iload 191 rfl at_189 rfl ?_
                  refine Go.iconst 192 rfl (1 : Int32) at_191 rfl ?_
                  refine Go.icmp_lt 214 195 at_192 (by decide) rfl rfl (fun (b233 : (1 : Int32) < (1 : Int32)) => ?_) (fun (b233 : ¬ (1 : Int32) < (1 : Int32)) => ?_)
                  · exact absurd b233 (show ¬ (1 : Int32) < (1 : Int32) from (by decide))
                  · refine Go.aload 197 rfl at_195 rfl rfl ?_
                    refine Go.iload 199 rfl at_197 rfl ?_
                    refine Go.iconst 200 rfl (1 : Int32) at_199 rfl ?_
                    refine Go.iadd 201 rfl at_200 ?_
                    refine Go.callV 204 rfl (C := B30) a211 [.int ((0 : Int32) + (1 : Int32))] (rest := []) 172 173 175 174 20 176 (c30d Z hw h217 a211 (jn := 1) ((0 : Int32) + (1 : Int32)) z0 2 [(61 : Int32), z0] rfl (by decide) (by decide) rfl cs hS hcs hAs hHi hLo hfm t212 rfl (by decide) (own_chd hxq0) D215) D215.1 at_201 rfl rfl rfl rfl rfl rfl (by decide) pd30 rfl rfl rfl (W := 0) (lb rfl) (by decide) (by decide) (by decide) (by decide) fun v234 h235 q236 => ?_
                    obtain ⟨rfl, rfl⟩ := q236
                    refine Go.iload 206 rfl at_204 rfl ?_
                    refine Go.callS 209 rfl (C := B36) [.int v105] (rest := [.int z0]) 209 210 2 211 (c36 Z hw h217 v105 z0 hxq0) at_206 rfl rfl rfl rfl (by decide) pd36 rfl rfl rfl (W := 1) (lb rfl) (by decide) (by decide) (by decide) (by decide) fun v237 h238 q239 => ?_
                    obtain ⟨rfl, rfl⟩ := q239
                    refine Go.icmp_eq 214 212 at_209 (by decide) rfl rfl (fun (b240 : z0 = z0) => ?_) (fun (b240 : ¬ z0 = z0) => ?_)
                    · refine Go.iload 216 rfl at_214 rfl ?_
                      refine Go.iconst 217 rfl (2 : Int32) at_216 rfl ?_
                      refine Go.icmp_lt 239 220 at_217 (by decide) rfl rfl (fun (b241 : (1 : Int32) < (2 : Int32)) => ?_) (fun (b241 : ¬ (1 : Int32) < (2 : Int32)) => ?_)
                      · refine Go.iconst 240 rfl (1 : Int32) at_239 rfl ?_
                        exact Go.retN (t := .boolean) (z' := 1) at_240 rfl (by decide) (by decide) (by decide) (by decide) (Keep.refl h217 []) (fun _ q => q) rfl
                      · exact absurd (show (1 : Int32) < (2 : Int32) from (by decide)) b241
                    · exact absurd (show z0 = z0 from rfl) b240
                · exact absurd (show (61 : Int32) = (61 : Int32) from (by decide)) b232
              · exact absurd (show (0 : Int32) < (2 : Int32) from (by decide)) b228
            · exact absurd (show (0 : Int32) < (1 : Int32) from (by decide)) b227
          · exact absurd (show (2 : Int32) = (((0 : Int32) + (1 : Int32)) + (1 : Int32)) from (by decide)) b226
        · refine Go.iload 78 rfl at_76 rfl ?_
          refine Go.iload 80 rfl at_78 rfl ?_
          refine Go.iload 82 rfl at_80 rfl ?_
          refine Go.callS 85 rfl (C := B1) [.int (0 : Int32), .int v103, .int ea] (rest := []) 0 1 2 3 (c1n0 Z hw h0 v103 ea  ) at_82 rfl rfl rfl rfl (by decide) pd1 rfl rfl rfl (W := 0) (lb rfl) (by decide) (by decide) (by decide) (by decide) fun v247 h248 q249 => ?_
          obtain ⟨t242, rfl, g243, K244, A245, E246⟩ := q249
          have z250 : Z.heap.size ≤ t242 := Nat.le_trans hle g243
          refine Go.astore 87 rfl at_85 rfl (Ls' := #[.val (.int i0), .val (.int i1), .val (.int i2), .val (.int i3), .val (.int i4), .val (.int (0 : Int32)), .val (.int (2 : Int32)), .val (.int v103), .val (.int ea), .val (.int v105), .val (.int ec), .val (.ref t242), .unset, .unset]) rfl ?_
          refine Go.iload 89 rfl at_87 rfl ?_
          refine Go.iload 91 rfl at_89 rfl ?_
          refine Go.iload 93 rfl at_91 rfl ?_
          refine Go.callS 96 rfl (C := B1) [.int (2 : Int32), .int v105, .int ec] (rest := []) 0 1 2 3 (c1n2 Z hw h248 v105 ec q0 q1 hbq0 hbq1) at_93 rfl rfl rfl rfl (by decide) pd1 rfl rfl rfl (W := 0) (lb rfl) (by decide) (by decide) (by decide) (by decide) fun v256 h257 q258 => ?_
          obtain ⟨t251, rfl, g252, K253, A254, E255⟩ := q258
          have z259 : Z.heap.size ≤ t251 := Nat.le_trans (Nat.le_trans hle K244.1) g252
          refine Go.astore 98 rfl at_96 rfl (Ls' := #[.val (.int i0), .val (.int i1), .val (.int i2), .val (.int i3), .val (.int i4), .val (.int (0 : Int32)), .val (.int (2 : Int32)), .val (.int v103), .val (.int ea), .val (.int v105), .val (.int ec), .val (.ref t242), .val (.ref t251), .unset]) rfl ?_
          refine Go.newO 101 rfl 5 6 7 at_98 rfl rfl rfl (by decide) (by decide) fun h261 a260 g262 z263 K264 E265 D266 => ?_
          refine Go.dup 102 rfl at_101 rfl ?_
          refine Go.aload 104 rfl at_102 rfl rfl ?_
          refine Go.aload 106 rfl at_104 rfl rfl ?_
          have kc273 : Keep h0 h261 [] := ((((Keep.refl h0 []).trans K244 all0).trans K253 all0).trans K264 all0)
          have sz274 := (Nat.le_trans K244.1 K253.1)
          refine Go.callIH 109 rfl (C := B2) a260 [.ref t242, .ref t251] (rest := [.ref a260]) 8 9 7 10 (c2 Z hw h261 a260 t242 t251 z263 E265 (D266 32 (Or.inr rfl) (ty := (.array .byte)) (by decide) : Fld Z h261 a260 "com/example/umweg/umweg/core/Field" "name" "[B" (.null)) (D266 34 (Or.inr rfl) (ty := (.array .byte)) (by decide) : Fld Z h261 a260 "com/example/umweg/umweg/core/Field" "value" "[B" (.null))) at_106 rfl rfl rfl rfl rfl rfl (by decide) pd2 rfl rfl rfl (W := 1) (lb rfl) (by decide) (by decide) (by decide) (by decide) [] kc273 (fun _ q => q) (allS ⟨(Or.inr (Nat.le_trans sz274 (Nat.le_of_eq g262.symm))), E265.lt⟩ all0) all0 fun v270 h271 q272 => ?_
          obtain ⟨rfl, K267, F268, F269⟩ := q272
          have ne275 : t242 ≠ a260 := (show @Ne Nat t242 a260 from by have := ltN E246.lt; have := K253.1; have := g262; omega)
          have F276 : Ary Z h271 t242 .byte [] := (((A245.keep K253 nin0).keep K264 nin0).keep K267 (ninS ne275 nin0))
          have ne277 : t251 ≠ a260 := (show @Ne Nat t251 a260 from by have := ltN E255.lt; have := g262; omega)
          have F278 : Ary Z h271 t251 .byte [.int q0, .int q1] := ((A254.keep K264 nin0).keep K267 (ninS ne277 nin0))
          have F279 : Exa Z h271 t242 "[B" := (((E246.keep K253).keep K264).keep K267)
          have F280 : Exa Z h271 t251 "[B" := ((E255.keep K264).keep K267)
          have F281 : Exa Z h271 m "sun/nio/cs/UTF_8" := ((((hM.keep K244).keep K253).keep K264).keep K267)
          have F290 : Exa Z h271 a260 "com/example/umweg/umweg/core/Field" := (E265.keep K267)
          refine Go.callVH 112 rfl (C := B6) a260 [] (rest := []) 35 36 38 37 7 39 (c6tzp Z hw h271 a260 [z0, z1] [.int q0, .int q1] (lb rfl) cs hS hcs hAs hHi hLo hfm m hU hU8 t242 t251 (fun h a g1 g2 g3 g4 g5 g6 g7 => c9w2 Z hw h a t251 m z0 z1 q0 q1 hdq0 hlq0 hdq1 hlq1 hnm cs hS hcs hAs hHi hLo hfm hU g1 g2 g3 g4 g5 g6 g7) F268 F269 F276 F278 F279 F280 F281) F290 at_109 rfl rfl rfl rfl rfl rfl (by decide) pd6 rfl rfl rfl (W := 0) (lb rfl) (by decide) (by decide) (by decide) (by decide) [] (Keep.refl h271 []) (fun _ q => q) all0 all0 fun v287 h288 q289 => ?_
          obtain ⟨a282, t283, rfl, g284, K285, D286⟩ := q289
          have sz292 := (Nat.le_trans sz274 K264.1)
          have sz293 := (Nat.le_trans sz292 K267.1)
          have z291 : Z.heap.size ≤ a282 := Nat.le_trans (Nat.le_trans hle sz293) g284
          refine Go.astore 114 rfl at_112 rfl (Ls' := #[.val (.int i0), .val (.int i1), .val (.int i2), .val (.int i3), .val (.int i4), .val (.int (0 : Int32)), .val (.int (2 : Int32)), .val (.int v103), .val (.int ea), .val (.int v105), .val (.int ec), .val (.ref t242), .val (.ref t251), .val (.ref a282)]) rfl ?_
          refine Go.aload 116 rfl at_114 rfl rfl ?_
          refine Go.callV 119 rfl (C := B13) a282 [] (rest := []) 171 88 90 89 20 91 (c13d Z hw h288 a282 3 [(61 : Int32), z0, z1] rfl (by decide) cs hS hcs t283 D286) D286.1 at_116 rfl rfl rfl rfl rfl rfl (by decide) pd13 rfl rfl rfl (W := 0) (lb rfl) (by decide) (by decide) (by decide) (by decide) fun v294 h295 q296 => ?_
          obtain ⟨rfl, rfl⟩ := q296
          refine Go.iload 121 rfl at_119 rfl ?_
          refine Go.iload 123 rfl at_121 rfl ?_
          refine Go.iadd 124 rfl at_123 ?_
          refine Go.iconst 125 rfl (1 : Int32) at_124 rfl ?_
          refine Go.iadd 126 rfl at_125 ?_
          refine Go.icmp_eq 131 129 at_126 (by decide) rfl rfl (fun (b297 : (3 : Int32) = (((0 : Int32) + (2 : Int32)) + (1 : Int32))) => ?_) (fun (b297 : ¬ (3 : Int32) = (((0 : Int32) + (2 : Int32)) + (1 : Int32))) => ?_)
          · refine Go.iload 133 rfl at_131 rfl ?_
            refine Go.iconst 134 rfl (1 : Int32) at_133 rfl ?_
            refine Go.icmp_lt 153 137 at_134 (by decide) rfl rfl (fun (b298 : (0 : Int32) < (1 : Int32)) => ?_) (fun (b298 : ¬ (0 : Int32) < (1 : Int32)) => ?_)
            · refine Go.iload 155 rfl at_153 rfl ?_
              refine Go.iconst 156 rfl (2 : Int32) at_155 rfl ?_
              refine Go.icmp_lt 175 159 at_156 (by decide) rfl rfl (fun (b299 : (0 : Int32) < (2 : Int32)) => ?_) (fun (b299 : ¬ (0 : Int32) < (2 : Int32)) => ?_)
              · refine Go.aload 177 rfl at_175 rfl rfl ?_
                refine Go.iload 179 rfl at_177 rfl ?_
                refine Go.callV 182 rfl (C := B30) a282 [.int (0 : Int32)] (rest := []) 172 173 175 174 20 176 (c30d Z hw h288 a282 (jn := 0) (0 : Int32) (61 : Int32) 3 [(61 : Int32), z0, z1] rfl (by decide) (by decide) rfl cs hS hcs hAs hHi hLo hfm t283 rfl (by decide) own_c61 D286) D286.1 at_179 rfl rfl rfl rfl rfl rfl (by decide) pd30 rfl rfl rfl (W := 0) (lb rfl) (by decide) (by decide) (by decide) (by decide) fun v300 h301 q302 => ?_
                obtain ⟨rfl, rfl⟩ := q302
                refine Go.bipush 184 rfl (61 : Int32) at_182 rfl ?_
                refine Go.icmp_eq 189 187 at_184 (by decide) rfl rfl (fun (b303 : (61 : Int32) = (61 : Int32)) => ?_) (fun (b303 : ¬ (61 : Int32) = (61 : Int32)) => ?_)
                · refine Go.iload 191 rfl at_189 rfl ?_
                  refine Go.iconst 192 rfl (1 : Int32) at_191 rfl ?_
                  refine Go.icmp_lt 214 195 at_192 (by decide) rfl rfl (fun (b304 : (2 : Int32) < (1 : Int32)) => ?_) (fun (b304 : ¬ (2 : Int32) < (1 : Int32)) => ?_)
                  · exact absurd b304 (show ¬ (2 : Int32) < (1 : Int32) from (by decide))
                  · refine Go.aload 197 rfl at_195 rfl rfl ?_
                    refine Go.iload 199 rfl at_197 rfl ?_
                    refine Go.iconst 200 rfl (1 : Int32) at_199 rfl ?_
                    refine Go.iadd 201 rfl at_200 ?_
                    refine Go.callV 204 rfl (C := B30) a282 [.int ((0 : Int32) + (1 : Int32))] (rest := []) 172 173 175 174 20 176 (c30d Z hw h288 a282 (jn := 1) ((0 : Int32) + (1 : Int32)) z0 3 [(61 : Int32), z0, z1] rfl (by decide) (by decide) rfl cs hS hcs hAs hHi hLo hfm t283 rfl (by decide) (own_chd hxq0) D286) D286.1 at_201 rfl rfl rfl rfl rfl rfl (by decide) pd30 rfl rfl rfl (W := 0) (lb rfl) (by decide) (by decide) (by decide) (by decide) fun v305 h306 q307 => ?_
                    obtain ⟨rfl, rfl⟩ := q307
                    refine Go.iload 206 rfl at_204 rfl ?_
                    refine Go.callS 209 rfl (C := B36) [.int v105] (rest := [.int z0]) 209 210 2 211 (c36 Z hw h288 v105 z0 hxq0) at_206 rfl rfl rfl rfl (by decide) pd36 rfl rfl rfl (W := 1) (lb rfl) (by decide) (by decide) (by decide) (by decide) fun v308 h309 q310 => ?_
                    obtain ⟨rfl, rfl⟩ := q310
                    refine Go.icmp_eq 214 212 at_209 (by decide) rfl rfl (fun (b311 : z0 = z0) => ?_) (fun (b311 : ¬ z0 = z0) => ?_)
                    · refine Go.iload 216 rfl at_214 rfl ?_
                      refine Go.iconst 217 rfl (2 : Int32) at_216 rfl ?_
                      refine Go.icmp_lt 239 220 at_217 (by decide) rfl rfl (fun (b312 : (2 : Int32) < (2 : Int32)) => ?_) (fun (b312 : ¬ (2 : Int32) < (2 : Int32)) => ?_)
                      · exact absurd b312 (show ¬ (2 : Int32) < (2 : Int32) from (by decide))
                      · refine Go.aload 222 rfl at_220 rfl rfl ?_
                        refine Go.iload 224 rfl at_222 rfl ?_
                        refine Go.iconst 225 rfl (2 : Int32) at_224 rfl ?_
                        refine Go.iadd 226 rfl at_225 ?_
                        refine Go.callV 229 rfl (C := B30) a282 [.int ((0 : Int32) + (2 : Int32))] (rest := []) 172 173 175 174 20 176 (c30d Z hw h288 a282 (jn := 2) ((0 : Int32) + (2 : Int32)) z1 3 [(61 : Int32), z0, z1] rfl (by decide) (by decide) rfl cs hS hcs hAs hHi hLo hfm t283 rfl (by decide) (own_chd hxq1) D286) D286.1 at_226 rfl rfl rfl rfl rfl rfl (by decide) pd30 rfl rfl rfl (W := 0) (lb rfl) (by decide) (by decide) (by decide) (by decide) fun v313 h314 q315 => ?_
                        obtain ⟨rfl, rfl⟩ := q315
                        refine Go.iload 231 rfl at_229 rfl ?_
                        refine Go.callS 234 rfl (C := B36) [.int ec] (rest := [.int z1]) 209 210 2 211 (c36 Z hw h288 ec z1 hxq1) at_231 rfl rfl rfl rfl (by decide) pd36 rfl rfl rfl (W := 1) (lb rfl) (by decide) (by decide) (by decide) (by decide) fun v316 h317 q318 => ?_
                        obtain ⟨rfl, rfl⟩ := q318
                        refine Go.icmp_eq 239 237 at_234 (by decide) rfl rfl (fun (b319 : z1 = z1) => ?_) (fun (b319 : ¬ z1 = z1) => ?_)
                        · refine Go.iconst 240 rfl (1 : Int32) at_239 rfl ?_
                          exact Go.retN (t := .boolean) (z' := 1) at_240 rfl (by decide) (by decide) (by decide) (by decide) (Keep.refl h288 []) (fun _ q => q) rfl
                        · exact absurd (show z1 = z1 from rfl) b319
                    · exact absurd (show z0 = z0 from rfl) b311
                · exact absurd (show (61 : Int32) = (61 : Int32) from (by decide)) b303
              · exact absurd (show (0 : Int32) < (2 : Int32) from (by decide)) b299
            · exact absurd (show (0 : Int32) < (1 : Int32) from (by decide)) b298
          · exact absurd (show (3 : Int32) = (((0 : Int32) + (2 : Int32)) + (1 : Int32)) from (by decide)) b297
      · rcases own_n3 hv102 with rfl | rfl | rfl
        · refine Go.iload 78 rfl at_76 rfl ?_
          refine Go.iload 80 rfl at_78 rfl ?_
          refine Go.iload 82 rfl at_80 rfl ?_
          refine Go.callS 85 rfl (C := B1) [.int (1 : Int32), .int v103, .int ea] (rest := []) 0 1 2 3 (c1n1 Z hw h0 v103 ea p0 hbp0) at_82 rfl rfl rfl rfl (by decide) pd1 rfl rfl rfl (W := 0) (lb rfl) (by decide) (by decide) (by decide) (by decide) fun v325 h326 q327 => ?_
          obtain ⟨t320, rfl, g321, K322, A323, E324⟩ := q327
          have z328 : Z.heap.size ≤ t320 := Nat.le_trans hle g321
          refine Go.astore 87 rfl at_85 rfl (Ls' := #[.val (.int i0), .val (.int i1), .val (.int i2), .val (.int i3), .val (.int i4), .val (.int (1 : Int32)), .val (.int (0 : Int32)), .val (.int v103), .val (.int ea), .val (.int v105), .val (.int ec), .val (.ref t320), .unset, .unset]) rfl ?_
          refine Go.iload 89 rfl at_87 rfl ?_
          refine Go.iload 91 rfl at_89 rfl ?_
          refine Go.iload 93 rfl at_91 rfl ?_
          refine Go.callS 96 rfl (C := B1) [.int (0 : Int32), .int v105, .int ec] (rest := []) 0 1 2 3 (c1n0 Z hw h326 v105 ec  ) at_93 rfl rfl rfl rfl (by decide) pd1 rfl rfl rfl (W := 0) (lb rfl) (by decide) (by decide) (by decide) (by decide) fun v334 h335 q336 => ?_
          obtain ⟨t329, rfl, g330, K331, A332, E333⟩ := q336
          have z337 : Z.heap.size ≤ t329 := Nat.le_trans (Nat.le_trans hle K322.1) g330
          refine Go.astore 98 rfl at_96 rfl (Ls' := #[.val (.int i0), .val (.int i1), .val (.int i2), .val (.int i3), .val (.int i4), .val (.int (1 : Int32)), .val (.int (0 : Int32)), .val (.int v103), .val (.int ea), .val (.int v105), .val (.int ec), .val (.ref t320), .val (.ref t329), .unset]) rfl ?_
          refine Go.newO 101 rfl 5 6 7 at_98 rfl rfl rfl (by decide) (by decide) fun h339 a338 g340 z341 K342 E343 D344 => ?_
          refine Go.dup 102 rfl at_101 rfl ?_
          refine Go.aload 104 rfl at_102 rfl rfl ?_
          refine Go.aload 106 rfl at_104 rfl rfl ?_
          have kc351 : Keep h0 h339 [] := ((((Keep.refl h0 []).trans K322 all0).trans K331 all0).trans K342 all0)
          have sz352 := (Nat.le_trans K322.1 K331.1)
          refine Go.callIH 109 rfl (C := B2) a338 [.ref t320, .ref t329] (rest := [.ref a338]) 8 9 7 10 (c2 Z hw h339 a338 t320 t329 z341 E343 (D344 32 (Or.inr rfl) (ty := (.array .byte)) (by decide) : Fld Z h339 a338 "com/example/umweg/umweg/core/Field" "name" "[B" (.null)) (D344 34 (Or.inr rfl) (ty := (.array .byte)) (by decide) : Fld Z h339 a338 "com/example/umweg/umweg/core/Field" "value" "[B" (.null))) at_106 rfl rfl rfl rfl rfl rfl (by decide) pd2 rfl rfl rfl (W := 1) (lb rfl) (by decide) (by decide) (by decide) (by decide) [] kc351 (fun _ q => q) (allS ⟨(Or.inr (Nat.le_trans sz352 (Nat.le_of_eq g340.symm))), E343.lt⟩ all0) all0 fun v348 h349 q350 => ?_
          obtain ⟨rfl, K345, F346, F347⟩ := q350
          have ne353 : t320 ≠ a338 := (show @Ne Nat t320 a338 from by have := ltN E324.lt; have := K331.1; have := g340; omega)
          have F354 : Ary Z h349 t320 .byte [.int p0] := (((A323.keep K331 nin0).keep K342 nin0).keep K345 (ninS ne353 nin0))
          have ne355 : t329 ≠ a338 := (show @Ne Nat t329 a338 from by have := ltN E333.lt; have := g340; omega)
          have F356 : Ary Z h349 t329 .byte [] := ((A332.keep K342 nin0).keep K345 (ninS ne355 nin0))
          have F357 : Exa Z h349 t320 "[B" := (((E324.keep K331).keep K342).keep K345)
          have F358 : Exa Z h349 t329 "[B" := ((E333.keep K342).keep K345)
          have F359 : Exa Z h349 m "sun/nio/cs/UTF_8" := ((((hM.keep K322).keep K331).keep K342).keep K345)
          have F368 : Exa Z h349 a338 "com/example/umweg/umweg/core/Field" := (E343.keep K345)
          refine Go.callVH 112 rfl (C := B6) a338 [] (rest := []) 35 36 38 37 7 39 (c6tpz Z hw h349 a338 [x0] [.int p0] (lb rfl) cs hS hcs hAs hHi hLo hfm m hU hU8 t320 t329 (fun h a g1 g2 g3 g4 g5 g6 g7 => c9w1 Z hw h a t320 m x0 p0 hdp0 hlp0  cs hS hcs hAs hHi hLo hfm hU g1 g2 g3 g4 g5 g6 g7) F346 F347 F354 F356 F357 F358 F359) F368 at_109 rfl rfl rfl rfl rfl rfl (by decide) pd6 rfl rfl rfl (W := 0) (lb rfl) (by decide) (by decide) (by decide) (by decide) [] (Keep.refl h349 []) (fun _ q => q) all0 all0 fun v365 h366 q367 => ?_
          obtain ⟨a360, t361, rfl, g362, K363, D364⟩ := q367
          have sz370 := (Nat.le_trans sz352 K342.1)
          have sz371 := (Nat.le_trans sz370 K345.1)
          have z369 : Z.heap.size ≤ a360 := Nat.le_trans (Nat.le_trans hle sz371) g362
          refine Go.astore 114 rfl at_112 rfl (Ls' := #[.val (.int i0), .val (.int i1), .val (.int i2), .val (.int i3), .val (.int i4), .val (.int (1 : Int32)), .val (.int (0 : Int32)), .val (.int v103), .val (.int ea), .val (.int v105), .val (.int ec), .val (.ref t320), .val (.ref t329), .val (.ref a360)]) rfl ?_
          refine Go.aload 116 rfl at_114 rfl rfl ?_
          refine Go.callV 119 rfl (C := B13) a360 [] (rest := []) 171 88 90 89 20 91 (c13d Z hw h366 a360 2 [x0, (61 : Int32)] rfl (by decide) cs hS hcs t361 D364) D364.1 at_116 rfl rfl rfl rfl rfl rfl (by decide) pd13 rfl rfl rfl (W := 0) (lb rfl) (by decide) (by decide) (by decide) (by decide) fun v372 h373 q374 => ?_
          obtain ⟨rfl, rfl⟩ := q374
          refine Go.iload 121 rfl at_119 rfl ?_
          refine Go.iload 123 rfl at_121 rfl ?_
          refine Go.iadd 124 rfl at_123 ?_
          refine Go.iconst 125 rfl (1 : Int32) at_124 rfl ?_
          refine Go.iadd 126 rfl at_125 ?_
          refine Go.icmp_eq 131 129 at_126 (by decide) rfl rfl (fun (b375 : (2 : Int32) = (((1 : Int32) + (0 : Int32)) + (1 : Int32))) => ?_) (fun (b375 : ¬ (2 : Int32) = (((1 : Int32) + (0 : Int32)) + (1 : Int32))) => ?_)
          · refine Go.iload 133 rfl at_131 rfl ?_
            refine Go.iconst 134 rfl (1 : Int32) at_133 rfl ?_
            refine Go.icmp_lt 153 137 at_134 (by decide) rfl rfl (fun (b376 : (1 : Int32) < (1 : Int32)) => ?_) (fun (b376 : ¬ (1 : Int32) < (1 : Int32)) => ?_)
            · exact absurd b376 (show ¬ (1 : Int32) < (1 : Int32) from (by decide))
            · refine Go.aload 139 rfl at_137 rfl rfl ?_
              refine Go.iconst 140 rfl (0 : Int32) at_139 rfl ?_
              refine Go.callV 143 rfl (C := B30) a360 [.int (0 : Int32)] (rest := []) 172 173 175 174 20 176 (c30d Z hw h366 a360 (jn := 0) (0 : Int32) x0 2 [x0, (61 : Int32)] rfl (by decide) (by decide) rfl cs hS hcs hAs hHi hLo hfm t361 rfl (by decide) (own_chd hxp0) D364) D364.1 at_140 rfl rfl rfl rfl rfl rfl (by decide) pd30 rfl rfl rfl (W := 0) (lb rfl) (by decide) (by decide) (by decide) (by decide) fun v377 h378 q379 => ?_
              obtain ⟨rfl, rfl⟩ := q379
              refine Go.iload 145 rfl at_143 rfl ?_
              refine Go.callS 148 rfl (C := B36) [.int v103] (rest := [.int x0]) 209 210 2 211 (c36 Z hw h366 v103 x0 hxp0) at_145 rfl rfl rfl rfl (by decide) pd36 rfl rfl rfl (W := 1) (lb rfl) (by decide) (by decide) (by decide) (by decide) fun v380 h381 q382 => ?_
              obtain ⟨rfl, rfl⟩ := q382
              refine Go.icmp_eq 153 151 at_148 (by decide) rfl rfl (fun (b383 : x0 = x0) => ?_) (fun (b383 : ¬ x0 = x0) => ?_)
              · refine Go.iload 155 rfl at_153 rfl ?_
                refine Go.iconst 156 rfl (2 : Int32) at_155 rfl ?_
                refine Go.icmp_lt 175 159 at_156 (by decide) rfl rfl (fun (b384 : (1 : Int32) < (2 : Int32)) => ?_) (fun (b384 : ¬ (1 : Int32) < (2 : Int32)) => ?_)
                · refine Go.aload 177 rfl at_175 rfl rfl ?_
                  refine Go.iload 179 rfl at_177 rfl ?_
                  refine Go.callV 182 rfl (C := B30) a360 [.int (1 : Int32)] (rest := []) 172 173 175 174 20 176 (c30d Z hw h366 a360 (jn := 1) (1 : Int32) (61 : Int32) 2 [x0, (61 : Int32)] rfl (by decide) (by decide) rfl cs hS hcs hAs hHi hLo hfm t361 rfl (by decide) own_c61 D364) D364.1 at_179 rfl rfl rfl rfl rfl rfl (by decide) pd30 rfl rfl rfl (W := 0) (lb rfl) (by decide) (by decide) (by decide) (by decide) fun v385 h386 q387 => ?_
                  obtain ⟨rfl, rfl⟩ := q387
                  refine Go.bipush 184 rfl (61 : Int32) at_182 rfl ?_
                  refine Go.icmp_eq 189 187 at_184 (by decide) rfl rfl (fun (b388 : (61 : Int32) = (61 : Int32)) => ?_) (fun (b388 : ¬ (61 : Int32) = (61 : Int32)) => ?_)
                  · refine Go.iload 191 rfl at_189 rfl ?_
                    refine Go.iconst 192 rfl (1 : Int32) at_191 rfl ?_
                    refine Go.icmp_lt 214 195 at_192 (by decide) rfl rfl (fun (b389 : (0 : Int32) < (1 : Int32)) => ?_) (fun (b389 : ¬ (0 : Int32) < (1 : Int32)) => ?_)
                    · refine Go.iload 216 rfl at_214 rfl ?_
                      refine Go.iconst 217 rfl (2 : Int32) at_216 rfl ?_
                      refine Go.icmp_lt 239 220 at_217 (by decide) rfl rfl (fun (b390 : (0 : Int32) < (2 : Int32)) => ?_) (fun (b390 : ¬ (0 : Int32) < (2 : Int32)) => ?_)
                      · refine Go.iconst 240 rfl (1 : Int32) at_239 rfl ?_
                        exact Go.retN (t := .boolean) (z' := 1) at_240 rfl (by decide) (by decide) (by decide) (by decide) (Keep.refl h366 []) (fun _ q => q) rfl
                      · exact absurd (show (0 : Int32) < (2 : Int32) from (by decide)) b390
                    · exact absurd (show (0 : Int32) < (1 : Int32) from (by decide)) b389
                  · exact absurd (show (61 : Int32) = (61 : Int32) from (by decide)) b388
                · exact absurd (show (1 : Int32) < (2 : Int32) from (by decide)) b384
              · exact absurd (show x0 = x0 from rfl) b383
          · exact absurd (show (2 : Int32) = (((1 : Int32) + (0 : Int32)) + (1 : Int32)) from (by decide)) b375
        · refine Go.iload 78 rfl at_76 rfl ?_
          refine Go.iload 80 rfl at_78 rfl ?_
          refine Go.iload 82 rfl at_80 rfl ?_
          refine Go.callS 85 rfl (C := B1) [.int (1 : Int32), .int v103, .int ea] (rest := []) 0 1 2 3 (c1n1 Z hw h0 v103 ea p0 hbp0) at_82 rfl rfl rfl rfl (by decide) pd1 rfl rfl rfl (W := 0) (lb rfl) (by decide) (by decide) (by decide) (by decide) fun v396 h397 q398 => ?_
          obtain ⟨t391, rfl, g392, K393, A394, E395⟩ := q398
          have z399 : Z.heap.size ≤ t391 := Nat.le_trans hle g392
          refine Go.astore 87 rfl at_85 rfl (Ls' := #[.val (.int i0), .val (.int i1), .val (.int i2), .val (.int i3), .val (.int i4), .val (.int (1 : Int32)), .val (.int (1 : Int32)), .val (.int v103), .val (.int ea), .val (.int v105), .val (.int ec), .val (.ref t391), .unset, .unset]) rfl ?_
          refine Go.iload 89 rfl at_87 rfl ?_
          refine Go.iload 91 rfl at_89 rfl ?_
          refine Go.iload 93 rfl at_91 rfl ?_
          refine Go.callS 96 rfl (C := B1) [.int (1 : Int32), .int v105, .int ec] (rest := []) 0 1 2 3 (c1n1 Z hw h397 v105 ec q0 hbq0) at_93 rfl rfl rfl rfl (by decide) pd1 rfl rfl rfl (W := 0) (lb rfl) (by decide) (by decide) (by decide) (by decide) fun v405 h406 q407 => ?_
          obtain ⟨t400, rfl, g401, K402, A403, E404⟩ := q407
          have z408 : Z.heap.size ≤ t400 := Nat.le_trans (Nat.le_trans hle K393.1) g401
          refine Go.astore 98 rfl at_96 rfl (Ls' := #[.val (.int i0), .val (.int i1), .val (.int i2), .val (.int i3), .val (.int i4), .val (.int (1 : Int32)), .val (.int (1 : Int32)), .val (.int v103), .val (.int ea), .val (.int v105), .val (.int ec), .val (.ref t391), .val (.ref t400), .unset]) rfl ?_
          refine Go.newO 101 rfl 5 6 7 at_98 rfl rfl rfl (by decide) (by decide) fun h410 a409 g411 z412 K413 E414 D415 => ?_
          refine Go.dup 102 rfl at_101 rfl ?_
          refine Go.aload 104 rfl at_102 rfl rfl ?_
          refine Go.aload 106 rfl at_104 rfl rfl ?_
          have kc422 : Keep h0 h410 [] := ((((Keep.refl h0 []).trans K393 all0).trans K402 all0).trans K413 all0)
          have sz423 := (Nat.le_trans K393.1 K402.1)
          refine Go.callIH 109 rfl (C := B2) a409 [.ref t391, .ref t400] (rest := [.ref a409]) 8 9 7 10 (c2 Z hw h410 a409 t391 t400 z412 E414 (D415 32 (Or.inr rfl) (ty := (.array .byte)) (by decide) : Fld Z h410 a409 "com/example/umweg/umweg/core/Field" "name" "[B" (.null)) (D415 34 (Or.inr rfl) (ty := (.array .byte)) (by decide) : Fld Z h410 a409 "com/example/umweg/umweg/core/Field" "value" "[B" (.null))) at_106 rfl rfl rfl rfl rfl rfl (by decide) pd2 rfl rfl rfl (W := 1) (lb rfl) (by decide) (by decide) (by decide) (by decide) [] kc422 (fun _ q => q) (allS ⟨(Or.inr (Nat.le_trans sz423 (Nat.le_of_eq g411.symm))), E414.lt⟩ all0) all0 fun v419 h420 q421 => ?_
          obtain ⟨rfl, K416, F417, F418⟩ := q421
          have ne424 : t391 ≠ a409 := (show @Ne Nat t391 a409 from by have := ltN E395.lt; have := K402.1; have := g411; omega)
          have F425 : Ary Z h420 t391 .byte [.int p0] := (((A394.keep K402 nin0).keep K413 nin0).keep K416 (ninS ne424 nin0))
          have ne426 : t400 ≠ a409 := (show @Ne Nat t400 a409 from by have := ltN E404.lt; have := g411; omega)
          have F427 : Ary Z h420 t400 .byte [.int q0] := ((A403.keep K413 nin0).keep K416 (ninS ne426 nin0))
          have F428 : Exa Z h420 t391 "[B" := (((E395.keep K402).keep K413).keep K416)
          have F429 : Exa Z h420 t400 "[B" := ((E404.keep K413).keep K416)
          have F430 : Exa Z h420 m "sun/nio/cs/UTF_8" := ((((hM.keep K393).keep K402).keep K413).keep K416)
          have F439 : Exa Z h420 a409 "com/example/umweg/umweg/core/Field" := (E414.keep K416)
          refine Go.callVH 112 rfl (C := B6) a409 [] (rest := []) 35 36 38 37 7 39 (c6tpp Z hw h420 a409 [x0] [z0] [.int p0] (lb rfl) [.int q0] (lb rfl) cs hS hcs hAs hHi hLo hfm m hU hU8 t391 t400 (fun h a g1 g2 g3 g4 g5 g6 g7 => c9w1 Z hw h a t391 m x0 p0 hdp0 hlp0  cs hS hcs hAs hHi hLo hfm hU g1 g2 g3 g4 g5 g6 g7) (fun h a g1 g2 g3 g4 g5 g6 g7 => c9w1 Z hw h a t400 m z0 q0 hdq0 hlq0  cs hS hcs hAs hHi hLo hfm hU g1 g2 g3 g4 g5 g6 g7) F417 F418 F425 F427 F428 F429 F430) F439 at_109 rfl rfl rfl rfl rfl rfl (by decide) pd6 rfl rfl rfl (W := 0) (lb rfl) (by decide) (by decide) (by decide) (by decide) [] (Keep.refl h420 []) (fun _ q => q) all0 all0 fun v436 h437 q438 => ?_
          obtain ⟨a431, t432, rfl, g433, K434, D435⟩ := q438
          have sz441 := (Nat.le_trans sz423 K413.1)
          have sz442 := (Nat.le_trans sz441 K416.1)
          have z440 : Z.heap.size ≤ a431 := Nat.le_trans (Nat.le_trans hle sz442) g433
          refine Go.astore 114 rfl at_112 rfl (Ls' := #[.val (.int i0), .val (.int i1), .val (.int i2), .val (.int i3), .val (.int i4), .val (.int (1 : Int32)), .val (.int (1 : Int32)), .val (.int v103), .val (.int ea), .val (.int v105), .val (.int ec), .val (.ref t391), .val (.ref t400), .val (.ref a431)]) rfl ?_
          refine Go.aload 116 rfl at_114 rfl rfl ?_
          refine Go.callV 119 rfl (C := B13) a431 [] (rest := []) 171 88 90 89 20 91 (c13d Z hw h437 a431 3 [x0, (61 : Int32), z0] rfl (by decide) cs hS hcs t432 D435) D435.1 at_116 rfl rfl rfl rfl rfl rfl (by decide) pd13 rfl rfl rfl (W := 0) (lb rfl) (by decide) (by decide) (by decide) (by decide) fun v443 h444 q445 => ?_
          obtain ⟨rfl, rfl⟩ := q445
          refine Go.iload 121 rfl at_119 rfl ?_
          refine Go.iload 123 rfl at_121 rfl ?_
          refine Go.iadd 124 rfl at_123 ?_
          refine Go.iconst 125 rfl (1 : Int32) at_124 rfl ?_
          refine Go.iadd 126 rfl at_125 ?_
          refine Go.icmp_eq 131 129 at_126 (by decide) rfl rfl (fun (b446 : (3 : Int32) = (((1 : Int32) + (1 : Int32)) + (1 : Int32))) => ?_) (fun (b446 : ¬ (3 : Int32) = (((1 : Int32) + (1 : Int32)) + (1 : Int32))) => ?_)
          · refine Go.iload 133 rfl at_131 rfl ?_
            refine Go.iconst 134 rfl (1 : Int32) at_133 rfl ?_
            refine Go.icmp_lt 153 137 at_134 (by decide) rfl rfl (fun (b447 : (1 : Int32) < (1 : Int32)) => ?_) (fun (b447 : ¬ (1 : Int32) < (1 : Int32)) => ?_)
            · exact absurd b447 (show ¬ (1 : Int32) < (1 : Int32) from (by decide))
            · refine Go.aload 139 rfl at_137 rfl rfl ?_
              refine Go.iconst 140 rfl (0 : Int32) at_139 rfl ?_
              refine Go.callV 143 rfl (C := B30) a431 [.int (0 : Int32)] (rest := []) 172 173 175 174 20 176 (c30d Z hw h437 a431 (jn := 0) (0 : Int32) x0 3 [x0, (61 : Int32), z0] rfl (by decide) (by decide) rfl cs hS hcs hAs hHi hLo hfm t432 rfl (by decide) (own_chd hxp0) D435) D435.1 at_140 rfl rfl rfl rfl rfl rfl (by decide) pd30 rfl rfl rfl (W := 0) (lb rfl) (by decide) (by decide) (by decide) (by decide) fun v448 h449 q450 => ?_
              obtain ⟨rfl, rfl⟩ := q450
              refine Go.iload 145 rfl at_143 rfl ?_
              refine Go.callS 148 rfl (C := B36) [.int v103] (rest := [.int x0]) 209 210 2 211 (c36 Z hw h437 v103 x0 hxp0) at_145 rfl rfl rfl rfl (by decide) pd36 rfl rfl rfl (W := 1) (lb rfl) (by decide) (by decide) (by decide) (by decide) fun v451 h452 q453 => ?_
              obtain ⟨rfl, rfl⟩ := q453
              refine Go.icmp_eq 153 151 at_148 (by decide) rfl rfl (fun (b454 : x0 = x0) => ?_) (fun (b454 : ¬ x0 = x0) => ?_)
              · refine Go.iload 155 rfl at_153 rfl ?_
                refine Go.iconst 156 rfl (2 : Int32) at_155 rfl ?_
                refine Go.icmp_lt 175 159 at_156 (by decide) rfl rfl (fun (b455 : (1 : Int32) < (2 : Int32)) => ?_) (fun (b455 : ¬ (1 : Int32) < (2 : Int32)) => ?_)
                · refine Go.aload 177 rfl at_175 rfl rfl ?_
                  refine Go.iload 179 rfl at_177 rfl ?_
                  refine Go.callV 182 rfl (C := B30) a431 [.int (1 : Int32)] (rest := []) 172 173 175 174 20 176 (c30d Z hw h437 a431 (jn := 1) (1 : Int32) (61 : Int32) 3 [x0, (61 : Int32), z0] rfl (by decide) (by decide) rfl cs hS hcs hAs hHi hLo hfm t432 rfl (by decide) own_c61 D435) D435.1 at_179 rfl rfl rfl rfl rfl rfl (by decide) pd30 rfl rfl rfl (W := 0) (lb rfl) (by decide) (by decide) (by decide) (by decide) fun v456 h457 q458 => ?_
                  obtain ⟨rfl, rfl⟩ := q458
                  refine Go.bipush 184 rfl (61 : Int32) at_182 rfl ?_
                  refine Go.icmp_eq 189 187 at_184 (by decide) rfl rfl (fun (b459 : (61 : Int32) = (61 : Int32)) => ?_) (fun (b459 : ¬ (61 : Int32) = (61 : Int32)) => ?_)
                  · refine Go.iload 191 rfl at_189 rfl ?_
                    refine Go.iconst 192 rfl (1 : Int32) at_191 rfl ?_
                    refine Go.icmp_lt 214 195 at_192 (by decide) rfl rfl (fun (b460 : (1 : Int32) < (1 : Int32)) => ?_) (fun (b460 : ¬ (1 : Int32) < (1 : Int32)) => ?_)
                    · exact absurd b460 (show ¬ (1 : Int32) < (1 : Int32) from (by decide))
                    · refine Go.aload 197 rfl at_195 rfl rfl ?_
                      refine Go.iload 199 rfl at_197 rfl ?_
                      refine Go.iconst 200 rfl (1 : Int32) at_199 rfl ?_
                      refine Go.iadd 201 rfl at_200 ?_
                      refine Go.callV 204 rfl (C := B30) a431 [.int ((1 : Int32) + (1 : Int32))] (rest := []) 172 173 175 174 20 176 (c30d Z hw h437 a431 (jn := 2) ((1 : Int32) + (1 : Int32)) z0 3 [x0, (61 : Int32), z0] rfl (by decide) (by decide) rfl cs hS hcs hAs hHi hLo hfm t432 rfl (by decide) (own_chd hxq0) D435) D435.1 at_201 rfl rfl rfl rfl rfl rfl (by decide) pd30 rfl rfl rfl (W := 0) (lb rfl) (by decide) (by decide) (by decide) (by decide) fun v461 h462 q463 => ?_
                      obtain ⟨rfl, rfl⟩ := q463
                      refine Go.iload 206 rfl at_204 rfl ?_
                      refine Go.callS 209 rfl (C := B36) [.int v105] (rest := [.int z0]) 209 210 2 211 (c36 Z hw h437 v105 z0 hxq0) at_206 rfl rfl rfl rfl (by decide) pd36 rfl rfl rfl (W := 1) (lb rfl) (by decide) (by decide) (by decide) (by decide) fun v464 h465 q466 => ?_
                      obtain ⟨rfl, rfl⟩ := q466
                      refine Go.icmp_eq 214 212 at_209 (by decide) rfl rfl (fun (b467 : z0 = z0) => ?_) (fun (b467 : ¬ z0 = z0) => ?_)
                      · refine Go.iload 216 rfl at_214 rfl ?_
                        refine Go.iconst 217 rfl (2 : Int32) at_216 rfl ?_
                        refine Go.icmp_lt 239 220 at_217 (by decide) rfl rfl (fun (b468 : (1 : Int32) < (2 : Int32)) => ?_) (fun (b468 : ¬ (1 : Int32) < (2 : Int32)) => ?_)
                        · refine Go.iconst 240 rfl (1 : Int32) at_239 rfl ?_
                          exact Go.retN (t := .boolean) (z' := 1) at_240 rfl (by decide) (by decide) (by decide) (by decide) (Keep.refl h437 []) (fun _ q => q) rfl
                        · exact absurd (show (1 : Int32) < (2 : Int32) from (by decide)) b468
                      · exact absurd (show z0 = z0 from rfl) b467
                  · exact absurd (show (61 : Int32) = (61 : Int32) from (by decide)) b459
                · exact absurd (show (1 : Int32) < (2 : Int32) from (by decide)) b455
              · exact absurd (show x0 = x0 from rfl) b454
          · exact absurd (show (3 : Int32) = (((1 : Int32) + (1 : Int32)) + (1 : Int32)) from (by decide)) b446
        · refine Go.iload 78 rfl at_76 rfl ?_
          refine Go.iload 80 rfl at_78 rfl ?_
          refine Go.iload 82 rfl at_80 rfl ?_
          refine Go.callS 85 rfl (C := B1) [.int (1 : Int32), .int v103, .int ea] (rest := []) 0 1 2 3 (c1n1 Z hw h0 v103 ea p0 hbp0) at_82 rfl rfl rfl rfl (by decide) pd1 rfl rfl rfl (W := 0) (lb rfl) (by decide) (by decide) (by decide) (by decide) fun v474 h475 q476 => ?_
          obtain ⟨t469, rfl, g470, K471, A472, E473⟩ := q476
          have z477 : Z.heap.size ≤ t469 := Nat.le_trans hle g470
          refine Go.astore 87 rfl at_85 rfl (Ls' := #[.val (.int i0), .val (.int i1), .val (.int i2), .val (.int i3), .val (.int i4), .val (.int (1 : Int32)), .val (.int (2 : Int32)), .val (.int v103), .val (.int ea), .val (.int v105), .val (.int ec), .val (.ref t469), .unset, .unset]) rfl ?_
          refine Go.iload 89 rfl at_87 rfl ?_
          refine Go.iload 91 rfl at_89 rfl ?_
          refine Go.iload 93 rfl at_91 rfl ?_
          refine Go.callS 96 rfl (C := B1) [.int (2 : Int32), .int v105, .int ec] (rest := []) 0 1 2 3 (c1n2 Z hw h475 v105 ec q0 q1 hbq0 hbq1) at_93 rfl rfl rfl rfl (by decide) pd1 rfl rfl rfl (W := 0) (lb rfl) (by decide) (by decide) (by decide) (by decide) fun v483 h484 q485 => ?_
          obtain ⟨t478, rfl, g479, K480, A481, E482⟩ := q485
          have z486 : Z.heap.size ≤ t478 := Nat.le_trans (Nat.le_trans hle K471.1) g479
          refine Go.astore 98 rfl at_96 rfl (Ls' := #[.val (.int i0), .val (.int i1), .val (.int i2), .val (.int i3), .val (.int i4), .val (.int (1 : Int32)), .val (.int (2 : Int32)), .val (.int v103), .val (.int ea), .val (.int v105), .val (.int ec), .val (.ref t469), .val (.ref t478), .unset]) rfl ?_
          refine Go.newO 101 rfl 5 6 7 at_98 rfl rfl rfl (by decide) (by decide) fun h488 a487 g489 z490 K491 E492 D493 => ?_
          refine Go.dup 102 rfl at_101 rfl ?_
          refine Go.aload 104 rfl at_102 rfl rfl ?_
          refine Go.aload 106 rfl at_104 rfl rfl ?_
          have kc500 : Keep h0 h488 [] := ((((Keep.refl h0 []).trans K471 all0).trans K480 all0).trans K491 all0)
          have sz501 := (Nat.le_trans K471.1 K480.1)
          refine Go.callIH 109 rfl (C := B2) a487 [.ref t469, .ref t478] (rest := [.ref a487]) 8 9 7 10 (c2 Z hw h488 a487 t469 t478 z490 E492 (D493 32 (Or.inr rfl) (ty := (.array .byte)) (by decide) : Fld Z h488 a487 "com/example/umweg/umweg/core/Field" "name" "[B" (.null)) (D493 34 (Or.inr rfl) (ty := (.array .byte)) (by decide) : Fld Z h488 a487 "com/example/umweg/umweg/core/Field" "value" "[B" (.null))) at_106 rfl rfl rfl rfl rfl rfl (by decide) pd2 rfl rfl rfl (W := 1) (lb rfl) (by decide) (by decide) (by decide) (by decide) [] kc500 (fun _ q => q) (allS ⟨(Or.inr (Nat.le_trans sz501 (Nat.le_of_eq g489.symm))), E492.lt⟩ all0) all0 fun v497 h498 q499 => ?_
          obtain ⟨rfl, K494, F495, F496⟩ := q499
          have ne502 : t469 ≠ a487 := (show @Ne Nat t469 a487 from by have := ltN E473.lt; have := K480.1; have := g489; omega)
          have F503 : Ary Z h498 t469 .byte [.int p0] := (((A472.keep K480 nin0).keep K491 nin0).keep K494 (ninS ne502 nin0))
          have ne504 : t478 ≠ a487 := (show @Ne Nat t478 a487 from by have := ltN E482.lt; have := g489; omega)
          have F505 : Ary Z h498 t478 .byte [.int q0, .int q1] := ((A481.keep K491 nin0).keep K494 (ninS ne504 nin0))
          have F506 : Exa Z h498 t469 "[B" := (((E473.keep K480).keep K491).keep K494)
          have F507 : Exa Z h498 t478 "[B" := ((E482.keep K491).keep K494)
          have F508 : Exa Z h498 m "sun/nio/cs/UTF_8" := ((((hM.keep K471).keep K480).keep K491).keep K494)
          have F517 : Exa Z h498 a487 "com/example/umweg/umweg/core/Field" := (E492.keep K494)
          refine Go.callVH 112 rfl (C := B6) a487 [] (rest := []) 35 36 38 37 7 39 (c6tpp Z hw h498 a487 [x0] [z0, z1] [.int p0] (lb rfl) [.int q0, .int q1] (lb rfl) cs hS hcs hAs hHi hLo hfm m hU hU8 t469 t478 (fun h a g1 g2 g3 g4 g5 g6 g7 => c9w1 Z hw h a t469 m x0 p0 hdp0 hlp0  cs hS hcs hAs hHi hLo hfm hU g1 g2 g3 g4 g5 g6 g7) (fun h a g1 g2 g3 g4 g5 g6 g7 => c9w2 Z hw h a t478 m z0 z1 q0 q1 hdq0 hlq0 hdq1 hlq1 hnm cs hS hcs hAs hHi hLo hfm hU g1 g2 g3 g4 g5 g6 g7) F495 F496 F503 F505 F506 F507 F508) F517 at_109 rfl rfl rfl rfl rfl rfl (by decide) pd6 rfl rfl rfl (W := 0) (lb rfl) (by decide) (by decide) (by decide) (by decide) [] (Keep.refl h498 []) (fun _ q => q) all0 all0 fun v514 h515 q516 => ?_
          obtain ⟨a509, t510, rfl, g511, K512, D513⟩ := q516
          have sz519 := (Nat.le_trans sz501 K491.1)
          have sz520 := (Nat.le_trans sz519 K494.1)
          have z518 : Z.heap.size ≤ a509 := Nat.le_trans (Nat.le_trans hle sz520) g511
          refine Go.astore 114 rfl at_112 rfl (Ls' := #[.val (.int i0), .val (.int i1), .val (.int i2), .val (.int i3), .val (.int i4), .val (.int (1 : Int32)), .val (.int (2 : Int32)), .val (.int v103), .val (.int ea), .val (.int v105), .val (.int ec), .val (.ref t469), .val (.ref t478), .val (.ref a509)]) rfl ?_
          refine Go.aload 116 rfl at_114 rfl rfl ?_
          refine Go.callV 119 rfl (C := B13) a509 [] (rest := []) 171 88 90 89 20 91 (c13d Z hw h515 a509 4 [x0, (61 : Int32), z0, z1] rfl (by decide) cs hS hcs t510 D513) D513.1 at_116 rfl rfl rfl rfl rfl rfl (by decide) pd13 rfl rfl rfl (W := 0) (lb rfl) (by decide) (by decide) (by decide) (by decide) fun v521 h522 q523 => ?_
          obtain ⟨rfl, rfl⟩ := q523
          refine Go.iload 121 rfl at_119 rfl ?_
          refine Go.iload 123 rfl at_121 rfl ?_
          refine Go.iadd 124 rfl at_123 ?_
          refine Go.iconst 125 rfl (1 : Int32) at_124 rfl ?_
          refine Go.iadd 126 rfl at_125 ?_
          refine Go.icmp_eq 131 129 at_126 (by decide) rfl rfl (fun (b524 : (4 : Int32) = (((1 : Int32) + (2 : Int32)) + (1 : Int32))) => ?_) (fun (b524 : ¬ (4 : Int32) = (((1 : Int32) + (2 : Int32)) + (1 : Int32))) => ?_)
          · refine Go.iload 133 rfl at_131 rfl ?_
            refine Go.iconst 134 rfl (1 : Int32) at_133 rfl ?_
            refine Go.icmp_lt 153 137 at_134 (by decide) rfl rfl (fun (b525 : (1 : Int32) < (1 : Int32)) => ?_) (fun (b525 : ¬ (1 : Int32) < (1 : Int32)) => ?_)
            · exact absurd b525 (show ¬ (1 : Int32) < (1 : Int32) from (by decide))
            · refine Go.aload 139 rfl at_137 rfl rfl ?_
              refine Go.iconst 140 rfl (0 : Int32) at_139 rfl ?_
              refine Go.callV 143 rfl (C := B30) a509 [.int (0 : Int32)] (rest := []) 172 173 175 174 20 176 (c30d Z hw h515 a509 (jn := 0) (0 : Int32) x0 4 [x0, (61 : Int32), z0, z1] rfl (by decide) (by decide) rfl cs hS hcs hAs hHi hLo hfm t510 rfl (by decide) (own_chd hxp0) D513) D513.1 at_140 rfl rfl rfl rfl rfl rfl (by decide) pd30 rfl rfl rfl (W := 0) (lb rfl) (by decide) (by decide) (by decide) (by decide) fun v526 h527 q528 => ?_
              obtain ⟨rfl, rfl⟩ := q528
              refine Go.iload 145 rfl at_143 rfl ?_
              refine Go.callS 148 rfl (C := B36) [.int v103] (rest := [.int x0]) 209 210 2 211 (c36 Z hw h515 v103 x0 hxp0) at_145 rfl rfl rfl rfl (by decide) pd36 rfl rfl rfl (W := 1) (lb rfl) (by decide) (by decide) (by decide) (by decide) fun v529 h530 q531 => ?_
              obtain ⟨rfl, rfl⟩ := q531
              refine Go.icmp_eq 153 151 at_148 (by decide) rfl rfl (fun (b532 : x0 = x0) => ?_) (fun (b532 : ¬ x0 = x0) => ?_)
              · refine Go.iload 155 rfl at_153 rfl ?_
                refine Go.iconst 156 rfl (2 : Int32) at_155 rfl ?_
                refine Go.icmp_lt 175 159 at_156 (by decide) rfl rfl (fun (b533 : (1 : Int32) < (2 : Int32)) => ?_) (fun (b533 : ¬ (1 : Int32) < (2 : Int32)) => ?_)
                · refine Go.aload 177 rfl at_175 rfl rfl ?_
                  refine Go.iload 179 rfl at_177 rfl ?_
                  refine Go.callV 182 rfl (C := B30) a509 [.int (1 : Int32)] (rest := []) 172 173 175 174 20 176 (c30d Z hw h515 a509 (jn := 1) (1 : Int32) (61 : Int32) 4 [x0, (61 : Int32), z0, z1] rfl (by decide) (by decide) rfl cs hS hcs hAs hHi hLo hfm t510 rfl (by decide) own_c61 D513) D513.1 at_179 rfl rfl rfl rfl rfl rfl (by decide) pd30 rfl rfl rfl (W := 0) (lb rfl) (by decide) (by decide) (by decide) (by decide) fun v534 h535 q536 => ?_
                  obtain ⟨rfl, rfl⟩ := q536
                  refine Go.bipush 184 rfl (61 : Int32) at_182 rfl ?_
                  refine Go.icmp_eq 189 187 at_184 (by decide) rfl rfl (fun (b537 : (61 : Int32) = (61 : Int32)) => ?_) (fun (b537 : ¬ (61 : Int32) = (61 : Int32)) => ?_)
                  · refine Go.iload 191 rfl at_189 rfl ?_
                    refine Go.iconst 192 rfl (1 : Int32) at_191 rfl ?_
                    refine Go.icmp_lt 214 195 at_192 (by decide) rfl rfl (fun (b538 : (2 : Int32) < (1 : Int32)) => ?_) (fun (b538 : ¬ (2 : Int32) < (1 : Int32)) => ?_)
                    · exact absurd b538 (show ¬ (2 : Int32) < (1 : Int32) from (by decide))
                    · refine Go.aload 197 rfl at_195 rfl rfl ?_
                      refine Go.iload 199 rfl at_197 rfl ?_
                      refine Go.iconst 200 rfl (1 : Int32) at_199 rfl ?_
                      refine Go.iadd 201 rfl at_200 ?_
                      refine Go.callV 204 rfl (C := B30) a509 [.int ((1 : Int32) + (1 : Int32))] (rest := []) 172 173 175 174 20 176 (c30d Z hw h515 a509 (jn := 2) ((1 : Int32) + (1 : Int32)) z0 4 [x0, (61 : Int32), z0, z1] rfl (by decide) (by decide) rfl cs hS hcs hAs hHi hLo hfm t510 rfl (by decide) (own_chd hxq0) D513) D513.1 at_201 rfl rfl rfl rfl rfl rfl (by decide) pd30 rfl rfl rfl (W := 0) (lb rfl) (by decide) (by decide) (by decide) (by decide) fun v539 h540 q541 => ?_
                      obtain ⟨rfl, rfl⟩ := q541
                      refine Go.iload 206 rfl at_204 rfl ?_
                      refine Go.callS 209 rfl (C := B36) [.int v105] (rest := [.int z0]) 209 210 2 211 (c36 Z hw h515 v105 z0 hxq0) at_206 rfl rfl rfl rfl (by decide) pd36 rfl rfl rfl (W := 1) (lb rfl) (by decide) (by decide) (by decide) (by decide) fun v542 h543 q544 => ?_
                      obtain ⟨rfl, rfl⟩ := q544
                      refine Go.icmp_eq 214 212 at_209 (by decide) rfl rfl (fun (b545 : z0 = z0) => ?_) (fun (b545 : ¬ z0 = z0) => ?_)
                      · refine Go.iload 216 rfl at_214 rfl ?_
                        refine Go.iconst 217 rfl (2 : Int32) at_216 rfl ?_
                        refine Go.icmp_lt 239 220 at_217 (by decide) rfl rfl (fun (b546 : (2 : Int32) < (2 : Int32)) => ?_) (fun (b546 : ¬ (2 : Int32) < (2 : Int32)) => ?_)
                        · exact absurd b546 (show ¬ (2 : Int32) < (2 : Int32) from (by decide))
                        · refine Go.aload 222 rfl at_220 rfl rfl ?_
                          refine Go.iload 224 rfl at_222 rfl ?_
                          refine Go.iconst 225 rfl (2 : Int32) at_224 rfl ?_
                          refine Go.iadd 226 rfl at_225 ?_
                          refine Go.callV 229 rfl (C := B30) a509 [.int ((1 : Int32) + (2 : Int32))] (rest := []) 172 173 175 174 20 176 (c30d Z hw h515 a509 (jn := 3) ((1 : Int32) + (2 : Int32)) z1 4 [x0, (61 : Int32), z0, z1] rfl (by decide) (by decide) rfl cs hS hcs hAs hHi hLo hfm t510 rfl (by decide) (own_chd hxq1) D513) D513.1 at_226 rfl rfl rfl rfl rfl rfl (by decide) pd30 rfl rfl rfl (W := 0) (lb rfl) (by decide) (by decide) (by decide) (by decide) fun v547 h548 q549 => ?_
                          obtain ⟨rfl, rfl⟩ := q549
                          refine Go.iload 231 rfl at_229 rfl ?_
                          refine Go.callS 234 rfl (C := B36) [.int ec] (rest := [.int z1]) 209 210 2 211 (c36 Z hw h515 ec z1 hxq1) at_231 rfl rfl rfl rfl (by decide) pd36 rfl rfl rfl (W := 1) (lb rfl) (by decide) (by decide) (by decide) (by decide) fun v550 h551 q552 => ?_
                          obtain ⟨rfl, rfl⟩ := q552
                          refine Go.icmp_eq 239 237 at_234 (by decide) rfl rfl (fun (b553 : z1 = z1) => ?_) (fun (b553 : ¬ z1 = z1) => ?_)
                          · refine Go.iconst 240 rfl (1 : Int32) at_239 rfl ?_
                            exact Go.retN (t := .boolean) (z' := 1) at_240 rfl (by decide) (by decide) (by decide) (by decide) (Keep.refl h515 []) (fun _ q => q) rfl
                          · exact absurd (show z1 = z1 from rfl) b553
                      · exact absurd (show z0 = z0 from rfl) b545
                  · exact absurd (show (61 : Int32) = (61 : Int32) from (by decide)) b537
                · exact absurd (show (1 : Int32) < (2 : Int32) from (by decide)) b533
              · exact absurd (show x0 = x0 from rfl) b532
          · exact absurd (show (4 : Int32) = (((1 : Int32) + (2 : Int32)) + (1 : Int32)) from (by decide)) b524
      · rcases own_n3 hv102 with rfl | rfl | rfl
        · refine Go.iload 78 rfl at_76 rfl ?_
          refine Go.iload 80 rfl at_78 rfl ?_
          refine Go.iload 82 rfl at_80 rfl ?_
          refine Go.callS 85 rfl (C := B1) [.int (2 : Int32), .int v103, .int ea] (rest := []) 0 1 2 3 (c1n2 Z hw h0 v103 ea p0 p1 hbp0 hbp1) at_82 rfl rfl rfl rfl (by decide) pd1 rfl rfl rfl (W := 0) (lb rfl) (by decide) (by decide) (by decide) (by decide) fun v559 h560 q561 => ?_
          obtain ⟨t554, rfl, g555, K556, A557, E558⟩ := q561
          have z562 : Z.heap.size ≤ t554 := Nat.le_trans hle g555
          refine Go.astore 87 rfl at_85 rfl (Ls' := #[.val (.int i0), .val (.int i1), .val (.int i2), .val (.int i3), .val (.int i4), .val (.int (2 : Int32)), .val (.int (0 : Int32)), .val (.int v103), .val (.int ea), .val (.int v105), .val (.int ec), .val (.ref t554), .unset, .unset]) rfl ?_
          refine Go.iload 89 rfl at_87 rfl ?_
          refine Go.iload 91 rfl at_89 rfl ?_
          refine Go.iload 93 rfl at_91 rfl ?_
          refine Go.callS 96 rfl (C := B1) [.int (0 : Int32), .int v105, .int ec] (rest := []) 0 1 2 3 (c1n0 Z hw h560 v105 ec  ) at_93 rfl rfl rfl rfl (by decide) pd1 rfl rfl rfl (W := 0) (lb rfl) (by decide) (by decide) (by decide) (by decide) fun v568 h569 q570 => ?_
          obtain ⟨t563, rfl, g564, K565, A566, E567⟩ := q570
          have z571 : Z.heap.size ≤ t563 := Nat.le_trans (Nat.le_trans hle K556.1) g564
          refine Go.astore 98 rfl at_96 rfl (Ls' := #[.val (.int i0), .val (.int i1), .val (.int i2), .val (.int i3), .val (.int i4), .val (.int (2 : Int32)), .val (.int (0 : Int32)), .val (.int v103), .val (.int ea), .val (.int v105), .val (.int ec), .val (.ref t554), .val (.ref t563), .unset]) rfl ?_
          refine Go.newO 101 rfl 5 6 7 at_98 rfl rfl rfl (by decide) (by decide) fun h573 a572 g574 z575 K576 E577 D578 => ?_
          refine Go.dup 102 rfl at_101 rfl ?_
          refine Go.aload 104 rfl at_102 rfl rfl ?_
          refine Go.aload 106 rfl at_104 rfl rfl ?_
          have kc585 : Keep h0 h573 [] := ((((Keep.refl h0 []).trans K556 all0).trans K565 all0).trans K576 all0)
          have sz586 := (Nat.le_trans K556.1 K565.1)
          refine Go.callIH 109 rfl (C := B2) a572 [.ref t554, .ref t563] (rest := [.ref a572]) 8 9 7 10 (c2 Z hw h573 a572 t554 t563 z575 E577 (D578 32 (Or.inr rfl) (ty := (.array .byte)) (by decide) : Fld Z h573 a572 "com/example/umweg/umweg/core/Field" "name" "[B" (.null)) (D578 34 (Or.inr rfl) (ty := (.array .byte)) (by decide) : Fld Z h573 a572 "com/example/umweg/umweg/core/Field" "value" "[B" (.null))) at_106 rfl rfl rfl rfl rfl rfl (by decide) pd2 rfl rfl rfl (W := 1) (lb rfl) (by decide) (by decide) (by decide) (by decide) [] kc585 (fun _ q => q) (allS ⟨(Or.inr (Nat.le_trans sz586 (Nat.le_of_eq g574.symm))), E577.lt⟩ all0) all0 fun v582 h583 q584 => ?_
          obtain ⟨rfl, K579, F580, F581⟩ := q584
          have ne587 : t554 ≠ a572 := (show @Ne Nat t554 a572 from by have := ltN E558.lt; have := K565.1; have := g574; omega)
          have F588 : Ary Z h583 t554 .byte [.int p0, .int p1] := (((A557.keep K565 nin0).keep K576 nin0).keep K579 (ninS ne587 nin0))
          have ne589 : t563 ≠ a572 := (show @Ne Nat t563 a572 from by have := ltN E567.lt; have := g574; omega)
          have F590 : Ary Z h583 t563 .byte [] := ((A566.keep K576 nin0).keep K579 (ninS ne589 nin0))
          have F591 : Exa Z h583 t554 "[B" := (((E558.keep K565).keep K576).keep K579)
          have F592 : Exa Z h583 t563 "[B" := ((E567.keep K576).keep K579)
          have F593 : Exa Z h583 m "sun/nio/cs/UTF_8" := ((((hM.keep K556).keep K565).keep K576).keep K579)
          have F602 : Exa Z h583 a572 "com/example/umweg/umweg/core/Field" := (E577.keep K579)
          refine Go.callVH 112 rfl (C := B6) a572 [] (rest := []) 35 36 38 37 7 39 (c6tpz Z hw h583 a572 [x0, x1] [.int p0, .int p1] (lb rfl) cs hS hcs hAs hHi hLo hfm m hU hU8 t554 t563 (fun h a g1 g2 g3 g4 g5 g6 g7 => c9w2 Z hw h a t554 m x0 x1 p0 p1 hdp0 hlp0 hdp1 hlp1 hnn cs hS hcs hAs hHi hLo hfm hU g1 g2 g3 g4 g5 g6 g7) F580 F581 F588 F590 F591 F592 F593) F602 at_109 rfl rfl rfl rfl rfl rfl (by decide) pd6 rfl rfl rfl (W := 0) (lb rfl) (by decide) (by decide) (by decide) (by decide) [] (Keep.refl h583 []) (fun _ q => q) all0 all0 fun v599 h600 q601 => ?_
          obtain ⟨a594, t595, rfl, g596, K597, D598⟩ := q601
          have sz604 := (Nat.le_trans sz586 K576.1)
          have sz605 := (Nat.le_trans sz604 K579.1)
          have z603 : Z.heap.size ≤ a594 := Nat.le_trans (Nat.le_trans hle sz605) g596
          refine Go.astore 114 rfl at_112 rfl (Ls' := #[.val (.int i0), .val (.int i1), .val (.int i2), .val (.int i3), .val (.int i4), .val (.int (2 : Int32)), .val (.int (0 : Int32)), .val (.int v103), .val (.int ea), .val (.int v105), .val (.int ec), .val (.ref t554), .val (.ref t563), .val (.ref a594)]) rfl ?_
          refine Go.aload 116 rfl at_114 rfl rfl ?_
          refine Go.callV 119 rfl (C := B13) a594 [] (rest := []) 171 88 90 89 20 91 (c13d Z hw h600 a594 3 [x0, x1, (61 : Int32)] rfl (by decide) cs hS hcs t595 D598) D598.1 at_116 rfl rfl rfl rfl rfl rfl (by decide) pd13 rfl rfl rfl (W := 0) (lb rfl) (by decide) (by decide) (by decide) (by decide) fun v606 h607 q608 => ?_
          obtain ⟨rfl, rfl⟩ := q608
          refine Go.iload 121 rfl at_119 rfl ?_
          refine Go.iload 123 rfl at_121 rfl ?_
          refine Go.iadd 124 rfl at_123 ?_
          refine Go.iconst 125 rfl (1 : Int32) at_124 rfl ?_
          refine Go.iadd 126 rfl at_125 ?_
          refine Go.icmp_eq 131 129 at_126 (by decide) rfl rfl (fun (b609 : (3 : Int32) = (((2 : Int32) + (0 : Int32)) + (1 : Int32))) => ?_) (fun (b609 : ¬ (3 : Int32) = (((2 : Int32) + (0 : Int32)) + (1 : Int32))) => ?_)
          · refine Go.iload 133 rfl at_131 rfl ?_
            refine Go.iconst 134 rfl (1 : Int32) at_133 rfl ?_
            refine Go.icmp_lt 153 137 at_134 (by decide) rfl rfl (fun (b610 : (2 : Int32) < (1 : Int32)) => ?_) (fun (b610 : ¬ (2 : Int32) < (1 : Int32)) => ?_)
            · exact absurd b610 (show ¬ (2 : Int32) < (1 : Int32) from (by decide))
            · refine Go.aload 139 rfl at_137 rfl rfl ?_
              refine Go.iconst 140 rfl (0 : Int32) at_139 rfl ?_
              refine Go.callV 143 rfl (C := B30) a594 [.int (0 : Int32)] (rest := []) 172 173 175 174 20 176 (c30d Z hw h600 a594 (jn := 0) (0 : Int32) x0 3 [x0, x1, (61 : Int32)] rfl (by decide) (by decide) rfl cs hS hcs hAs hHi hLo hfm t595 rfl (by decide) (own_chd hxp0) D598) D598.1 at_140 rfl rfl rfl rfl rfl rfl (by decide) pd30 rfl rfl rfl (W := 0) (lb rfl) (by decide) (by decide) (by decide) (by decide) fun v611 h612 q613 => ?_
              obtain ⟨rfl, rfl⟩ := q613
              refine Go.iload 145 rfl at_143 rfl ?_
              refine Go.callS 148 rfl (C := B36) [.int v103] (rest := [.int x0]) 209 210 2 211 (c36 Z hw h600 v103 x0 hxp0) at_145 rfl rfl rfl rfl (by decide) pd36 rfl rfl rfl (W := 1) (lb rfl) (by decide) (by decide) (by decide) (by decide) fun v614 h615 q616 => ?_
              obtain ⟨rfl, rfl⟩ := q616
              refine Go.icmp_eq 153 151 at_148 (by decide) rfl rfl (fun (b617 : x0 = x0) => ?_) (fun (b617 : ¬ x0 = x0) => ?_)
              · refine Go.iload 155 rfl at_153 rfl ?_
                refine Go.iconst 156 rfl (2 : Int32) at_155 rfl ?_
                refine Go.icmp_lt 175 159 at_156 (by decide) rfl rfl (fun (b618 : (2 : Int32) < (2 : Int32)) => ?_) (fun (b618 : ¬ (2 : Int32) < (2 : Int32)) => ?_)
                · exact absurd b618 (show ¬ (2 : Int32) < (2 : Int32) from (by decide))
                · refine Go.aload 161 rfl at_159 rfl rfl ?_
                  refine Go.iconst 162 rfl (1 : Int32) at_161 rfl ?_
                  refine Go.callV 165 rfl (C := B30) a594 [.int (1 : Int32)] (rest := []) 172 173 175 174 20 176 (c30d Z hw h600 a594 (jn := 1) (1 : Int32) x1 3 [x0, x1, (61 : Int32)] rfl (by decide) (by decide) rfl cs hS hcs hAs hHi hLo hfm t595 rfl (by decide) (own_chd hxp1) D598) D598.1 at_162 rfl rfl rfl rfl rfl rfl (by decide) pd30 rfl rfl rfl (W := 0) (lb rfl) (by decide) (by decide) (by decide) (by decide) fun v619 h620 q621 => ?_
                  obtain ⟨rfl, rfl⟩ := q621
                  refine Go.iload 167 rfl at_165 rfl ?_
                  refine Go.callS 170 rfl (C := B36) [.int ea] (rest := [.int x1]) 209 210 2 211 (c36 Z hw h600 ea x1 hxp1) at_167 rfl rfl rfl rfl (by decide) pd36 rfl rfl rfl (W := 1) (lb rfl) (by decide) (by decide) (by decide) (by decide) fun v622 h623 q624 => ?_
                  obtain ⟨rfl, rfl⟩ := q624
                  refine Go.icmp_eq 175 173 at_170 (by decide) rfl rfl (fun (b625 : x1 = x1) => ?_) (fun (b625 : ¬ x1 = x1) => ?_)
                  · refine Go.aload 177 rfl at_175 rfl rfl ?_
                    refine Go.iload 179 rfl at_177 rfl ?_
                    refine Go.callV 182 rfl (C := B30) a594 [.int (2 : Int32)] (rest := []) 172 173 175 174 20 176 (c30d Z hw h600 a594 (jn := 2) (2 : Int32) (61 : Int32) 3 [x0, x1, (61 : Int32)] rfl (by decide) (by decide) rfl cs hS hcs hAs hHi hLo hfm t595 rfl (by decide) own_c61 D598) D598.1 at_179 rfl rfl rfl rfl rfl rfl (by decide) pd30 rfl rfl rfl (W := 0) (lb rfl) (by decide) (by decide) (by decide) (by decide) fun v626 h627 q628 => ?_
                    obtain ⟨rfl, rfl⟩ := q628
                    refine Go.bipush 184 rfl (61 : Int32) at_182 rfl ?_
                    refine Go.icmp_eq 189 187 at_184 (by decide) rfl rfl (fun (b629 : (61 : Int32) = (61 : Int32)) => ?_) (fun (b629 : ¬ (61 : Int32) = (61 : Int32)) => ?_)
                    · refine Go.iload 191 rfl at_189 rfl ?_
                      refine Go.iconst 192 rfl (1 : Int32) at_191 rfl ?_
                      refine Go.icmp_lt 214 195 at_192 (by decide) rfl rfl (fun (b630 : (0 : Int32) < (1 : Int32)) => ?_) (fun (b630 : ¬ (0 : Int32) < (1 : Int32)) => ?_)
                      · refine Go.iload 216 rfl at_214 rfl ?_
                        refine Go.iconst 217 rfl (2 : Int32) at_216 rfl ?_
                        refine Go.icmp_lt 239 220 at_217 (by decide) rfl rfl (fun (b631 : (0 : Int32) < (2 : Int32)) => ?_) (fun (b631 : ¬ (0 : Int32) < (2 : Int32)) => ?_)
                        · refine Go.iconst 240 rfl (1 : Int32) at_239 rfl ?_
                          exact Go.retN (t := .boolean) (z' := 1) at_240 rfl (by decide) (by decide) (by decide) (by decide) (Keep.refl h600 []) (fun _ q => q) rfl
                        · exact absurd (show (0 : Int32) < (2 : Int32) from (by decide)) b631
                      · exact absurd (show (0 : Int32) < (1 : Int32) from (by decide)) b630
                    · exact absurd (show (61 : Int32) = (61 : Int32) from (by decide)) b629
                  · exact absurd (show x1 = x1 from rfl) b625
              · exact absurd (show x0 = x0 from rfl) b617
          · exact absurd (show (3 : Int32) = (((2 : Int32) + (0 : Int32)) + (1 : Int32)) from (by decide)) b609
        · refine Go.iload 78 rfl at_76 rfl ?_
          refine Go.iload 80 rfl at_78 rfl ?_
          refine Go.iload 82 rfl at_80 rfl ?_
          refine Go.callS 85 rfl (C := B1) [.int (2 : Int32), .int v103, .int ea] (rest := []) 0 1 2 3 (c1n2 Z hw h0 v103 ea p0 p1 hbp0 hbp1) at_82 rfl rfl rfl rfl (by decide) pd1 rfl rfl rfl (W := 0) (lb rfl) (by decide) (by decide) (by decide) (by decide) fun v637 h638 q639 => ?_
          obtain ⟨t632, rfl, g633, K634, A635, E636⟩ := q639
          have z640 : Z.heap.size ≤ t632 := Nat.le_trans hle g633
          refine Go.astore 87 rfl at_85 rfl (Ls' := #[.val (.int i0), .val (.int i1), .val (.int i2), .val (.int i3), .val (.int i4), .val (.int (2 : Int32)), .val (.int (1 : Int32)), .val (.int v103), .val (.int ea), .val (.int v105), .val (.int ec), .val (.ref t632), .unset, .unset]) rfl ?_
          refine Go.iload 89 rfl at_87 rfl ?_
          refine Go.iload 91 rfl at_89 rfl ?_
          refine Go.iload 93 rfl at_91 rfl ?_
          refine Go.callS 96 rfl (C := B1) [.int (1 : Int32), .int v105, .int ec] (rest := []) 0 1 2 3 (c1n1 Z hw h638 v105 ec q0 hbq0) at_93 rfl rfl rfl rfl (by decide) pd1 rfl rfl rfl (W := 0) (lb rfl) (by decide) (by decide) (by decide) (by decide) fun v646 h647 q648 => ?_
          obtain ⟨t641, rfl, g642, K643, A644, E645⟩ := q648
          have z649 : Z.heap.size ≤ t641 := Nat.le_trans (Nat.le_trans hle K634.1) g642
          refine Go.astore 98 rfl at_96 rfl (Ls' := #[.val (.int i0), .val (.int i1), .val (.int i2), .val (.int i3), .val (.int i4), .val (.int (2 : Int32)), .val (.int (1 : Int32)), .val (.int v103), .val (.int ea), .val (.int v105), .val (.int ec), .val (.ref t632), .val (.ref t641), .unset]) rfl ?_
          refine Go.newO 101 rfl 5 6 7 at_98 rfl rfl rfl (by decide) (by decide) fun h651 a650 g652 z653 K654 E655 D656 => ?_
          refine Go.dup 102 rfl at_101 rfl ?_
          refine Go.aload 104 rfl at_102 rfl rfl ?_
          refine Go.aload 106 rfl at_104 rfl rfl ?_
          have kc663 : Keep h0 h651 [] := ((((Keep.refl h0 []).trans K634 all0).trans K643 all0).trans K654 all0)
          have sz664 := (Nat.le_trans K634.1 K643.1)
          refine Go.callIH 109 rfl (C := B2) a650 [.ref t632, .ref t641] (rest := [.ref a650]) 8 9 7 10 (c2 Z hw h651 a650 t632 t641 z653 E655 (D656 32 (Or.inr rfl) (ty := (.array .byte)) (by decide) : Fld Z h651 a650 "com/example/umweg/umweg/core/Field" "name" "[B" (.null)) (D656 34 (Or.inr rfl) (ty := (.array .byte)) (by decide) : Fld Z h651 a650 "com/example/umweg/umweg/core/Field" "value" "[B" (.null))) at_106 rfl rfl rfl rfl rfl rfl (by decide) pd2 rfl rfl rfl (W := 1) (lb rfl) (by decide) (by decide) (by decide) (by decide) [] kc663 (fun _ q => q) (allS ⟨(Or.inr (Nat.le_trans sz664 (Nat.le_of_eq g652.symm))), E655.lt⟩ all0) all0 fun v660 h661 q662 => ?_
          obtain ⟨rfl, K657, F658, F659⟩ := q662
          have ne665 : t632 ≠ a650 := (show @Ne Nat t632 a650 from by have := ltN E636.lt; have := K643.1; have := g652; omega)
          have F666 : Ary Z h661 t632 .byte [.int p0, .int p1] := (((A635.keep K643 nin0).keep K654 nin0).keep K657 (ninS ne665 nin0))
          have ne667 : t641 ≠ a650 := (show @Ne Nat t641 a650 from by have := ltN E645.lt; have := g652; omega)
          have F668 : Ary Z h661 t641 .byte [.int q0] := ((A644.keep K654 nin0).keep K657 (ninS ne667 nin0))
          have F669 : Exa Z h661 t632 "[B" := (((E636.keep K643).keep K654).keep K657)
          have F670 : Exa Z h661 t641 "[B" := ((E645.keep K654).keep K657)
          have F671 : Exa Z h661 m "sun/nio/cs/UTF_8" := ((((hM.keep K634).keep K643).keep K654).keep K657)
          have F680 : Exa Z h661 a650 "com/example/umweg/umweg/core/Field" := (E655.keep K657)
          refine Go.callVH 112 rfl (C := B6) a650 [] (rest := []) 35 36 38 37 7 39 (c6tpp Z hw h661 a650 [x0, x1] [z0] [.int p0, .int p1] (lb rfl) [.int q0] (lb rfl) cs hS hcs hAs hHi hLo hfm m hU hU8 t632 t641 (fun h a g1 g2 g3 g4 g5 g6 g7 => c9w2 Z hw h a t632 m x0 x1 p0 p1 hdp0 hlp0 hdp1 hlp1 hnn cs hS hcs hAs hHi hLo hfm hU g1 g2 g3 g4 g5 g6 g7) (fun h a g1 g2 g3 g4 g5 g6 g7 => c9w1 Z hw h a t641 m z0 q0 hdq0 hlq0  cs hS hcs hAs hHi hLo hfm hU g1 g2 g3 g4 g5 g6 g7) F658 F659 F666 F668 F669 F670 F671) F680 at_109 rfl rfl rfl rfl rfl rfl (by decide) pd6 rfl rfl rfl (W := 0) (lb rfl) (by decide) (by decide) (by decide) (by decide) [] (Keep.refl h661 []) (fun _ q => q) all0 all0 fun v677 h678 q679 => ?_
          obtain ⟨a672, t673, rfl, g674, K675, D676⟩ := q679
          have sz682 := (Nat.le_trans sz664 K654.1)
          have sz683 := (Nat.le_trans sz682 K657.1)
          have z681 : Z.heap.size ≤ a672 := Nat.le_trans (Nat.le_trans hle sz683) g674
          refine Go.astore 114 rfl at_112 rfl (Ls' := #[.val (.int i0), .val (.int i1), .val (.int i2), .val (.int i3), .val (.int i4), .val (.int (2 : Int32)), .val (.int (1 : Int32)), .val (.int v103), .val (.int ea), .val (.int v105), .val (.int ec), .val (.ref t632), .val (.ref t641), .val (.ref a672)]) rfl ?_
          refine Go.aload 116 rfl at_114 rfl rfl ?_
          refine Go.callV 119 rfl (C := B13) a672 [] (rest := []) 171 88 90 89 20 91 (c13d Z hw h678 a672 4 [x0, x1, (61 : Int32), z0] rfl (by decide) cs hS hcs t673 D676) D676.1 at_116 rfl rfl rfl rfl rfl rfl (by decide) pd13 rfl rfl rfl (W := 0) (lb rfl) (by decide) (by decide) (by decide) (by decide) fun v684 h685 q686 => ?_
          obtain ⟨rfl, rfl⟩ := q686
          refine Go.iload 121 rfl at_119 rfl ?_
          refine Go.iload 123 rfl at_121 rfl ?_
          refine Go.iadd 124 rfl at_123 ?_
          refine Go.iconst 125 rfl (1 : Int32) at_124 rfl ?_
          refine Go.iadd 126 rfl at_125 ?_
          refine Go.icmp_eq 131 129 at_126 (by decide) rfl rfl (fun (b687 : (4 : Int32) = (((2 : Int32) + (1 : Int32)) + (1 : Int32))) => ?_) (fun (b687 : ¬ (4 : Int32) = (((2 : Int32) + (1 : Int32)) + (1 : Int32))) => ?_)
          · refine Go.iload 133 rfl at_131 rfl ?_
            refine Go.iconst 134 rfl (1 : Int32) at_133 rfl ?_
            refine Go.icmp_lt 153 137 at_134 (by decide) rfl rfl (fun (b688 : (2 : Int32) < (1 : Int32)) => ?_) (fun (b688 : ¬ (2 : Int32) < (1 : Int32)) => ?_)
            · exact absurd b688 (show ¬ (2 : Int32) < (1 : Int32) from (by decide))
            · refine Go.aload 139 rfl at_137 rfl rfl ?_
              refine Go.iconst 140 rfl (0 : Int32) at_139 rfl ?_
              refine Go.callV 143 rfl (C := B30) a672 [.int (0 : Int32)] (rest := []) 172 173 175 174 20 176 (c30d Z hw h678 a672 (jn := 0) (0 : Int32) x0 4 [x0, x1, (61 : Int32), z0] rfl (by decide) (by decide) rfl cs hS hcs hAs hHi hLo hfm t673 rfl (by decide) (own_chd hxp0) D676) D676.1 at_140 rfl rfl rfl rfl rfl rfl (by decide) pd30 rfl rfl rfl (W := 0) (lb rfl) (by decide) (by decide) (by decide) (by decide) fun v689 h690 q691 => ?_
              obtain ⟨rfl, rfl⟩ := q691
              refine Go.iload 145 rfl at_143 rfl ?_
              refine Go.callS 148 rfl (C := B36) [.int v103] (rest := [.int x0]) 209 210 2 211 (c36 Z hw h678 v103 x0 hxp0) at_145 rfl rfl rfl rfl (by decide) pd36 rfl rfl rfl (W := 1) (lb rfl) (by decide) (by decide) (by decide) (by decide) fun v692 h693 q694 => ?_
              obtain ⟨rfl, rfl⟩ := q694
              refine Go.icmp_eq 153 151 at_148 (by decide) rfl rfl (fun (b695 : x0 = x0) => ?_) (fun (b695 : ¬ x0 = x0) => ?_)
              · refine Go.iload 155 rfl at_153 rfl ?_
                refine Go.iconst 156 rfl (2 : Int32) at_155 rfl ?_
                refine Go.icmp_lt 175 159 at_156 (by decide) rfl rfl (fun (b696 : (2 : Int32) < (2 : Int32)) => ?_) (fun (b696 : ¬ (2 : Int32) < (2 : Int32)) => ?_)
                · exact absurd b696 (show ¬ (2 : Int32) < (2 : Int32) from (by decide))
                · refine Go.aload 161 rfl at_159 rfl rfl ?_
                  refine Go.iconst 162 rfl (1 : Int32) at_161 rfl ?_
                  refine Go.callV 165 rfl (C := B30) a672 [.int (1 : Int32)] (rest := []) 172 173 175 174 20 176 (c30d Z hw h678 a672 (jn := 1) (1 : Int32) x1 4 [x0, x1, (61 : Int32), z0] rfl (by decide) (by decide) rfl cs hS hcs hAs hHi hLo hfm t673 rfl (by decide) (own_chd hxp1) D676) D676.1 at_162 rfl rfl rfl rfl rfl rfl (by decide) pd30 rfl rfl rfl (W := 0) (lb rfl) (by decide) (by decide) (by decide) (by decide) fun v697 h698 q699 => ?_
                  obtain ⟨rfl, rfl⟩ := q699
                  refine Go.iload 167 rfl at_165 rfl ?_
                  refine Go.callS 170 rfl (C := B36) [.int ea] (rest := [.int x1]) 209 210 2 211 (c36 Z hw h678 ea x1 hxp1) at_167 rfl rfl rfl rfl (by decide) pd36 rfl rfl rfl (W := 1) (lb rfl) (by decide) (by decide) (by decide) (by decide) fun v700 h701 q702 => ?_
                  obtain ⟨rfl, rfl⟩ := q702
                  refine Go.icmp_eq 175 173 at_170 (by decide) rfl rfl (fun (b703 : x1 = x1) => ?_) (fun (b703 : ¬ x1 = x1) => ?_)
                  · refine Go.aload 177 rfl at_175 rfl rfl ?_
                    refine Go.iload 179 rfl at_177 rfl ?_
                    refine Go.callV 182 rfl (C := B30) a672 [.int (2 : Int32)] (rest := []) 172 173 175 174 20 176 (c30d Z hw h678 a672 (jn := 2) (2 : Int32) (61 : Int32) 4 [x0, x1, (61 : Int32), z0] rfl (by decide) (by decide) rfl cs hS hcs hAs hHi hLo hfm t673 rfl (by decide) own_c61 D676) D676.1 at_179 rfl rfl rfl rfl rfl rfl (by decide) pd30 rfl rfl rfl (W := 0) (lb rfl) (by decide) (by decide) (by decide) (by decide) fun v704 h705 q706 => ?_
                    obtain ⟨rfl, rfl⟩ := q706
                    refine Go.bipush 184 rfl (61 : Int32) at_182 rfl ?_
                    refine Go.icmp_eq 189 187 at_184 (by decide) rfl rfl (fun (b707 : (61 : Int32) = (61 : Int32)) => ?_) (fun (b707 : ¬ (61 : Int32) = (61 : Int32)) => ?_)
                    · refine Go.iload 191 rfl at_189 rfl ?_
                      refine Go.iconst 192 rfl (1 : Int32) at_191 rfl ?_
                      refine Go.icmp_lt 214 195 at_192 (by decide) rfl rfl (fun (b708 : (1 : Int32) < (1 : Int32)) => ?_) (fun (b708 : ¬ (1 : Int32) < (1 : Int32)) => ?_)
                      · exact absurd b708 (show ¬ (1 : Int32) < (1 : Int32) from (by decide))
                      · refine Go.aload 197 rfl at_195 rfl rfl ?_
                        refine Go.iload 199 rfl at_197 rfl ?_
                        refine Go.iconst 200 rfl (1 : Int32) at_199 rfl ?_
                        refine Go.iadd 201 rfl at_200 ?_
                        refine Go.callV 204 rfl (C := B30) a672 [.int ((2 : Int32) + (1 : Int32))] (rest := []) 172 173 175 174 20 176 (c30d Z hw h678 a672 (jn := 3) ((2 : Int32) + (1 : Int32)) z0 4 [x0, x1, (61 : Int32), z0] rfl (by decide) (by decide) rfl cs hS hcs hAs hHi hLo hfm t673 rfl (by decide) (own_chd hxq0) D676) D676.1 at_201 rfl rfl rfl rfl rfl rfl (by decide) pd30 rfl rfl rfl (W := 0) (lb rfl) (by decide) (by decide) (by decide) (by decide) fun v709 h710 q711 => ?_
                        obtain ⟨rfl, rfl⟩ := q711
                        refine Go.iload 206 rfl at_204 rfl ?_
                        refine Go.callS 209 rfl (C := B36) [.int v105] (rest := [.int z0]) 209 210 2 211 (c36 Z hw h678 v105 z0 hxq0) at_206 rfl rfl rfl rfl (by decide) pd36 rfl rfl rfl (W := 1) (lb rfl) (by decide) (by decide) (by decide) (by decide) fun v712 h713 q714 => ?_
                        obtain ⟨rfl, rfl⟩ := q714
                        refine Go.icmp_eq 214 212 at_209 (by decide) rfl rfl (fun (b715 : z0 = z0) => ?_) (fun (b715 : ¬ z0 = z0) => ?_)
                        · refine Go.iload 216 rfl at_214 rfl ?_
                          refine Go.iconst 217 rfl (2 : Int32) at_216 rfl ?_
                          refine Go.icmp_lt 239 220 at_217 (by decide) rfl rfl (fun (b716 : (1 : Int32) < (2 : Int32)) => ?_) (fun (b716 : ¬ (1 : Int32) < (2 : Int32)) => ?_)
                          · refine Go.iconst 240 rfl (1 : Int32) at_239 rfl ?_
                            exact Go.retN (t := .boolean) (z' := 1) at_240 rfl (by decide) (by decide) (by decide) (by decide) (Keep.refl h678 []) (fun _ q => q) rfl
                          · exact absurd (show (1 : Int32) < (2 : Int32) from (by decide)) b716
                        · exact absurd (show z0 = z0 from rfl) b715
                    · exact absurd (show (61 : Int32) = (61 : Int32) from (by decide)) b707
                  · exact absurd (show x1 = x1 from rfl) b703
              · exact absurd (show x0 = x0 from rfl) b695
          · exact absurd (show (4 : Int32) = (((2 : Int32) + (1 : Int32)) + (1 : Int32)) from (by decide)) b687
        · refine Go.iload 78 rfl at_76 rfl ?_
          refine Go.iload 80 rfl at_78 rfl ?_
          refine Go.iload 82 rfl at_80 rfl ?_
          refine Go.callS 85 rfl (C := B1) [.int (2 : Int32), .int v103, .int ea] (rest := []) 0 1 2 3 (c1n2 Z hw h0 v103 ea p0 p1 hbp0 hbp1) at_82 rfl rfl rfl rfl (by decide) pd1 rfl rfl rfl (W := 0) (lb rfl) (by decide) (by decide) (by decide) (by decide) fun v722 h723 q724 => ?_
          obtain ⟨t717, rfl, g718, K719, A720, E721⟩ := q724
          have z725 : Z.heap.size ≤ t717 := Nat.le_trans hle g718
          refine Go.astore 87 rfl at_85 rfl (Ls' := #[.val (.int i0), .val (.int i1), .val (.int i2), .val (.int i3), .val (.int i4), .val (.int (2 : Int32)), .val (.int (2 : Int32)), .val (.int v103), .val (.int ea), .val (.int v105), .val (.int ec), .val (.ref t717), .unset, .unset]) rfl ?_
          refine Go.iload 89 rfl at_87 rfl ?_
          refine Go.iload 91 rfl at_89 rfl ?_
          refine Go.iload 93 rfl at_91 rfl ?_
          refine Go.callS 96 rfl (C := B1) [.int (2 : Int32), .int v105, .int ec] (rest := []) 0 1 2 3 (c1n2 Z hw h723 v105 ec q0 q1 hbq0 hbq1) at_93 rfl rfl rfl rfl (by decide) pd1 rfl rfl rfl (W := 0) (lb rfl) (by decide) (by decide) (by decide) (by decide) fun v731 h732 q733 => ?_
          obtain ⟨t726, rfl, g727, K728, A729, E730⟩ := q733
          have z734 : Z.heap.size ≤ t726 := Nat.le_trans (Nat.le_trans hle K719.1) g727
          refine Go.astore 98 rfl at_96 rfl (Ls' := #[.val (.int i0), .val (.int i1), .val (.int i2), .val (.int i3), .val (.int i4), .val (.int (2 : Int32)), .val (.int (2 : Int32)), .val (.int v103), .val (.int ea), .val (.int v105), .val (.int ec), .val (.ref t717), .val (.ref t726), .unset]) rfl ?_
          refine Go.newO 101 rfl 5 6 7 at_98 rfl rfl rfl (by decide) (by decide) fun h736 a735 g737 z738 K739 E740 D741 => ?_
          refine Go.dup 102 rfl at_101 rfl ?_
          refine Go.aload 104 rfl at_102 rfl rfl ?_
          refine Go.aload 106 rfl at_104 rfl rfl ?_
          have kc748 : Keep h0 h736 [] := ((((Keep.refl h0 []).trans K719 all0).trans K728 all0).trans K739 all0)
          have sz749 := (Nat.le_trans K719.1 K728.1)
          refine Go.callIH 109 rfl (C := B2) a735 [.ref t717, .ref t726] (rest := [.ref a735]) 8 9 7 10 (c2 Z hw h736 a735 t717 t726 z738 E740 (D741 32 (Or.inr rfl) (ty := (.array .byte)) (by decide) : Fld Z h736 a735 "com/example/umweg/umweg/core/Field" "name" "[B" (.null)) (D741 34 (Or.inr rfl) (ty := (.array .byte)) (by decide) : Fld Z h736 a735 "com/example/umweg/umweg/core/Field" "value" "[B" (.null))) at_106 rfl rfl rfl rfl rfl rfl (by decide) pd2 rfl rfl rfl (W := 1) (lb rfl) (by decide) (by decide) (by decide) (by decide) [] kc748 (fun _ q => q) (allS ⟨(Or.inr (Nat.le_trans sz749 (Nat.le_of_eq g737.symm))), E740.lt⟩ all0) all0 fun v745 h746 q747 => ?_
          obtain ⟨rfl, K742, F743, F744⟩ := q747
          have ne750 : t717 ≠ a735 := (show @Ne Nat t717 a735 from by have := ltN E721.lt; have := K728.1; have := g737; omega)
          have F751 : Ary Z h746 t717 .byte [.int p0, .int p1] := (((A720.keep K728 nin0).keep K739 nin0).keep K742 (ninS ne750 nin0))
          have ne752 : t726 ≠ a735 := (show @Ne Nat t726 a735 from by have := ltN E730.lt; have := g737; omega)
          have F753 : Ary Z h746 t726 .byte [.int q0, .int q1] := ((A729.keep K739 nin0).keep K742 (ninS ne752 nin0))
          have F754 : Exa Z h746 t717 "[B" := (((E721.keep K728).keep K739).keep K742)
          have F755 : Exa Z h746 t726 "[B" := ((E730.keep K739).keep K742)
          have F756 : Exa Z h746 m "sun/nio/cs/UTF_8" := ((((hM.keep K719).keep K728).keep K739).keep K742)
          have F765 : Exa Z h746 a735 "com/example/umweg/umweg/core/Field" := (E740.keep K742)
          refine Go.callVH 112 rfl (C := B6) a735 [] (rest := []) 35 36 38 37 7 39 (c6tpp Z hw h746 a735 [x0, x1] [z0, z1] [.int p0, .int p1] (lb rfl) [.int q0, .int q1] (lb rfl) cs hS hcs hAs hHi hLo hfm m hU hU8 t717 t726 (fun h a g1 g2 g3 g4 g5 g6 g7 => c9w2 Z hw h a t717 m x0 x1 p0 p1 hdp0 hlp0 hdp1 hlp1 hnn cs hS hcs hAs hHi hLo hfm hU g1 g2 g3 g4 g5 g6 g7) (fun h a g1 g2 g3 g4 g5 g6 g7 => c9w2 Z hw h a t726 m z0 z1 q0 q1 hdq0 hlq0 hdq1 hlq1 hnm cs hS hcs hAs hHi hLo hfm hU g1 g2 g3 g4 g5 g6 g7) F743 F744 F751 F753 F754 F755 F756) F765 at_109 rfl rfl rfl rfl rfl rfl (by decide) pd6 rfl rfl rfl (W := 0) (lb rfl) (by decide) (by decide) (by decide) (by decide) [] (Keep.refl h746 []) (fun _ q => q) all0 all0 fun v762 h763 q764 => ?_
          obtain ⟨a757, t758, rfl, g759, K760, D761⟩ := q764
          have sz767 := (Nat.le_trans sz749 K739.1)
          have sz768 := (Nat.le_trans sz767 K742.1)
          have z766 : Z.heap.size ≤ a757 := Nat.le_trans (Nat.le_trans hle sz768) g759
          refine Go.astore 114 rfl at_112 rfl (Ls' := #[.val (.int i0), .val (.int i1), .val (.int i2), .val (.int i3), .val (.int i4), .val (.int (2 : Int32)), .val (.int (2 : Int32)), .val (.int v103), .val (.int ea), .val (.int v105), .val (.int ec), .val (.ref t717), .val (.ref t726), .val (.ref a757)]) rfl ?_
          refine Go.aload 116 rfl at_114 rfl rfl ?_
          refine Go.callV 119 rfl (C := B13) a757 [] (rest := []) 171 88 90 89 20 91 (c13d Z hw h763 a757 5 [x0, x1, (61 : Int32), z0, z1] rfl (by decide) cs hS hcs t758 D761) D761.1 at_116 rfl rfl rfl rfl rfl rfl (by decide) pd13 rfl rfl rfl (W := 0) (lb rfl) (by decide) (by decide) (by decide) (by decide) fun v769 h770 q771 => ?_
          obtain ⟨rfl, rfl⟩ := q771
          refine Go.iload 121 rfl at_119 rfl ?_
          refine Go.iload 123 rfl at_121 rfl ?_
          refine Go.iadd 124 rfl at_123 ?_
          refine Go.iconst 125 rfl (1 : Int32) at_124 rfl ?_
          refine Go.iadd 126 rfl at_125 ?_
          refine Go.icmp_eq 131 129 at_126 (by decide) rfl rfl (fun (b772 : (5 : Int32) = (((2 : Int32) + (2 : Int32)) + (1 : Int32))) => ?_) (fun (b772 : ¬ (5 : Int32) = (((2 : Int32) + (2 : Int32)) + (1 : Int32))) => ?_)
          · refine Go.iload 133 rfl at_131 rfl ?_
            refine Go.iconst 134 rfl (1 : Int32) at_133 rfl ?_
            refine Go.icmp_lt 153 137 at_134 (by decide) rfl rfl (fun (b773 : (2 : Int32) < (1 : Int32)) => ?_) (fun (b773 : ¬ (2 : Int32) < (1 : Int32)) => ?_)
            · exact absurd b773 (show ¬ (2 : Int32) < (1 : Int32) from (by decide))
            · refine Go.aload 139 rfl at_137 rfl rfl ?_
              refine Go.iconst 140 rfl (0 : Int32) at_139 rfl ?_
              refine Go.callV 143 rfl (C := B30) a757 [.int (0 : Int32)] (rest := []) 172 173 175 174 20 176 (c30d Z hw h763 a757 (jn := 0) (0 : Int32) x0 5 [x0, x1, (61 : Int32), z0, z1] rfl (by decide) (by decide) rfl cs hS hcs hAs hHi hLo hfm t758 rfl (by decide) (own_chd hxp0) D761) D761.1 at_140 rfl rfl rfl rfl rfl rfl (by decide) pd30 rfl rfl rfl (W := 0) (lb rfl) (by decide) (by decide) (by decide) (by decide) fun v774 h775 q776 => ?_
              obtain ⟨rfl, rfl⟩ := q776
              refine Go.iload 145 rfl at_143 rfl ?_
              refine Go.callS 148 rfl (C := B36) [.int v103] (rest := [.int x0]) 209 210 2 211 (c36 Z hw h763 v103 x0 hxp0) at_145 rfl rfl rfl rfl (by decide) pd36 rfl rfl rfl (W := 1) (lb rfl) (by decide) (by decide) (by decide) (by decide) fun v777 h778 q779 => ?_
              obtain ⟨rfl, rfl⟩ := q779
              refine Go.icmp_eq 153 151 at_148 (by decide) rfl rfl (fun (b780 : x0 = x0) => ?_) (fun (b780 : ¬ x0 = x0) => ?_)
              · refine Go.iload 155 rfl at_153 rfl ?_
                refine Go.iconst 156 rfl (2 : Int32) at_155 rfl ?_
                refine Go.icmp_lt 175 159 at_156 (by decide) rfl rfl (fun (b781 : (2 : Int32) < (2 : Int32)) => ?_) (fun (b781 : ¬ (2 : Int32) < (2 : Int32)) => ?_)
                · exact absurd b781 (show ¬ (2 : Int32) < (2 : Int32) from (by decide))
                · refine Go.aload 161 rfl at_159 rfl rfl ?_
                  refine Go.iconst 162 rfl (1 : Int32) at_161 rfl ?_
                  refine Go.callV 165 rfl (C := B30) a757 [.int (1 : Int32)] (rest := []) 172 173 175 174 20 176 (c30d Z hw h763 a757 (jn := 1) (1 : Int32) x1 5 [x0, x1, (61 : Int32), z0, z1] rfl (by decide) (by decide) rfl cs hS hcs hAs hHi hLo hfm t758 rfl (by decide) (own_chd hxp1) D761) D761.1 at_162 rfl rfl rfl rfl rfl rfl (by decide) pd30 rfl rfl rfl (W := 0) (lb rfl) (by decide) (by decide) (by decide) (by decide) fun v782 h783 q784 => ?_
                  obtain ⟨rfl, rfl⟩ := q784
                  refine Go.iload 167 rfl at_165 rfl ?_
                  refine Go.callS 170 rfl (C := B36) [.int ea] (rest := [.int x1]) 209 210 2 211 (c36 Z hw h763 ea x1 hxp1) at_167 rfl rfl rfl rfl (by decide) pd36 rfl rfl rfl (W := 1) (lb rfl) (by decide) (by decide) (by decide) (by decide) fun v785 h786 q787 => ?_
                  obtain ⟨rfl, rfl⟩ := q787
                  refine Go.icmp_eq 175 173 at_170 (by decide) rfl rfl (fun (b788 : x1 = x1) => ?_) (fun (b788 : ¬ x1 = x1) => ?_)
                  · refine Go.aload 177 rfl at_175 rfl rfl ?_
                    refine Go.iload 179 rfl at_177 rfl ?_
                    refine Go.callV 182 rfl (C := B30) a757 [.int (2 : Int32)] (rest := []) 172 173 175 174 20 176 (c30d Z hw h763 a757 (jn := 2) (2 : Int32) (61 : Int32) 5 [x0, x1, (61 : Int32), z0, z1] rfl (by decide) (by decide) rfl cs hS hcs hAs hHi hLo hfm t758 rfl (by decide) own_c61 D761) D761.1 at_179 rfl rfl rfl rfl rfl rfl (by decide) pd30 rfl rfl rfl (W := 0) (lb rfl) (by decide) (by decide) (by decide) (by decide) fun v789 h790 q791 => ?_
                    obtain ⟨rfl, rfl⟩ := q791
                    refine Go.bipush 184 rfl (61 : Int32) at_182 rfl ?_
                    refine Go.icmp_eq 189 187 at_184 (by decide) rfl rfl (fun (b792 : (61 : Int32) = (61 : Int32)) => ?_) (fun (b792 : ¬ (61 : Int32) = (61 : Int32)) => ?_)
                    · refine Go.iload 191 rfl at_189 rfl ?_
                      refine Go.iconst 192 rfl (1 : Int32) at_191 rfl ?_
                      refine Go.icmp_lt 214 195 at_192 (by decide) rfl rfl (fun (b793 : (2 : Int32) < (1 : Int32)) => ?_) (fun (b793 : ¬ (2 : Int32) < (1 : Int32)) => ?_)
                      · exact absurd b793 (show ¬ (2 : Int32) < (1 : Int32) from (by decide))
                      · refine Go.aload 197 rfl at_195 rfl rfl ?_
                        refine Go.iload 199 rfl at_197 rfl ?_
                        refine Go.iconst 200 rfl (1 : Int32) at_199 rfl ?_
                        refine Go.iadd 201 rfl at_200 ?_
                        refine Go.callV 204 rfl (C := B30) a757 [.int ((2 : Int32) + (1 : Int32))] (rest := []) 172 173 175 174 20 176 (c30d Z hw h763 a757 (jn := 3) ((2 : Int32) + (1 : Int32)) z0 5 [x0, x1, (61 : Int32), z0, z1] rfl (by decide) (by decide) rfl cs hS hcs hAs hHi hLo hfm t758 rfl (by decide) (own_chd hxq0) D761) D761.1 at_201 rfl rfl rfl rfl rfl rfl (by decide) pd30 rfl rfl rfl (W := 0) (lb rfl) (by decide) (by decide) (by decide) (by decide) fun v794 h795 q796 => ?_
                        obtain ⟨rfl, rfl⟩ := q796
                        refine Go.iload 206 rfl at_204 rfl ?_
                        refine Go.callS 209 rfl (C := B36) [.int v105] (rest := [.int z0]) 209 210 2 211 (c36 Z hw h763 v105 z0 hxq0) at_206 rfl rfl rfl rfl (by decide) pd36 rfl rfl rfl (W := 1) (lb rfl) (by decide) (by decide) (by decide) (by decide) fun v797 h798 q799 => ?_
                        obtain ⟨rfl, rfl⟩ := q799
                        refine Go.icmp_eq 214 212 at_209 (by decide) rfl rfl (fun (b800 : z0 = z0) => ?_) (fun (b800 : ¬ z0 = z0) => ?_)
                        · refine Go.iload 216 rfl at_214 rfl ?_
                          refine Go.iconst 217 rfl (2 : Int32) at_216 rfl ?_
                          refine Go.icmp_lt 239 220 at_217 (by decide) rfl rfl (fun (b801 : (2 : Int32) < (2 : Int32)) => ?_) (fun (b801 : ¬ (2 : Int32) < (2 : Int32)) => ?_)
                          · exact absurd b801 (show ¬ (2 : Int32) < (2 : Int32) from (by decide))
                          · refine Go.aload 222 rfl at_220 rfl rfl ?_
                            refine Go.iload 224 rfl at_222 rfl ?_
                            refine Go.iconst 225 rfl (2 : Int32) at_224 rfl ?_
                            refine Go.iadd 226 rfl at_225 ?_
                            refine Go.callV 229 rfl (C := B30) a757 [.int ((2 : Int32) + (2 : Int32))] (rest := []) 172 173 175 174 20 176 (c30d Z hw h763 a757 (jn := 4) ((2 : Int32) + (2 : Int32)) z1 5 [x0, x1, (61 : Int32), z0, z1] rfl (by decide) (by decide) rfl cs hS hcs hAs hHi hLo hfm t758 rfl (by decide) (own_chd hxq1) D761) D761.1 at_226 rfl rfl rfl rfl rfl rfl (by decide) pd30 rfl rfl rfl (W := 0) (lb rfl) (by decide) (by decide) (by decide) (by decide) fun v802 h803 q804 => ?_
                            obtain ⟨rfl, rfl⟩ := q804
                            refine Go.iload 231 rfl at_229 rfl ?_
                            refine Go.callS 234 rfl (C := B36) [.int ec] (rest := [.int z1]) 209 210 2 211 (c36 Z hw h763 ec z1 hxq1) at_231 rfl rfl rfl rfl (by decide) pd36 rfl rfl rfl (W := 1) (lb rfl) (by decide) (by decide) (by decide) (by decide) fun v805 h806 q807 => ?_
                            obtain ⟨rfl, rfl⟩ := q807
                            refine Go.icmp_eq 239 237 at_234 (by decide) rfl rfl (fun (b808 : z1 = z1) => ?_) (fun (b808 : ¬ z1 = z1) => ?_)
                            · refine Go.iconst 240 rfl (1 : Int32) at_239 rfl ?_
                              exact Go.retN (t := .boolean) (z' := 1) at_240 rfl (by decide) (by decide) (by decide) (by decide) (Keep.refl h763 []) (fun _ q => q) rfl
                            · exact absurd (show z1 = z1 from rfl) b808
                        · exact absurd (show z0 = z0 from rfl) b800
                    · exact absurd (show (61 : Int32) = (61 : Int32) from (by decide)) b792
                  · exact absurd (show x1 = x1 from rfl) b788
              · exact absurd (show x0 = x0 from rfl) b780
          · exact absurd (show (5 : Int32) = (((2 : Int32) + (2 : Int32)) + (1 : Int32)) from (by decide)) b772
set_option maxRecDepth 65536 in
set_option maxHeartbeats 40000000 in
theorem comes_1 {Post : Tables → Env → Array Value → State → Outcome → State → Prop} (hpost : ∀ tb e args s v u, (limb_1_1.after args s (.returned v) u = true ∧ limb_1_2.after args s (.returned v) u = true ∧ True) → ReturnedEndW s (.returned v) u (Jvm.fieldLocs frame_1_writes args s ++ Jvm.arrayLocs frame_1_arrays args s ++ Jvm.staticLocs frame_1_statics s) 48 4416 → Post tb e args s (.returned v) u) :
    ArmFor flags0 classFile x code maxLocals ret World_1 tables_1 room_1 Calls_1 rest_1 Pre_1 Post := by
  intro l hfl _ _ p e ha hc hk s m args below hf hA hF happ hP
  obtain ⟨hcalls, hrest, hpre⟩ := hP
  obtain ⟨-, -, -, hnamed, -, -, -, hat⟩ := (Spec.applies_iff hf).mp happ
  obtain ⟨hg, hn⟩ := and_e (Cond.before_iff.mp (show (Jvm.Cond.and given_1 narrow_1).before args s = true from hpre))
  obtain ⟨hg1, hg2⟩ := and_e hg
  obtain ⟨w0, w1, w2, w3, w4, rfl⟩ : ∃ w0 w1 w2 w3 w4 : Value, args = #[w0, w1, w2, w3, w4] := by
    have hs : args.size = 5 := by simpa [Cond.value, given_1] using hg1
    obtain ⟨L⟩ := args
    match L, hs with
    | [w0, w1, w2, w3, w4], _ => exact ⟨w0, w1, w2, w3, w4, rfl⟩
  obtain ⟨ga0, gb0⟩ := and_e hg2
  obtain ⟨i0, e0⟩ := is_v ga0
  obtain rfl : w0 = (.int i0) := Option.some.inj e0
  obtain ⟨ga1, gb1⟩ := and_e gb0
  obtain ⟨i1, e1⟩ := is_v ga1
  obtain rfl : w1 = (.int i1) := Option.some.inj e1
  obtain ⟨ga2, gb2⟩ := and_e gb1
  obtain ⟨i2, e2⟩ := is_v ga2
  obtain rfl : w2 = (.int i2) := Option.some.inj e2
  obtain ⟨ga3, gb3⟩ := and_e gb2
  obtain ⟨i3, e3⟩ := is_v ga3
  obtain rfl : w3 = (.int i3) := Option.some.inj e3
  obtain ⟨i4, e4⟩ := is_v gb3
  obtain rfl : w4 = (.int i4) := Option.some.inj e4
  have hw : Wd s tables_1 := ⟨_, fun d (hd : d ∈ tables_1) => atoms_spec (ws := Jvm.Cond.code x code maxLocals ret :: tables_1) hat d (List.mem_cons_of_mem _ hd)⟩
  have hfit : Fit s := fun {y c} hc i hi => by
    obtain ⟨ha, rfl⟩ := Array.getElem?_eq_some_iff.mp hc
    have q := List.all_eq_true.mp ((Array.all_eq_true_iff_forall_mem.mp hF) _ (Array.getElem_mem ha)) i (List.mem_range.mpr hi)
    simpa [Array.getElem?_eq_getElem hi] using q
  obtain ⟨hsets, hown0⟩ := atoms_of _ (rest_1_c_eq ▸ (show rest_1_c.before _ s = true from hrest))
  obtain ⟨cs, ecs⟩ := is_v (Cond.before_iff.mp (hsets _ (List.mem_of_getElem? (i := 1) rfl)))
  have hS : Sta s s.heap "java/lang/String" "COMPACT_STRINGS" "Z" (.int cs) := Sta.start ecs (Or.inl (hsets _ (List.mem_of_getElem? (i := 0) rfl)))
  have hcs : ¬ (cs = (0 : Int32)) := gotF (Cond.eq_ints ecs (Term.int_eval (0))) (not_v (Cond.before_iff.mp (hsets _ (List.mem_of_getElem? (i := 2) rfl))))
  have hAs : Sta s s.heap "java/lang/StringUTF16" "$assertionsDisabled" "Z" (.int 1) := own_si (Cond.before_iff.mp (hsets _ (List.mem_of_getElem? (i := 21) rfl))) (hsets _ (List.mem_of_getElem? (i := 20) rfl))
  have hHi : Sta s s.heap "java/lang/StringUTF16" "HI_BYTE_SHIFT" "I" (.int 0) := own_si (Cond.before_iff.mp (hsets _ (List.mem_of_getElem? (i := 24) rfl))) (hsets _ (List.mem_of_getElem? (i := 23) rfl))
  have hLo : Sta s s.heap "java/lang/StringUTF16" "LO_BYTE_SHIFT" "I" (.int 8) := own_si (Cond.before_iff.mp (hsets _ (List.mem_of_getElem? (i := 27) rfl))) (hsets _ (List.mem_of_getElem? (i := 26) rfl))
  have hfm : (Sta s s.heap "jdk/internal/util/Preconditions" "SIOOBE_FORMATTER" "Ljava/util/function/BiFunction;" .null) ∨ ∃ m, Sta s s.heap "jdk/internal/util/Preconditions" "SIOOBE_FORMATTER" "Ljava/util/function/BiFunction;" (.ref m) := by
    obtain ⟨v, ev, hr⟩ := isR_v (Cond.before_iff.mp (hsets _ (List.mem_of_getElem? (i := 8) rfl)))
    have S := Sta.start ev (Or.inl (hsets _ (List.mem_of_getElem? (i := 7) rfl)))
    rcases ref_cases hr with rfl | ⟨m, rfl⟩
    · exact Or.inl S
    · exact Or.inr ⟨m, S⟩
  obtain ⟨m', ev⟩ := exa_v (Cond.before_iff.mp (hsets _ (List.mem_of_getElem? (i := 14) rfl)))
  have hM := Exa.start ev (Cond.before_iff.mp (hsets _ (List.mem_of_getElem? (i := 14) rfl)))
  have hU8 := Sta.start ev (Or.inl (hsets _ (List.mem_of_getElem? (i := 10) rfl)))
  have hU : Sta s s.heap "sun/nio/cs/UTF_8" "INSTANCE" "Lsun/nio/cs/UTF_8;" (.ref m') := Sta.start (own_se ev (Cond.before_iff.mp (hsets _ (List.mem_of_getElem? (i := 13) rfl)))) (Or.inl (hsets _ (List.mem_of_getElem? (i := 12) rfl)))
  obtain ⟨a0, hwd⟩ := hw.w
  have hEW : EW s a0 Jvm.Ox.EL := EW.cons (hwd (i := 74) rfl) (by decide) (EW.cons (hwd (i := 125) rfl) (by decide) EW.nil)
  have hCH : CHv s Jvm.Ox.EL s.vm s.heap := CHv.start hEW (fun p hp => by
    rcases (show p = ("java/lang/String", 7) ∨ p = ("com/example/umweg/umweg/core/Field", 59) by simpa [Jvm.Ox.EL] using hp) with rfl | rfl
    · exact hcalls.1 ("java/lang/String", 7) (by simp [consts_1])
    · exact hcalls.1 ("com/example/umweg/umweg/core/Field", 59) (by simp [consts_1])) (Cond.before_iff.mpr (Cond.before_iff.mp (hsets _ (List.mem_of_getElem? (i := 2) rfl)))) (hwd (i := 4) rfl) (hwd (i := 21) rfl)
  obtain ⟨n, o, h1, h2, h3, _, L, rfl, ⟨hv, -, N⟩, hq, -⟩ := c0 s hw s.heap i0 i1 i2 i3 i4 cs hS hcs hAs hHi hLo hfm m' hU hU8 hM ⟨Nat.le_refl _, fun _ _ q => q⟩ ⟨_, hEW⟩ l tables_1 p e ha hc hk s m _ below hf ((Spec.applies_iff_loose hf).mp happ).1 ⟨rfl, State.Warmed39.refl s, rfl, hCH, fun _ q => nomatch q⟩ trivial
  cases (show _ = some (Value.int 1) from hv)
  refine ⟨n, _, h1, h2, h3, hpost _ _ _ _ _ _ ⟨Cond.after_iff.mpr rfl, Cond.after_iff.mpr (eq_i res_at (Term.int_eval (1)) rfl), trivial⟩ ⟨hq.1, hq.2.1, hq.2.2.1, (hq.2.2.2.sift fun y hy => Or.inr (N y hy)).mono (by decide) (by decide)⟩⟩
theorem main_1_1 : Claimed_1_1 := comes_1 fun _ _ _ _ _ _ h hF => ⟨h.1, hF⟩
theorem main_1_2 : Claimed_1_2 := comes_1 fun _ _ _ _ _ _ h hF => ⟨h.2.1, hF⟩
end Jvm.Pilot.@@N@@
namespace Jvm.Pilot.@@N@@
open Jvm Jvm.ClassFile Sem Op Lib Jvm.Free Jvm.Stand Jvm.Pilot.@@N@@.Jvm.D
/-! MADE BY PROGRAM (witnessworld.py) out of the Statement's table words and the real class files: 32 classes; the members and pool entries that the words name. The judged class is class 1, her method 3. -/
namespace start1
open Jvm.ClassFile
def u (s : String) : CpInfo := .utf8 (stringToUtf16 s)
/-- a pool by its gaps: so many unusable entries, then the entry; so many at the end -/
def gap : Nat → List CpInfo → List CpInfo
  | 0, r => r
  | n + 1, r => .unusable :: gap n r
def poolList (es : List (Nat × CpInfo)) (last : Nat) : List CpInfo := es.foldr (fun e r => gap e.1 (e.2 :: r)) (gap last [])
def pool (es : List (Nat × CpInfo)) (last : Nat) : Array CpInfo := ⟨poolList es last⟩
def fileOf (pool : Array CpInfo) (this : Nat) (attrs : Array Attribute := #[]) (ms : Array MethodInfo := #[]) (fl : Nat := 33) (sup : Nat := 0) (ifs : Array Nat := #[]) (fds : Array FieldInfo := #[]) : ClassFile where
  minorVersion := 0
  majorVersion := 65
  constantPool := pool
  accessFlags := fl
  thisClass := this
  superClass := sup
  interfaces := ifs
  fields := fds
  methods := ms
  attributes := attrs
def plain (name : String) (sup : Option ClassId) : Class where
  name := name
  kind := .ordinary
  loader := none
  accessFlags := 33
  super := sup
  interfaces := #[]
  cf := none
  fields := #[]
  methods := #[]
  instanceTypes := #[]
  staticTypes := #[]
  resolved := #[]
  callSites := []
  init := .initialized
  statics := none
  mirror := none

def pool0 : Array CpInfo := pool [(5, u "<init>"), (0, u "()V"), (1, .class_ 10), (1, u "java/lang/Object"), (85, u "clone"), (0, u "()Ljava/lang/Object;")] 26

def k0c0 : Code := { maxStack := 0, maxLocals := 1, code := object_method_1_code, exceptionTable := #[], attributes := #[] }
def k0m0 : Method := { name := "<init>", desc := "()V", sig := { parameters := [], returnType := none }, accessFlags := 1, code := some k0c0 }
def k0m1 : Method := { name := "clone", desc := "()Ljava/lang/Object;", sig := { parameters := [], returnType := some (.object "java/lang/Object") }, accessFlags := 260, code := none }
/-- java/lang/Object -/
def k0 : Class := { plain "java/lang/Object" none with
  accessFlags := 33
  interfaces := #[]
  cf := some (fileOf pool0 8 #[] #[{ accessFlags := 1, nameIndex := 5, descriptorIndex := 6, attributes := #[] }, { accessFlags := 260, nameIndex := 96, descriptorIndex := 97, attributes := #[] }] 33 0 #[] #[])
  fields := #[]
  methods := #[k0m0, k0m1]
  instanceTypes := #[]
  staticTypes := #[]
  resolved := Array.replicate 124 none
  statics := none }

def pool1 : Array CpInfo := pool [(2, .class_ 4), (1, u "java/lang/Object"), (0, u "<init>"), (0, u "()V"), (0, .integer 65533), (0, .methodref 9 10), (0, .class_ 11), (0, .nameAndType 12 13), (0, u "com/example/umweg/umweg/core/FieldToStringPinLaw"), (0, u "mk"), (0, u "(III)[B"), (0, .class_ 15), (0, u "com/example/umweg/umweg/core/Field"), (0, .methodref 14 17), (0, .nameAndType 5 18), (0, u "([B[B)V"), (0, .methodref 14 20), (0, .nameAndType 21 22), (0, u "toString"), (0, u "()Ljava/lang/String;"), (0, .methodref 24 25), (0, .class_ 26), (0, .nameAndType 27 28), (0, u "java/lang/String"), (0, u "length"), (0, u "()I"), (0, .methodref 24 30), (0, .nameAndType 31 32), (0, u "charAt"), (0, u "(I)C"), (0, .methodref 9 34), (0, .nameAndType 35 32), (0, u "dec"), (5, u "law"), (0, u "(IIIII)Z")] 2

def k1m0 : Method := { name := "<init>", desc := "()V", sig := { parameters := [], returnType := none }, accessFlags := 1, code := none }
def k1c1 : Code := { maxStack := 3, maxLocals := 4, code := method_2_code, exceptionTable := #[], attributes := #[] }
def k1m1 : Method := { name := "mk", desc := "(III)[B", sig := { parameters := [.int, .int, .int], returnType := some (.array .byte) }, accessFlags := 10, code := some k1c1 }
def k1c2 : Code := { maxStack := 2, maxLocals := 1, code := method_3_code, exceptionTable := #[], attributes := #[] }
def k1m2 : Method := { name := "dec", desc := "(I)C", sig := { parameters := [.int], returnType := some .char }, accessFlags := 10, code := some k1c2 }
def k1c3 : Code := { maxStack := 4, maxLocals := 14, code := code, exceptionTable := #[], attributes := #[] }
def k1m3 : Method := { name := "law", desc := "(IIIII)Z", sig := { parameters := [.int, .int, .int, .int, .int], returnType := some .boolean }, accessFlags := 9, code := some k1c3 }
/-- com/example/umweg/umweg/core/FieldToStringPinLaw -/
def k1 : Class := { plain "com/example/umweg/umweg/core/FieldToStringPinLaw" (some 0) with
  accessFlags := 49
  interfaces := #[]
  cf := some (fileOf pool1 9 #[] #[{ accessFlags := 1, nameIndex := 5, descriptorIndex := 6, attributes := #[] }, { accessFlags := 10, nameIndex := 12, descriptorIndex := 13, attributes := #[] }, { accessFlags := 10, nameIndex := 35, descriptorIndex := 32, attributes := #[] }, { accessFlags := 9, nameIndex := 41, descriptorIndex := 42, attributes := #[] }] 49 2 #[] #[])
  fields := #[]
  methods := #[k1m0, k1m1, k1m2, k1m3]
  instanceTypes := #[]
  staticTypes := #[]
  resolved := Array.replicate 45 none
  statics := none }

def pool2 : Array CpInfo := pool [(1, .methodref 2 3), (0, .class_ 4), (0, .nameAndType 5 6), (0, u "java/lang/Object"), (0, u "<init>"), (0, u "()V"), (0, .class_ 8), (0, u "java/lang/Record")] 13

def k2c0 : Code := { maxStack := 1, maxLocals := 1, code := jdk_30_method_1_code, exceptionTable := #[], attributes := #[] }
def k2m0 : Method := { name := "<init>", desc := "()V", sig := { parameters := [], returnType := none }, accessFlags := 4, code := some k2c0 }
/-- java/lang/Record -/
def k2 : Class := { plain "java/lang/Record" (some 0) with
  accessFlags := 1057
  interfaces := #[]
  cf := some (fileOf pool2 7 #[] #[{ accessFlags := 4, nameIndex := 5, descriptorIndex := 6, attributes := #[] }] 1057 2 #[] #[])
  fields := #[]
  methods := #[k2m0]
  instanceTypes := #[]
  staticTypes := #[]
  resolved := Array.replicate 22 none
  statics := none }

def pool3 : Array CpInfo := pool [(1, .methodref 2 3), (0, .class_ 4), (0, .nameAndType 5 6), (0, u "java/lang/Record"), (0, u "<init>"), (0, u "()V"), (0, .string 8), (0, u "name"), (0, .methodref 10 11), (0, .class_ 12), (0, .nameAndType 13 14), (0, u "java/util/Objects"), (0, u "requireNonNull"), (0, u "(Ljava/lang/Object;Ljava/lang/String;)Ljava/lang/Object;"), (0, .string 16), (0, u "value"), (0, .fieldref 18 19), (0, .class_ 20), (0, .nameAndType 8 21), (0, u "com/example/umweg/umweg/core/Field"), (0, u "[B"), (0, .fieldref 18 23), (0, .nameAndType 16 21), (0, .fieldref 25 26), (0, .class_ 27), (0, .nameAndType 28 29), (0, u "java/nio/charset/StandardCharsets"), (0, u "UTF_8"), (0, u "Ljava/nio/charset/Charset;"), (1, .class_ 33), (1, u "java/lang/String"), (4, u "([B[B)V"), (10, .class_ 50), (0, u "java/lang/StringBuilder"), (0, .methodref 49 3), (0, .methodref 31 53), (0, .nameAndType 5 54), (0, u "([BLjava/nio/charset/Charset;)V"), (0, .methodref 49 56), (0, .nameAndType 57 58), (0, u "append"), (0, u "(Ljava/lang/String;)Ljava/lang/StringBuilder;"), (0, .string 60), (0, u "="), (0, .methodref 49 62), (0, .nameAndType 63 64), (0, u "toString"), (0, u "()Ljava/lang/String;")] 12

def k3c0 : Code := { maxStack := 2, maxLocals := 3, code := prog_13_method_1_code, exceptionTable := #[], attributes := #[] }
def k3m0 : Method := { name := "<init>", desc := "([B[B)V", sig := { parameters := [(.array .byte), (.array .byte)], returnType := none }, accessFlags := 1, code := some k3c0 }
def k3c1 : Code := { maxStack := 5, maxLocals := 1, code := prog_13_method_5_code, exceptionTable := #[], attributes := #[] }
def k3m1 : Method := { name := "toString", desc := "()Ljava/lang/String;", sig := { parameters := [], returnType := some (.object "java/lang/String") }, accessFlags := 1, code := some k3c1 }
/-- com/example/umweg/umweg/core/Field -/
def k3 : Class := { plain "com/example/umweg/umweg/core/Field" (some 2) with
  accessFlags := 49
  interfaces := #[]
  cf := some (fileOf pool3 18 #[] #[{ accessFlags := 1, nameIndex := 5, descriptorIndex := 38, attributes := #[] }, { accessFlags := 1, nameIndex := 63, descriptorIndex := 64, attributes := #[] }] 49 2 #[] #[{ accessFlags := 18, nameIndex := 8, descriptorIndex := 21, attributes := #[] }, { accessFlags := 18, nameIndex := 16, descriptorIndex := 21, attributes := #[] }])
  fields := #[{ name := "name", type := (.array .byte), accessFlags := 18, slot := 0, constantValue := 0 }, { name := "value", type := (.array .byte), accessFlags := 18, slot := 1, constantValue := 0 }]
  methods := #[k3m0, k3m1]
  instanceTypes := #[(.array .byte), (.array .byte)]
  staticTypes := #[]
  resolved := Array.replicate 77 none
  statics := none }

def pool4 : Array CpInfo := pool [(1, .class_ 2), (0, u "java/io/Serializable"), (0, .class_ 4), (0, u "java/lang/Object")] 2

/-- java/io/Serializable -/
def k4 : Class := { plain "java/io/Serializable" (some 0) with
  accessFlags := 1537
  interfaces := #[]
  cf := some (fileOf pool4 1 #[] #[] 1537 3 #[] #[])
  fields := #[]
  methods := #[]
  instanceTypes := #[]
  staticTypes := #[]
  resolved := Array.replicate 7 none
  statics := none }

def pool5 : Array CpInfo := pool [(1, .class_ 2), (0, u "java/lang/Comparable"), (0, .class_ 4), (0, u "java/lang/Object")] 7

/-- java/lang/Comparable -/
def k5 : Class := { plain "java/lang/Comparable" (some 0) with
  accessFlags := 1537
  interfaces := #[]
  cf := some (fileOf pool5 1 #[] #[] 1537 3 #[] #[])
  fields := #[]
  methods := #[]
  instanceTypes := #[]
  staticTypes := #[]
  resolved := Array.replicate 12 none
  statics := none }

def pool6 : Array CpInfo := pool [(2, .class_ 4), (1, u "java/lang/CharSequence"), (42, .class_ 48), (0, u "java/lang/CharSequence$1CodePointIterator"), (10, .class_ 60), (0, u "java/lang/CharSequence$1CharIterator"), (5, .class_ 67), (0, u "java/lang/Object")] 63

/-- java/lang/CharSequence -/
def k6 : Class := { plain "java/lang/CharSequence" (some 0) with
  accessFlags := 1537
  interfaces := #[]
  cf := some (fileOf pool6 2 #[.nestMembers #[47, 59]] #[] 1537 66 #[] #[])
  fields := #[]
  methods := #[]
  instanceTypes := #[]
  staticTypes := #[]
  resolved := Array.replicate 131 none
  statics := none }

def pool7 : Array CpInfo := pool [(1, .class_ 2), (0, u "java/lang/constant/Constable"), (0, .class_ 4), (0, u "java/lang/Object")] 6

/-- java/lang/constant/Constable -/
def k7 : Class := { plain "java/lang/constant/Constable" (some 0) with
  accessFlags := 1537
  interfaces := #[]
  cf := some (fileOf pool7 1 #[] #[] 1537 3 #[] #[])
  fields := #[]
  methods := #[]
  instanceTypes := #[]
  staticTypes := #[]
  resolved := Array.replicate 11 none
  statics := none }

def pool8 : Array CpInfo := pool [(1, .class_ 2), (0, u "java/lang/constant/ConstantDesc"), (0, .class_ 4), (0, u "java/lang/Object")] 32

/-- java/lang/constant/ConstantDesc -/
def k8 : Class := { plain "java/lang/constant/ConstantDesc" (some 0) with
  accessFlags := 1537
  interfaces := #[]
  cf := some (fileOf pool8 1 #[] #[] 1537 3 #[] #[])
  fields := #[]
  methods := #[]
  instanceTypes := #[]
  staticTypes := #[]
  resolved := Array.replicate 37 none
  statics := none }

def pool9 : Array CpInfo := pool [(1, .methodref 2 3), (0, .class_ 4), (0, .nameAndType 5 6), (0, u "java/lang/Object"), (0, u "<init>"), (0, u "()V"), (0, .string 8), (0, u ""), (0, .fieldref 10 11), (0, .class_ 12), (0, .nameAndType 13 14), (0, u "java/lang/String"), (0, u "value"), (0, u "[B"), (0, .fieldref 10 16), (0, .nameAndType 17 18), (0, u "coder"), (0, u "B"), (2, u "hash"), (0, u "I"), (2, u "hashIsZero"), (0, u "Z"), (9, u "checkBoundsOffCount"), (0, u "(III)I"), (0, .fieldref 10 39), (0, .nameAndType 40 26), (0, u "COMPACT_STRINGS"), (1, .class_ 44), (1, u "java/lang/StringUTF16"), (9, .methodref 55 56), (0, .class_ 57), (0, .nameAndType 58 59), (0, u "java/util/Arrays"), (0, u "copyOfRange"), (0, u "([BII)[B"), (0, .methodref 42 61), (0, .nameAndType 62 63), (0, u "newBytesFor"), (0, u "(I)[B"), (0, .methodref 42 65), (0, .nameAndType 66 67), (0, u "putChar"), (0, u "([BII)V"), (7, .methodref 10 76), (0, .nameAndType 5 77), (0, u "(Ljava/nio/charset/Charset;[BII)V"), (0, .methodref 79 80), (0, .class_ 81), (0, .nameAndType 82 83), (0, u "java/util/Objects"), (0, u "requireNonNull"), (0, u "(Ljava/lang/Object;)Ljava/lang/Object;"), (0, .class_ 85), (0, u "java/nio/charset/Charset"), (0, .fieldref 87 88), (0, .class_ 89), (0, .nameAndType 90 91), (0, u "sun/nio/cs/UTF_8"), (0, u "INSTANCE"), (0, u "Lsun/nio/cs/UTF_8;"), (0, .methodref 93 94), (0, .class_ 95), (0, .nameAndType 96 97), (0, u "java/lang/StringCoding"), (0, u "countPositives"), (0, u "([BII)I"), (8, .methodref 107 108), (0, .class_ 109), (0, .nameAndType 110 111), (0, u "java/lang/StringLatin1"), (0, u "inflate"), (0, u "([BI[BII)V"), (0, .methodref 10 113), (0, .nameAndType 114 115), (0, u "decodeUTF8_UTF16"), (0, u "([BII[BIZ)I"), (16, .integer 65533), (9, u "()Z"), (50, .class_ 195), (1, u "java/lang/System"), (16, .methodref 193 213), (0, .nameAndType 214 215), (0, u "arraycopy"), (0, u "(Ljava/lang/Object;ILjava/lang/Object;II)V"), (118, u "()I"), (0, .methodref 10 336), (0, .nameAndType 17 337), (0, u "()B"), (2, u "()[B"), (22, u "([BI)C"), (21, .methodref 10 386), (0, .nameAndType 387 388), (0, u "isNotContinuation"), (0, u "(I)Z"), (2, u "(II)V"), (15, .methodref 10 408), (0, .nameAndType 409 410), (0, u "isMalformed3_2"), (0, u "(II)Z"), (16, u "(I)C"), (3, .methodref 10 432), (0, .nameAndType 433 410), (0, u "isMalformed4_2"), (55, .methodref 10 490), (0, .nameAndType 5 491), (0, u "(Ljava/lang/AbstractStringBuilder;Ljava/lang/Void;)V"), (0, .methodref 10 493), (0, .nameAndType 494 142), (0, u "isLatin1"), (0, .methodref 107 496), (0, .nameAndType 497 363), (0, u "charAt"), (0, .methodref 42 496), (2, u "checkIndex"), (4, .nameAndType 507 334), (0, u "length"), (24, u "getBytes"), (16, .methodref 550 506), (0, .class_ 551), (0, u "java/lang/AbstractStringBuilder"), (0, .methodref 550 553), (0, .nameAndType 554 340), (0, u "getValue"), (20, .class_ 576), (0, u "java/lang/CharSequence"), (22, u "CASE_INSENSITIVE_ORDER"), (0, u "Ljava/util/Comparator;"), (220, u "([BIB)V"), (225, .methodref 550 493), (0, .fieldref 550 1049), (0, .nameAndType 1050 26), (0, u "maybeLatin1"), (2, .fieldref 1054 1055), (0, .class_ 1056), (0, .nameAndType 1057 1058), (0, u "jdk/internal/util/Preconditions"), (0, u "SIOOBE_FORMATTER"), (0, u "Ljava/util/function/BiFunction;"), (0, .methodref 1054 1060), (0, .nameAndType 501 1061), (0, u "(IILjava/util/function/BiFunction;)I"), (2, u "(IIILjava/util/function/BiFunction;)I"), (0, .methodref 1054 1066), (0, .nameAndType 1067 1064), (0, u "checkFromIndexSize"), (33, u "serialPersistentFields"), (0, u "[Ljava/io/ObjectStreamField;"), (0, .class_ 1104), (0, u "java/lang/String$CaseInsensitiveComparator"), (1, .class_ 1107), (0, u "java/io/Serializable"), (0, .class_ 1109), (0, u "java/lang/Comparable"), (0, .class_ 1111), (0, u "java/lang/constant/Constable"), (0, .class_ 1113), (0, u "java/lang/constant/ConstantDesc"), (2, u "serialVersionUID"), (0, u "J"), (3, u "REPL"), (0, u "C"), (2, u "LATIN1"), (1, u "UTF16"), (101, u "([BLjava/nio/charset/Charset;)V"), (3, u "(Ljava/lang/StringBuilder;)V")] 217

def k9m0 : Method := { name := "<init>", desc := "()V", sig := { parameters := [], returnType := none }, accessFlags := 1, code := none }
def k9c1 : Code := { maxStack := 6, maxLocals := 11, code := jdk_42_method_11_code, exceptionTable := #[{ startPc := 800, endPc := 813, handlerPc := 816, catchType := 202 }], attributes := #[] }
def k9m1 : Method := { name := "<init>", desc := "(Ljava/nio/charset/Charset;[BII)V", sig := { parameters := [(.object "java/nio/charset/Charset"), (.array .byte), .int, .int], returnType := none }, accessFlags := 2, code := some k9c1 }
def k9c2 : Code := { maxStack := 2, maxLocals := 1, code := jdk_42_method_29_code, exceptionTable := #[], attributes := #[] }
def k9m2 : Method := { name := "isNotContinuation", desc := "(I)Z", sig := { parameters := [.int], returnType := some .boolean }, accessFlags := 10, code := some k9c2 }
def k9c3 : Code := { maxStack := 2, maxLocals := 2, code := jdk_42_method_31_code, exceptionTable := #[], attributes := #[] }
def k9m3 : Method := { name := "isMalformed3_2", desc := "(II)Z", sig := { parameters := [.int, .int], returnType := some .boolean }, accessFlags := 10, code := some k9c3 }
def k9c4 : Code := { maxStack := 2, maxLocals := 2, code := jdk_42_method_33_code, exceptionTable := #[], attributes := #[] }
def k9m4 : Method := { name := "isMalformed4_2", desc := "(II)Z", sig := { parameters := [.int, .int], returnType := some .boolean }, accessFlags := 10, code := some k9c4 }
def k9c5 : Code := { maxStack := 4, maxLocals := 11, code := jdk_42_method_38_code, exceptionTable := #[], attributes := #[] }
def k9m5 : Method := { name := "decodeUTF8_UTF16", desc := "([BII[BIZ)I", sig := { parameters := [(.array .byte), .int, .int, (.array .byte), .int, .boolean], returnType := some .int }, accessFlags := 10, code := some k9c5 }
def k9c6 : Code := { maxStack := 5, maxLocals := 3, code := jdk_42_method_49_code, exceptionTable := #[], attributes := #[] }
def k9m6 : Method := { name := "<init>", desc := "([BLjava/nio/charset/Charset;)V", sig := { parameters := [(.array .byte), (.object "java/nio/charset/Charset")], returnType := none }, accessFlags := 1, code := some k9c6 }
def k9c7 : Code := { maxStack := 3, maxLocals := 2, code := jdk_42_method_53_code, exceptionTable := #[], attributes := #[] }
def k9m7 : Method := { name := "<init>", desc := "(Ljava/lang/StringBuilder;)V", sig := { parameters := [(.object "java/lang/StringBuilder")], returnType := none }, accessFlags := 1, code := some k9c7 }
def k9c8 : Code := { maxStack := 2, maxLocals := 1, code := jdk_42_method_54_code, exceptionTable := #[], attributes := #[] }
def k9m8 : Method := { name := "length", desc := "()I", sig := { parameters := [], returnType := some .int }, accessFlags := 1, code := some k9c8 }
def k9c9 : Code := { maxStack := 2, maxLocals := 2, code := jdk_42_method_56_code, exceptionTable := #[], attributes := #[] }
def k9m9 : Method := { name := "charAt", desc := "(I)C", sig := { parameters := [.int], returnType := some .char }, accessFlags := 1, code := some k9c9 }
def k9c10 : Code := { maxStack := 5, maxLocals := 4, code := jdk_42_method_147_code, exceptionTable := #[], attributes := #[] }
def k9m10 : Method := { name := "getBytes", desc := "([BIB)V", sig := { parameters := [(.array .byte), .int, .byte], returnType := none }, accessFlags := 0, code := some k9c10 }
def k9c11 : Code := { maxStack := 5, maxLocals := 5, code := jdk_42_method_150_code, exceptionTable := #[], attributes := #[] }
def k9m11 : Method := { name := "<init>", desc := "(Ljava/lang/AbstractStringBuilder;Ljava/lang/Void;)V", sig := { parameters := [(.object "java/lang/AbstractStringBuilder"), (.object "java/lang/Void")], returnType := none }, accessFlags := 0, code := some k9c11 }
def k9c12 : Code := { maxStack := 1, maxLocals := 1, code := jdk_42_method_152_code, exceptionTable := #[], attributes := #[] }
def k9m12 : Method := { name := "coder", desc := "()B", sig := { parameters := [], returnType := some .byte }, accessFlags := 0, code := some k9c12 }
def k9c13 : Code := { maxStack := 1, maxLocals := 1, code := jdk_42_method_154_code, exceptionTable := #[], attributes := #[] }
def k9m13 : Method := { name := "isLatin1", desc := "()Z", sig := { parameters := [], returnType := some .boolean }, accessFlags := 0, code := some k9c13 }
def k9c14 : Code := { maxStack := 3, maxLocals := 2, code := jdk_42_method_155_code, exceptionTable := #[], attributes := #[] }
def k9m14 : Method := { name := "checkIndex", desc := "(II)V", sig := { parameters := [.int, .int], returnType := none }, accessFlags := 8, code := some k9c14 }
def k9c15 : Code := { maxStack := 4, maxLocals := 3, code := jdk_42_method_157_code, exceptionTable := #[], attributes := #[] }
def k9m15 : Method := { name := "checkBoundsOffCount", desc := "(III)I", sig := { parameters := [.int, .int, .int], returnType := some .int }, accessFlags := 8, code := some k9c15 }
/-- java/lang/String -/
def k9 : Class := { plain "java/lang/String" (some 0) with
  accessFlags := 49
  interfaces := #[4, 5, 6, 7, 8]
  cf := some (fileOf pool9 10 #[.nestMembers #[1103]] #[{ accessFlags := 1, nameIndex := 5, descriptorIndex := 6, attributes := #[] }, { accessFlags := 2, nameIndex := 5, descriptorIndex := 77, attributes := #[] }, { accessFlags := 10, nameIndex := 387, descriptorIndex := 388, attributes := #[] }, { accessFlags := 10, nameIndex := 409, descriptorIndex := 410, attributes := #[] }, { accessFlags := 10, nameIndex := 433, descriptorIndex := 410, attributes := #[] }, { accessFlags := 10, nameIndex := 114, descriptorIndex := 115, attributes := #[] }, { accessFlags := 1, nameIndex := 5, descriptorIndex := 1229, attributes := #[] }, { accessFlags := 1, nameIndex := 5, descriptorIndex := 1233, attributes := #[] }, { accessFlags := 1, nameIndex := 507, descriptorIndex := 334, attributes := #[] }, { accessFlags := 1, nameIndex := 497, descriptorIndex := 427, attributes := #[] }, { accessFlags := 0, nameIndex := 532, descriptorIndex := 821, attributes := #[] }, { accessFlags := 0, nameIndex := 5, descriptorIndex := 491, attributes := #[] }, { accessFlags := 0, nameIndex := 17, descriptorIndex := 337, attributes := #[] }, { accessFlags := 0, nameIndex := 494, descriptorIndex := 142, attributes := #[] }, { accessFlags := 8, nameIndex := 501, descriptorIndex := 391, attributes := #[] }, { accessFlags := 8, nameIndex := 36, descriptorIndex := 37, attributes := #[] }] 49 2 #[1106, 1108, 575, 1110, 1112] #[{ accessFlags := 18, nameIndex := 13, descriptorIndex := 14, attributes := #[] }, { accessFlags := 18, nameIndex := 17, descriptorIndex := 18, attributes := #[] }, { accessFlags := 2, nameIndex := 21, descriptorIndex := 22, attributes := #[] }, { accessFlags := 2, nameIndex := 25, descriptorIndex := 26, attributes := #[] }, { accessFlags := 26, nameIndex := 1116, descriptorIndex := 1117, attributes := #[] }, { accessFlags := 24, nameIndex := 40, descriptorIndex := 26, attributes := #[] }, { accessFlags := 26, nameIndex := 1101, descriptorIndex := 1102, attributes := #[] }, { accessFlags := 26, nameIndex := 1121, descriptorIndex := 1122, attributes := #[] }, { accessFlags := 25, nameIndex := 599, descriptorIndex := 600, attributes := #[] }, { accessFlags := 24, nameIndex := 1125, descriptorIndex := 18, attributes := #[] }, { accessFlags := 24, nameIndex := 1127, descriptorIndex := 18, attributes := #[] }])
  fields := #[{ name := "value", type := (.array .byte), accessFlags := 18, slot := 0, constantValue := 0 }, { name := "coder", type := .byte, accessFlags := 18, slot := 1, constantValue := 0 }, { name := "hash", type := .int, accessFlags := 2, slot := 2, constantValue := 0 }, { name := "hashIsZero", type := .boolean, accessFlags := 2, slot := 3, constantValue := 0 }, { name := "serialVersionUID", type := .long, accessFlags := 26, slot := 0, constantValue := 0 }, { name := "COMPACT_STRINGS", type := .boolean, accessFlags := 24, slot := 1, constantValue := 0 }, { name := "serialPersistentFields", type := (.array (.object "java/io/ObjectStreamField")), accessFlags := 26, slot := 2, constantValue := 0 }, { name := "REPL", type := .char, accessFlags := 26, slot := 3, constantValue := 0 }, { name := "CASE_INSENSITIVE_ORDER", type := (.object "java/util/Comparator"), accessFlags := 25, slot := 4, constantValue := 0 }, { name := "LATIN1", type := .byte, accessFlags := 24, slot := 5, constantValue := 0 }, { name := "UTF16", type := .byte, accessFlags := 24, slot := 6, constantValue := 0 }]
  methods := #[k9m0, k9m1, k9m2, k9m3, k9m4, k9m5, k9m6, k9m7, k9m8, k9m9, k9m10, k9m11, k9m12, k9m13, k9m14, k9m15]
  instanceTypes := #[(.array .byte), .byte, .int, .boolean]
  staticTypes := #[.long, .boolean, (.array (.object "java/io/ObjectStreamField")), .char, (.object "java/util/Comparator"), .byte, .byte]
  resolved := Array.replicate 1451 none
  statics := some 0 }

def pool10 : Array CpInfo := pool [(2, .class_ 4), (1, u "java/lang/Object"), (0, u "<init>"), (0, u "()V"), (35, .class_ 44), (1, u "java/util/Objects"), (0, u "requireNonNull"), (0, u "(Ljava/lang/Object;)Ljava/lang/Object;"), (47, u "(Ljava/lang/Object;Ljava/lang/String;)Ljava/lang/Object;")] 89

def k10m0 : Method := { name := "<init>", desc := "()V", sig := { parameters := [], returnType := none }, accessFlags := 2, code := none }
def k10c1 : Code := { maxStack := 2, maxLocals := 1, code := jdk_31_method_10_code, exceptionTable := #[], attributes := #[] }
def k10m1 : Method := { name := "requireNonNull", desc := "(Ljava/lang/Object;)Ljava/lang/Object;", sig := { parameters := [(.object "java/lang/Object")], returnType := some (.object "java/lang/Object") }, accessFlags := 9, code := some k10c1 }
def k10c2 : Code := { maxStack := 3, maxLocals := 2, code := jdk_31_method_11_code, exceptionTable := #[], attributes := #[] }
def k10m2 : Method := { name := "requireNonNull", desc := "(Ljava/lang/Object;Ljava/lang/String;)Ljava/lang/Object;", sig := { parameters := [(.object "java/lang/Object"), (.object "java/lang/String")], returnType := some (.object "java/lang/Object") }, accessFlags := 9, code := some k10c2 }
/-- java/util/Objects -/
def k10 : Class := { plain "java/util/Objects" (some 0) with
  accessFlags := 49
  interfaces := #[]
  cf := some (fileOf pool10 42 #[] #[{ accessFlags := 2, nameIndex := 5, descriptorIndex := 6, attributes := #[] }, { accessFlags := 9, nameIndex := 45, descriptorIndex := 46, attributes := #[] }, { accessFlags := 9, nameIndex := 45, descriptorIndex := 94, attributes := #[] }] 49 2 #[] #[])
  fields := #[]
  methods := #[k10m0, k10m1, k10m2]
  instanceTypes := #[]
  staticTypes := #[]
  resolved := Array.replicate 184 none
  statics := none }

def pool11 : Array CpInfo := pool [(1, .class_ 2), (0, u "java/lang/Appendable"), (0, .class_ 4), (0, u "java/lang/Object")] 9

/-- java/lang/Appendable -/
def k11 : Class := { plain "java/lang/Appendable" (some 0) with
  accessFlags := 1537
  interfaces := #[]
  cf := some (fileOf pool11 1 #[] #[] 1537 3 #[] #[])
  fields := #[]
  methods := #[]
  instanceTypes := #[]
  staticTypes := #[]
  resolved := Array.replicate 14 none
  statics := none }

def pool12 : Array CpInfo := pool [(1, .class_ 2), (0, u "java/lang/String"), (0, .methodref 4 5), (0, .class_ 6), (0, .nameAndType 7 8), (0, u "java/lang/Object"), (0, u "<init>"), (0, u "()V"), (1, .class_ 12), (1, u "java/lang/AbstractStringBuilder"), (0, u "EMPTYVALUE"), (0, u "[B"), (0, .fieldref 10 16), (0, .nameAndType 17 14), (0, u "value"), (0, .fieldref 1 19), (0, .nameAndType 20 21), (0, u "COMPACT_STRINGS"), (0, u "Z"), (0, .fieldref 10 23), (0, .nameAndType 24 25), (0, u "coder"), (0, u "B"), (0, .methodref 27 28), (0, .class_ 29), (0, .nameAndType 30 31), (0, u "java/lang/StringUTF16"), (0, u "newBytesFor"), (0, u "(I)[B"), (0, .methodref 1 33), (0, .nameAndType 34 35), (0, u "length"), (0, u "()I"), (4, .methodref 1 41), (0, .nameAndType 24 42), (0, u "()B"), (2, u "append"), (0, u "(Ljava/lang/String;)Ljava/lang/AbstractStringBuilder;"), (1, .class_ 49), (0, u "java/lang/CharSequence"), (19, u "(Ljava/lang/String;)V"), (5, u "maybeLatin1"), (3, .fieldref 10 80), (0, .nameAndType 81 82), (0, u "count"), (0, u "I"), (0, .methodref 10 84), (0, .nameAndType 85 86), (0, u "isLatin1"), (0, u "()Z"), (1, .class_ 90), (1, u "java/lang/StringLatin1"), (9, .methodref 10 101), (0, .nameAndType 102 103), (0, u "ensureCapacityInternal"), (0, u "(I)V"), (21, .methodref 88 126), (0, .nameAndType 127 128), (0, u "inflate"), (0, u "([BI[BII)V"), (66, .methodref 10 196), (0, .nameAndType 127 8), (11, .methodref 10 209), (0, .nameAndType 210 211), (0, u "putStringAt"), (0, u "(ILjava/lang/String;)V"), (5, u "inflateIfNeededFor"), (2, .nameAndType 221 222), (0, u "getBytes"), (0, u "([BIB)V"), (174, .methodref 10 398), (0, .nameAndType 217 69), (0, .methodref 1 220), (3, u "()[B"), (40, .class_ 445), (0, u "java/lang/Appendable"), (106, u "getValue")] 56

def k12m0 : Method := { name := "<init>", desc := "()V", sig := { parameters := [], returnType := none }, accessFlags := 0, code := none }
def k12c1 : Code := { maxStack := 2, maxLocals := 2, code := jdk_68_method_2_code, exceptionTable := #[], attributes := #[] }
def k12m1 : Method := { name := "<init>", desc := "(I)V", sig := { parameters := [.int], returnType := none }, accessFlags := 0, code := some k12c1 }
def k12c2 : Code := { maxStack := 1, maxLocals := 1, code := jdk_68_method_6_code, exceptionTable := #[], attributes := #[] }
def k12m2 : Method := { name := "length", desc := "()I", sig := { parameters := [], returnType := some .int }, accessFlags := 1, code := some k12c2 }
def k12c3 : Code := { maxStack := 4, maxLocals := 3, code := jdk_68_method_9_code, exceptionTable := #[], attributes := #[] }
def k12m3 : Method := { name := "ensureCapacityInternal", desc := "(I)V", sig := { parameters := [.int], returnType := none }, accessFlags := 2, code := some k12c3 }
def k12c4 : Code := { maxStack := 5, maxLocals := 2, code := jdk_68_method_11_code, exceptionTable := #[], attributes := #[] }
def k12m4 : Method := { name := "inflate", desc := "()V", sig := { parameters := [], returnType := none }, accessFlags := 2, code := some k12c4 }
def k12c5 : Code := { maxStack := 3, maxLocals := 3, code := jdk_68_method_22_code, exceptionTable := #[], attributes := #[] }
def k12m5 : Method := { name := "append", desc := "(Ljava/lang/String;)Ljava/lang/AbstractStringBuilder;", sig := { parameters := [(.object "java/lang/String")], returnType := some (.object "java/lang/AbstractStringBuilder") }, accessFlags := 1, code := some k12c5 }
def k12c6 : Code := { maxStack := 1, maxLocals := 1, code := jdk_68_method_64_code, exceptionTable := #[], attributes := #[] }
def k12m6 : Method := { name := "getValue", desc := "()[B", sig := { parameters := [], returnType := some (.array .byte) }, accessFlags := 16, code := some k12c6 }
def k12c7 : Code := { maxStack := 1, maxLocals := 1, code := jdk_68_method_68_code, exceptionTable := #[], attributes := #[] }
def k12m7 : Method := { name := "isLatin1", desc := "()Z", sig := { parameters := [], returnType := some .boolean }, accessFlags := 16, code := some k12c7 }
def k12c8 : Code := { maxStack := 2, maxLocals := 2, code := jdk_68_method_71_code, exceptionTable := #[], attributes := #[] }
def k12m8 : Method := { name := "inflateIfNeededFor", desc := "(Ljava/lang/String;)V", sig := { parameters := [(.object "java/lang/String")], returnType := none }, accessFlags := 2, code := some k12c8 }
def k12c9 : Code := { maxStack := 4, maxLocals := 3, code := jdk_68_method_73_code, exceptionTable := #[], attributes := #[] }
def k12m9 : Method := { name := "putStringAt", desc := "(ILjava/lang/String;)V", sig := { parameters := [.int, (.object "java/lang/String")], returnType := none }, accessFlags := 2, code := some k12c9 }
/-- java/lang/AbstractStringBuilder -/
def k12 : Class := { plain "java/lang/AbstractStringBuilder" (some 0) with
  accessFlags := 1056
  interfaces := #[11, 6]
  cf := some (fileOf pool12 10 #[] #[{ accessFlags := 0, nameIndex := 7, descriptorIndex := 8, attributes := #[] }, { accessFlags := 0, nameIndex := 7, descriptorIndex := 103, attributes := #[] }, { accessFlags := 1, nameIndex := 34, descriptorIndex := 35, attributes := #[] }, { accessFlags := 2, nameIndex := 102, descriptorIndex := 103, attributes := #[] }, { accessFlags := 2, nameIndex := 127, descriptorIndex := 8, attributes := #[] }, { accessFlags := 1, nameIndex := 45, descriptorIndex := 46, attributes := #[] }, { accessFlags := 16, nameIndex := 552, descriptorIndex := 403, attributes := #[] }, { accessFlags := 16, nameIndex := 85, descriptorIndex := 86, attributes := #[] }, { accessFlags := 2, nameIndex := 217, descriptorIndex := 69, attributes := #[] }, { accessFlags := 2, nameIndex := 210, descriptorIndex := 211, attributes := #[] }] 1056 4 #[444, 48] #[{ accessFlags := 0, nameIndex := 17, descriptorIndex := 14, attributes := #[] }, { accessFlags := 0, nameIndex := 24, descriptorIndex := 25, attributes := #[] }, { accessFlags := 0, nameIndex := 75, descriptorIndex := 21, attributes := #[] }, { accessFlags := 0, nameIndex := 81, descriptorIndex := 82, attributes := #[] }, { accessFlags := 26, nameIndex := 13, descriptorIndex := 14, attributes := #[] }])
  fields := #[{ name := "value", type := (.array .byte), accessFlags := 0, slot := 0, constantValue := 0 }, { name := "coder", type := .byte, accessFlags := 0, slot := 1, constantValue := 0 }, { name := "maybeLatin1", type := .boolean, accessFlags := 0, slot := 2, constantValue := 0 }, { name := "count", type := .int, accessFlags := 0, slot := 3, constantValue := 0 }, { name := "EMPTYVALUE", type := (.array .byte), accessFlags := 26, slot := 0, constantValue := 0 }]
  methods := #[k12m0, k12m1, k12m2, k12m3, k12m4, k12m5, k12m6, k12m7, k12m8, k12m9]
  instanceTypes := #[(.array .byte), .byte, .boolean, .int]
  staticTypes := #[(.array .byte)]
  resolved := Array.replicate 609 none
  statics := none }

def pool13 : Array CpInfo := pool [(1, .methodref 2 3), (0, .class_ 4), (0, .nameAndType 5 6), (0, u "java/lang/AbstractStringBuilder"), (0, u "<init>"), (0, u "(I)V"), (11, .class_ 20), (1, u "java/lang/String"), (3, .class_ 26), (1, u "java/lang/StringBuilder"), (0, u "append"), (0, u "(Ljava/lang/String;)Ljava/lang/StringBuilder;"), (0, .methodref 2 30), (0, .nameAndType 27 31), (0, u "(Ljava/lang/String;)Ljava/lang/AbstractStringBuilder;"), (105, .methodref 18 138), (0, .nameAndType 5 139), (0, u "(Ljava/lang/StringBuilder;)V"), (5, u "()V"), (10, u "()I"), (186, .methodref 2 344), (0, .nameAndType 345 156), (0, u "length"), (3, .class_ 350), (0, u "java/lang/Appendable"), (0, .class_ 352), (0, u "java/io/Serializable"), (0, .class_ 354), (0, u "java/lang/Comparable"), (0, .class_ 356), (0, u "java/lang/CharSequence"), (0, u "serialVersionUID"), (0, u "J"), (40, u "toString"), (0, u "()Ljava/lang/String;")] 21

def k13c0 : Code := { maxStack := 2, maxLocals := 1, code := jdk_67_method_1_code, exceptionTable := #[], attributes := #[] }
def k13m0 : Method := { name := "<init>", desc := "()V", sig := { parameters := [], returnType := none }, accessFlags := 1, code := some k13c0 }
def k13c1 : Code := { maxStack := 2, maxLocals := 2, code := jdk_67_method_7_code, exceptionTable := #[], attributes := #[] }
def k13m1 : Method := { name := "append", desc := "(Ljava/lang/String;)Ljava/lang/StringBuilder;", sig := { parameters := [(.object "java/lang/String")], returnType := some (.object "java/lang/StringBuilder") }, accessFlags := 1, code := some k13c1 }
def k13c2 : Code := { maxStack := 3, maxLocals := 1, code := jdk_67_method_42_code, exceptionTable := #[], attributes := #[] }
def k13m2 : Method := { name := "toString", desc := "()Ljava/lang/String;", sig := { parameters := [], returnType := some (.object "java/lang/String") }, accessFlags := 1, code := some k13c2 }
def k13c3 : Code := { maxStack := 1, maxLocals := 1, code := jdk_67_method_93_code, exceptionTable := #[], attributes := #[] }
def k13m3 : Method := { name := "length", desc := "()I", sig := { parameters := [], returnType := some .int }, accessFlags := 4161, code := some k13c3 }
/-- java/lang/StringBuilder -/
def k13 : Class := { plain "java/lang/StringBuilder" (some 12) with
  accessFlags := 49
  interfaces := #[11, 4, 5, 6]
  cf := some (fileOf pool13 24 #[] #[{ accessFlags := 1, nameIndex := 5, descriptorIndex := 145, attributes := #[] }, { accessFlags := 1, nameIndex := 27, descriptorIndex := 28, attributes := #[] }, { accessFlags := 1, nameIndex := 399, descriptorIndex := 400, attributes := #[] }, { accessFlags := 4161, nameIndex := 345, descriptorIndex := 156, attributes := #[] }] 49 2 #[349, 351, 353, 355] #[{ accessFlags := 24, nameIndex := 357, descriptorIndex := 358, attributes := #[] }])
  fields := #[{ name := "serialVersionUID", type := .long, accessFlags := 24, slot := 0, constantValue := 0 }]
  methods := #[k13m0, k13m1, k13m2, k13m3]
  instanceTypes := #[(.array .byte), .byte, .boolean, .int]
  staticTypes := #[.long]
  resolved := Array.replicate 422 none
  statics := none }

def pool14 : Array CpInfo := pool [(2, .class_ 4), (1, u "java/lang/Object"), (0, u "<init>"), (0, u "()V"), (14, .class_ 23), (1, u "java/nio/charset/StandardCharsets"), (0, u "US_ASCII"), (0, u "Ljava/nio/charset/Charset;"), (7, u "ISO_8859_1"), (7, u "UTF_8"), (5, u "UTF_16BE"), (5, u "UTF_16LE"), (5, u "UTF_16")] 8

def k14m0 : Method := { name := "<init>", desc := "()V", sig := { parameters := [], returnType := none }, accessFlags := 2, code := none }
/-- java/nio/charset/StandardCharsets -/
def k14 : Class := { plain "java/nio/charset/StandardCharsets" (some 0) with
  accessFlags := 49
  interfaces := #[]
  cf := some (fileOf pool14 21 #[] #[{ accessFlags := 2, nameIndex := 5, descriptorIndex := 6, attributes := #[] }] 49 2 #[] #[{ accessFlags := 25, nameIndex := 24, descriptorIndex := 25, attributes := #[] }, { accessFlags := 25, nameIndex := 33, descriptorIndex := 25, attributes := #[] }, { accessFlags := 25, nameIndex := 41, descriptorIndex := 25, attributes := #[] }, { accessFlags := 25, nameIndex := 47, descriptorIndex := 25, attributes := #[] }, { accessFlags := 25, nameIndex := 53, descriptorIndex := 25, attributes := #[] }, { accessFlags := 25, nameIndex := 59, descriptorIndex := 25, attributes := #[] }])
  fields := #[{ name := "US_ASCII", type := (.object "java/nio/charset/Charset"), accessFlags := 25, slot := 0, constantValue := 0 }, { name := "ISO_8859_1", type := (.object "java/nio/charset/Charset"), accessFlags := 25, slot := 1, constantValue := 0 }, { name := "UTF_8", type := (.object "java/nio/charset/Charset"), accessFlags := 25, slot := 2, constantValue := 0 }, { name := "UTF_16BE", type := (.object "java/nio/charset/Charset"), accessFlags := 25, slot := 3, constantValue := 0 }, { name := "UTF_16LE", type := (.object "java/nio/charset/Charset"), accessFlags := 25, slot := 4, constantValue := 0 }, { name := "UTF_16", type := (.object "java/nio/charset/Charset"), accessFlags := 25, slot := 5, constantValue := 0 }]
  methods := #[k14m0]
  instanceTypes := #[]
  staticTypes := #[(.object "java/nio/charset/Charset"), (.object "java/nio/charset/Charset"), (.object "java/nio/charset/Charset"), (.object "java/nio/charset/Charset"), (.object "java/nio/charset/Charset"), (.object "java/nio/charset/Charset")]
  resolved := Array.replicate 68 none
  statics := some 1 }

def pool15 : Array CpInfo := pool [(18, .class_ 20), (1, u "java/nio/charset/Charset"), (0, u "cache1"), (0, u "[Ljava/lang/Object;"), (2, u "cache2"), (0, .class_ 27), (0, u "java/lang/Object"), (0, .class_ 29), (0, u "java/nio/charset/Charset$1"), (4, .class_ 36), (1, u "java/nio/charset/Charset$ThreadTrackHolder"), (21, .class_ 59), (0, u "java/nio/charset/Charset$2"), (11, .class_ 73), (1, u "java/nio/charset/Charset$ExtendedProviderHolder"), (22, u "standardProvider"), (0, u "Ljava/nio/charset/spi/CharsetProvider;"), (29, u "name"), (7, .class_ 136), (0, u "java/nio/charset/Charset$3"), (5, u "defaultCharset"), (0, u "Ljava/nio/charset/Charset;"), (14, u "zeroAliases"), (0, u "[Ljava/lang/String;"), (29, u "Ljava/lang/String;"), (2, u "aliases"), (2, u "aliasSet"), (0, u "Ljava/util/Set;"), (82, .class_ 280), (0, u "java/lang/Comparable"), (84, .class_ 366), (0, u "java/nio/charset/Charset$ExtendedProviderHolder$1")] 3

/-- java/nio/charset/Charset -/
def k15 : Class := { plain "java/nio/charset/Charset" (some 0) with
  accessFlags := 1057
  interfaces := #[5]
  cf := some (fileOf pool15 18 #[.nestMembers #[71, 365, 34, 135, 58, 28]] #[] 1057 26 #[279] #[{ accessFlags := 26, nameIndex := 96, descriptorIndex := 97, attributes := #[] }, { accessFlags := 26, nameIndex := 158, descriptorIndex := 159, attributes := #[] }, { accessFlags := 74, nameIndex := 21, descriptorIndex := 22, attributes := #[] }, { accessFlags := 74, nameIndex := 25, descriptorIndex := 22, attributes := #[] }, { accessFlags := 10, nameIndex := 142, descriptorIndex := 143, attributes := #[] }, { accessFlags := 18, nameIndex := 127, descriptorIndex := 189, attributes := #[] }, { accessFlags := 18, nameIndex := 192, descriptorIndex := 159, attributes := #[] }, { accessFlags := 2, nameIndex := 195, descriptorIndex := 196, attributes := #[] }])
  fields := #[{ name := "standardProvider", type := (.object "java/nio/charset/spi/CharsetProvider"), accessFlags := 26, slot := 0, constantValue := 0 }, { name := "zeroAliases", type := (.array (.object "java/lang/String")), accessFlags := 26, slot := 1, constantValue := 0 }, { name := "cache1", type := (.array (.object "java/lang/Object")), accessFlags := 74, slot := 2, constantValue := 0 }, { name := "cache2", type := (.array (.object "java/lang/Object")), accessFlags := 74, slot := 3, constantValue := 0 }, { name := "defaultCharset", type := (.object "java/nio/charset/Charset"), accessFlags := 10, slot := 4, constantValue := 0 }, { name := "name", type := (.object "java/lang/String"), accessFlags := 18, slot := 0, constantValue := 0 }, { name := "aliases", type := (.array (.object "java/lang/String")), accessFlags := 18, slot := 1, constantValue := 0 }, { name := "aliasSet", type := (.object "java/util/Set"), accessFlags := 2, slot := 2, constantValue := 0 }]
  methods := #[]
  instanceTypes := #[(.object "java/lang/String"), (.array (.object "java/lang/String")), (.object "java/util/Set")]
  staticTypes := #[(.object "java/nio/charset/spi/CharsetProvider"), (.array (.object "java/lang/String")), (.array (.object "java/lang/Object")), (.array (.object "java/lang/Object")), (.object "java/nio/charset/Charset")]
  resolved := Array.replicate 370 none
  statics := none }

def pool16 : Array CpInfo := pool [(1, .class_ 2), (0, u "sun/nio/cs/HistoricallyNamedCharset"), (0, .class_ 4), (0, u "java/lang/Object")] 4

/-- sun/nio/cs/HistoricallyNamedCharset -/
def k16 : Class := { plain "sun/nio/cs/HistoricallyNamedCharset" (some 0) with
  accessFlags := 1537
  interfaces := #[]
  cf := some (fileOf pool16 1 #[] #[] 1537 3 #[] #[])
  fields := #[]
  methods := #[]
  instanceTypes := #[]
  staticTypes := #[]
  resolved := Array.replicate 9 none
  statics := none }

def pool17 : Array CpInfo := pool [(2, .class_ 4), (1, u "java/nio/charset/Charset"), (130, .class_ 136), (0, u "sun/nio/cs/Unicode"), (0, .class_ 138), (0, u "sun/nio/cs/HistoricallyNamedCharset")] 15

/-- sun/nio/cs/Unicode -/
def k17 : Class := { plain "sun/nio/cs/Unicode" (some 15) with
  accessFlags := 1056
  interfaces := #[16]
  cf := some (fileOf pool17 135 #[] #[] 1056 2 #[137] #[])
  fields := #[]
  methods := #[]
  instanceTypes := #[(.object "java/lang/String"), (.array (.object "java/lang/String")), (.object "java/util/Set")]
  staticTypes := #[]
  resolved := Array.replicate 154 none
  statics := none }

def pool18 : Array CpInfo := pool [(10, .class_ 12), (1, u "sun/nio/cs/Unicode"), (0, u "<init>"), (3, .class_ 18), (0, u "sun/nio/cs/UTF_8$Decoder"), (3, .class_ 23), (0, u "sun/nio/cs/UTF_8$Encoder"), (15, .class_ 40), (0, u "sun/nio/cs/UTF_8"), (2, u "()V"), (2, u "INSTANCE"), (0, u "Lsun/nio/cs/UTF_8;"), (8, u "JLA"), (0, u "Ljdk/internal/access/JavaLangAccess;")] 26

def k18m0 : Method := { name := "<init>", desc := "()V", sig := { parameters := [], returnType := none }, accessFlags := 1, code := none }
/-- sun/nio/cs/UTF_8 -/
def k18 : Class := { plain "sun/nio/cs/UTF_8" (some 17) with
  accessFlags := 49
  interfaces := #[]
  cf := some (fileOf pool18 39 #[.nestMembers #[22, 17]] #[{ accessFlags := 1, nameIndex := 13, descriptorIndex := 43, attributes := #[] }] 49 10 #[] #[{ accessFlags := 25, nameIndex := 46, descriptorIndex := 47, attributes := #[] }, { accessFlags := 26, nameIndex := 56, descriptorIndex := 57, attributes := #[] }])
  fields := #[{ name := "INSTANCE", type := (.object "sun/nio/cs/UTF_8"), accessFlags := 25, slot := 0, constantValue := 0 }, { name := "JLA", type := (.object "jdk/internal/access/JavaLangAccess"), accessFlags := 26, slot := 1, constantValue := 0 }]
  methods := #[k18m0]
  instanceTypes := #[(.object "java/lang/String"), (.array (.object "java/lang/String")), (.object "java/util/Set")]
  staticTypes := #[(.object "sun/nio/cs/UTF_8"), (.object "jdk/internal/access/JavaLangAccess")]
  resolved := Array.replicate 84 none
  statics := some 2 }

def pool19 : Array CpInfo := pool [(2, .class_ 4), (1, u "java/lang/Object"), (0, u "<init>"), (0, u "()V"), (1, .class_ 10), (1, u "java/lang/System"), (0, u "allowSecurityManager"), (0, u "I"), (16, u "cons"), (0, u "Ljava/io/Console;"), (77, .class_ 110), (1, u "java/lang/System$CallersHolder"), (43, u "initialErrStream"), (0, u "Ljava/io/PrintStream;"), (19, u "security"), (0, u "Ljava/lang/SecurityManager;"), (31, .class_ 209), (0, u "java/lang/System$1"), (7, u "props"), (0, u "Ljava/util/Properties;"), (2, u "lineSeparator"), (0, u "Ljava/lang/String;"), (96, .class_ 321), (1, u "java/lang/System$LoggerFinder"), (5, .class_ 328), (0, u "java/lang/System$Logger"), (67, u "err"), (2, u "out"), (91, u "notSupportedJnuEncoding"), (15, u "in"), (17, u "initialIn"), (0, u "Ljava/io/InputStream;"), (35, u "bootLayer"), (0, u "Ljava/lang/ModuleLayer;"), (99, .class_ 664), (0, u "java/lang/System$2"), (9, u "NEVER"), (2, u "MAYBE"), (49, u "arraycopy"), (0, u "(Ljava/lang/Object;ILjava/lang/Object;II)V"), (72, .class_ 802), (0, u "java/lang/System$Logger$Level")] 31

def k19m0 : Method := { name := "<init>", desc := "()V", sig := { parameters := [], returnType := none }, accessFlags := 2, code := none }
def k19m1 : Method := { name := "arraycopy", desc := "(Ljava/lang/Object;ILjava/lang/Object;II)V", sig := { parameters := [(.object "java/lang/Object"), .int, (.object "java/lang/Object"), .int, .int], returnType := none }, accessFlags := 265, code := none }
/-- java/lang/System -/
def k19 : Class := { plain "java/lang/System" (some 0) with
  accessFlags := 49
  interfaces := #[]
  cf := some (fileOf pool19 8 #[.nestMembers #[319, 327, 801, 108, 663, 208]] #[{ accessFlags := 2, nameIndex := 5, descriptorIndex := 6, attributes := #[] }, { accessFlags := 265, nameIndex := 727, descriptorIndex := 728, attributes := #[] }] 49 2 #[] #[{ accessFlags := 25, nameIndex := 507, descriptorIndex := 526, attributes := #[] }, { accessFlags := 25, nameIndex := 399, descriptorIndex := 155, attributes := #[] }, { accessFlags := 25, nameIndex := 396, descriptorIndex := 155, attributes := #[] }, { accessFlags := 10, nameIndex := 525, descriptorIndex := 526, attributes := #[] }, { accessFlags := 26, nameIndex := 674, descriptorIndex := 12, attributes := #[] }, { accessFlags := 26, nameIndex := 677, descriptorIndex := 12, attributes := #[] }, { accessFlags := 10, nameIndex := 11, descriptorIndex := 12, attributes := #[] }, { accessFlags := 74, nameIndex := 175, descriptorIndex := 176, attributes := #[] }, { accessFlags := 10, nameIndex := 491, descriptorIndex := 222, attributes := #[] }, { accessFlags := 74, nameIndex := 29, descriptorIndex := 30, attributes := #[] }, { accessFlags := 74, nameIndex := 154, descriptorIndex := 155, attributes := #[] }, { accessFlags := 10, nameIndex := 217, descriptorIndex := 218, attributes := #[] }, { accessFlags := 10, nameIndex := 221, descriptorIndex := 222, attributes := #[] }, { accessFlags := 8, nameIndex := 562, descriptorIndex := 563, attributes := #[] }])
  fields := #[{ name := "in", type := (.object "java/io/InputStream"), accessFlags := 25, slot := 0, constantValue := 0 }, { name := "out", type := (.object "java/io/PrintStream"), accessFlags := 25, slot := 1, constantValue := 0 }, { name := "err", type := (.object "java/io/PrintStream"), accessFlags := 25, slot := 2, constantValue := 0 }, { name := "initialIn", type := (.object "java/io/InputStream"), accessFlags := 10, slot := 3, constantValue := 0 }, { name := "NEVER", type := .int, accessFlags := 26, slot := 4, constantValue := 0 }, { name := "MAYBE", type := .int, accessFlags := 26, slot := 5, constantValue := 0 }, { name := "allowSecurityManager", type := .int, accessFlags := 10, slot := 6, constantValue := 0 }, { name := "security", type := (.object "java/lang/SecurityManager"), accessFlags := 74, slot := 7, constantValue := 0 }, { name := "notSupportedJnuEncoding", type := (.object "java/lang/String"), accessFlags := 10, slot := 8, constantValue := 0 }, { name := "cons", type := (.object "java/io/Console"), accessFlags := 74, slot := 9, constantValue := 0 }, { name := "initialErrStream", type := (.object "java/io/PrintStream"), accessFlags := 74, slot := 10, constantValue := 0 }, { name := "props", type := (.object "java/util/Properties"), accessFlags := 10, slot := 11, constantValue := 0 }, { name := "lineSeparator", type := (.object "java/lang/String"), accessFlags := 10, slot := 12, constantValue := 0 }, { name := "bootLayer", type := (.object "java/lang/ModuleLayer"), accessFlags := 8, slot := 13, constantValue := 0 }]
  methods := #[k19m0, k19m1]
  instanceTypes := #[]
  staticTypes := #[(.object "java/io/InputStream"), (.object "java/io/PrintStream"), (.object "java/io/PrintStream"), (.object "java/io/InputStream"), .int, .int, .int, (.object "java/lang/SecurityManager"), (.object "java/lang/String"), (.object "java/io/Console"), (.object "java/io/PrintStream"), (.object "java/util/Properties"), (.object "java/lang/String"), (.object "java/lang/ModuleLayer")]
  resolved := Array.replicate 834 none
  statics := none }

def pool20 : Array CpInfo := pool [(2, .class_ 4), (1, u "java/lang/Object"), (0, u "<init>"), (0, u "()V"), (7, .class_ 16), (1, u "java/util/Arrays"), (57, .class_ 76), (1, u "java/util/Arrays$NaturalOrder"), (32, u "()Ljava/lang/Object;"), (3, .class_ 115), (1, u "java/util/Arrays$LegacyMergeSort"), (1, u "Z"), (10, .nameAndType 129 109), (0, u "clone"), (9, u "copyOfRange"), (10, .methodref 151 152), (0, .class_ 153), (0, .nameAndType 154 155), (0, u "java/lang/System"), (0, u "arraycopy"), (0, u "(Ljava/lang/Object;ILjava/lang/Object;II)V"), (148, .methodref 305 306), (0, .class_ 307), (0, .nameAndType 308 309), (0, u "java/lang/Math"), (0, u "min"), (0, u "(II)I"), (0, .methodref 311 128), (0, .class_ 312), (0, u "[B"), (26, .methodref 14 340), (0, .nameAndType 341 342), (0, u "copyOfRangeByte"), (0, u "([BII)[B"), (0, .methodref 14 344), (0, .nameAndType 345 346), (0, u "checkLength"), (0, u "(II)V"), (28, .class_ 376), (0, u "java/util/Arrays$ArrayList"), (68, u "$assertionsDisabled"), (269, u "MIN_ARRAY_SORT_GRAN"), (0, u "I"), (2, u "INSERTIONSORT_THRESHOLD"), (255, .class_ 976), (0, u "java/util/Arrays$ArrayItr")] 52

def k20m0 : Method := { name := "<init>", desc := "()V", sig := { parameters := [], returnType := none }, accessFlags := 2, code := none }
def k20c1 : Code := { maxStack := 4, maxLocals := 2, code := jdk_65_method_131_code, exceptionTable := #[], attributes := #[] }
def k20m1 : Method := { name := "checkLength", desc := "(II)V", sig := { parameters := [.int, .int], returnType := none }, accessFlags := 10, code := some k20c1 }
def k20c2 : Code := { maxStack := 3, maxLocals := 3, code := jdk_65_method_132_code, exceptionTable := #[], attributes := #[] }
def k20m2 : Method := { name := "copyOfRange", desc := "([BII)[B", sig := { parameters := [(.array .byte), .int, .int], returnType := some (.array .byte) }, accessFlags := 9, code := some k20c2 }
def k20c3 : Code := { maxStack := 6, maxLocals := 5, code := jdk_65_method_133_code, exceptionTable := #[], attributes := #[] }
def k20m3 : Method := { name := "copyOfRangeByte", desc := "([BII)[B", sig := { parameters := [(.array .byte), .int, .int], returnType := some (.array .byte) }, accessFlags := 10, code := some k20c3 }
/-- java/util/Arrays -/
def k20 : Class := { plain "java/util/Arrays" (some 0) with
  accessFlags := 49
  interfaces := #[]
  cf := some (fileOf pool20 14 #[.nestMembers #[975, 375, 113, 74]] #[{ accessFlags := 2, nameIndex := 5, descriptorIndex := 6, attributes := #[] }, { accessFlags := 10, nameIndex := 345, descriptorIndex := 346, attributes := #[] }, { accessFlags := 9, nameIndex := 139, descriptorIndex := 342, attributes := #[] }, { accessFlags := 10, nameIndex := 341, descriptorIndex := 342, attributes := #[] }] 49 2 #[] #[{ accessFlags := 26, nameIndex := 715, descriptorIndex := 716, attributes := #[] }, { accessFlags := 26, nameIndex := 719, descriptorIndex := 716, attributes := #[] }, { accessFlags := 4120, nameIndex := 445, descriptorIndex := 117, attributes := #[] }])
  fields := #[{ name := "MIN_ARRAY_SORT_GRAN", type := .int, accessFlags := 26, slot := 0, constantValue := 0 }, { name := "INSERTIONSORT_THRESHOLD", type := .int, accessFlags := 26, slot := 1, constantValue := 0 }, { name := "$assertionsDisabled", type := .boolean, accessFlags := 4120, slot := 2, constantValue := 0 }]
  methods := #[k20m0, k20m1, k20m2, k20m3]
  instanceTypes := #[]
  staticTypes := #[.int, .int, .boolean]
  resolved := Array.replicate 1029 none
  statics := none }

def pool21 : Array CpInfo := pool [(1, .class_ 2), (0, u "java/lang/Math"), (1, .class_ 6), (1, u "java/lang/Object"), (0, u "<init>"), (0, u "()V"), (89, .class_ 100), (1, u "java/lang/Math$RandomNumberGeneratorHolder"), (71, u "negativeZeroFloatBits"), (0, u "J"), (2, u "negativeZeroDoubleBits"), (24, u "min"), (43, u "$assertionsDisabled"), (0, u "Z"), (88, u "(II)I"), (2, u "twoToTheDoubleScaleDown"), (0, u "D"), (4, u "twoToTheDoubleScaleUp"), (9, u "E"), (3, u "PI"), (2, u "TAU"), (2, u "DEGREES_TO_RADIANS"), (0, u "RADIANS_TO_DEGREES")] 94

def k21m0 : Method := { name := "<init>", desc := "()V", sig := { parameters := [], returnType := none }, accessFlags := 2, code := none }
def k21c1 : Code := { maxStack := 2, maxLocals := 2, code := jdk_29_method_69_code, exceptionTable := #[], attributes := #[] }
def k21m1 : Method := { name := "min", desc := "(II)I", sig := { parameters := [.int, .int], returnType := some .int }, accessFlags := 9, code := some k21c1 }
/-- java/lang/Math -/
def k21 : Class := { plain "java/lang/Math" (some 0) with
  accessFlags := 49
  interfaces := #[]
  cf := some (fileOf pool21 1 #[.nestMembers #[98]] #[{ accessFlags := 2, nameIndex := 7, descriptorIndex := 8, attributes := #[] }, { accessFlags := 9, nameIndex := 201, descriptorIndex := 335, attributes := #[] }] 49 4 #[] #[{ accessFlags := 25, nameIndex := 354, descriptorIndex := 339, attributes := #[] }, { accessFlags := 25, nameIndex := 358, descriptorIndex := 339, attributes := #[] }, { accessFlags := 25, nameIndex := 361, descriptorIndex := 339, attributes := #[] }, { accessFlags := 26, nameIndex := 364, descriptorIndex := 339, attributes := #[] }, { accessFlags := 26, nameIndex := 365, descriptorIndex := 339, attributes := #[] }, { accessFlags := 26, nameIndex := 172, descriptorIndex := 173, attributes := #[] }, { accessFlags := 26, nameIndex := 176, descriptorIndex := 173, attributes := #[] }, { accessFlags := 8, nameIndex := 344, descriptorIndex := 339, attributes := #[] }, { accessFlags := 8, nameIndex := 338, descriptorIndex := 339, attributes := #[] }, { accessFlags := 4120, nameIndex := 245, descriptorIndex := 246, attributes := #[] }])
  fields := #[{ name := "E", type := .double, accessFlags := 25, slot := 0, constantValue := 0 }, { name := "PI", type := .double, accessFlags := 25, slot := 1, constantValue := 0 }, { name := "TAU", type := .double, accessFlags := 25, slot := 2, constantValue := 0 }, { name := "DEGREES_TO_RADIANS", type := .double, accessFlags := 26, slot := 3, constantValue := 0 }, { name := "RADIANS_TO_DEGREES", type := .double, accessFlags := 26, slot := 4, constantValue := 0 }, { name := "negativeZeroFloatBits", type := .long, accessFlags := 26, slot := 5, constantValue := 0 }, { name := "negativeZeroDoubleBits", type := .long, accessFlags := 26, slot := 6, constantValue := 0 }, { name := "twoToTheDoubleScaleUp", type := .double, accessFlags := 8, slot := 7, constantValue := 0 }, { name := "twoToTheDoubleScaleDown", type := .double, accessFlags := 8, slot := 8, constantValue := 0 }, { name := "$assertionsDisabled", type := .boolean, accessFlags := 4120, slot := 9, constantValue := 0 }]
  methods := #[k21m0, k21m1]
  instanceTypes := #[]
  staticTypes := #[.double, .double, .double, .double, .double, .long, .long, .double, .double, .boolean]
  resolved := Array.replicate 460 none
  statics := none }

def pool22 : Array CpInfo := pool [(1, .class_ 2), (0, u "java/lang/String"), (1, .class_ 6), (1, u "java/lang/Object"), (0, u "<init>"), (0, u "()V"), (0, .methodref 1 10), (0, .nameAndType 11 12), (0, u "checkIndex"), (0, u "(II)V"), (1, .class_ 16), (1, u "java/lang/StringLatin1"), (0, u "inflate"), (2, .class_ 22), (1, u "java/lang/StringUTF16"), (3, .nameAndType 17 27), (0, u "([BI[BII)V"), (25, u "([BI)C"), (67, u "$assertionsDisabled"), (0, u "Z"), (98, .class_ 223), (1, u "java/lang/StringLatin1$LinesSpliterator"), (16, .methodref 20 26), (11, u "charAt"), (137, .class_ 391), (0, u "java/lang/StringLatin1$CharsSpliterator")] 3

def k22m0 : Method := { name := "<init>", desc := "()V", sig := { parameters := [], returnType := none }, accessFlags := 0, code := none }
def k22c1 : Code := { maxStack := 2, maxLocals := 2, code := jdk_43_method_2_code, exceptionTable := #[], attributes := #[] }
def k22m1 : Method := { name := "charAt", desc := "([BI)C", sig := { parameters := [(.array .byte), .int], returnType := some .char }, accessFlags := 9, code := some k22c1 }
def k22c2 : Code := { maxStack := 5, maxLocals := 5, code := jdk_43_method_50_code, exceptionTable := #[], attributes := #[] }
def k22m2 : Method := { name := "inflate", desc := "([BI[BII)V", sig := { parameters := [(.array .byte), .int, (.array .byte), .int, .int], returnType := none }, accessFlags := 9, code := some k22c2 }
/-- java/lang/StringLatin1 -/
def k22 : Class := { plain "java/lang/StringLatin1" (some 0) with
  accessFlags := 48
  interfaces := #[]
  cf := some (fileOf pool22 14 #[.nestMembers #[390, 221]] #[{ accessFlags := 0, nameIndex := 7, descriptorIndex := 8, attributes := #[] }, { accessFlags := 9, nameIndex := 252, descriptorIndex := 53, attributes := #[] }, { accessFlags := 9, nameIndex := 17, descriptorIndex := 27, attributes := #[] }] 48 4 #[] #[{ accessFlags := 4120, nameIndex := 121, descriptorIndex := 122, attributes := #[] }])
  fields := #[{ name := "$assertionsDisabled", type := .boolean, accessFlags := 4120, slot := 0, constantValue := 0 }]
  methods := #[k22m0, k22m1, k22m2]
  instanceTypes := #[]
  staticTypes := #[.boolean]
  resolved := Array.replicate 395 none
  statics := none }

def pool23 : Array CpInfo := pool [(2, .class_ 4), (1, u "java/lang/Object"), (0, u "<init>"), (0, u "()V"), (17, .class_ 26), (1, u "jdk/internal/util/Preconditions"), (6, u "checkIndex"), (15, u "checkFromIndexSize"), (5, .class_ 56), (0, u "jdk/internal/util/Preconditions$4"), (57, .class_ 115), (0, u "jdk/internal/util/Preconditions$1"), (7, u "SIOOBE_FORMATTER"), (0, u "Ljava/util/function/BiFunction;"), (0, .class_ 126), (0, u "jdk/internal/util/Preconditions$2"), (3, u "AIOOBE_FORMATTER"), (0, .class_ 132), (0, u "jdk/internal/util/Preconditions$3"), (3, u "IOOBE_FORMATTER"), (41, u "(IILjava/util/function/BiFunction;)I"), (4, u "(IIILjava/util/function/BiFunction;)I")] 10

def k23m0 : Method := { name := "<init>", desc := "()V", sig := { parameters := [], returnType := none }, accessFlags := 1, code := none }
def k23c1 : Code := { maxStack := 3, maxLocals := 3, code := jdk_41_method_11_code, exceptionTable := #[], attributes := #[] }
def k23m1 : Method := { name := "checkIndex", desc := "(IILjava/util/function/BiFunction;)I", sig := { parameters := [.int, .int, (.object "java/util/function/BiFunction")], returnType := some .int }, accessFlags := 9, code := some k23c1 }
def k23c2 : Code := { maxStack := 4, maxLocals := 4, code := jdk_41_method_13_code, exceptionTable := #[], attributes := #[] }
def k23m2 : Method := { name := "checkFromIndexSize", desc := "(IIILjava/util/function/BiFunction;)I", sig := { parameters := [.int, .int, .int, (.object "java/util/function/BiFunction")], returnType := some .int }, accessFlags := 9, code := some k23c2 }
/-- jdk/internal/util/Preconditions -/
def k23 : Class := { plain "jdk/internal/util/Preconditions" (some 0) with
  accessFlags := 33
  interfaces := #[]
  cf := some (fileOf pool23 24 #[.nestMembers #[55, 131, 125, 114]] #[{ accessFlags := 1, nameIndex := 5, descriptorIndex := 6, attributes := #[] }, { accessFlags := 9, nameIndex := 33, descriptorIndex := 178, attributes := #[] }, { accessFlags := 9, nameIndex := 49, descriptorIndex := 183, attributes := #[] }] 33 2 #[] #[{ accessFlags := 25, nameIndex := 123, descriptorIndex := 124, attributes := #[] }, { accessFlags := 25, nameIndex := 130, descriptorIndex := 124, attributes := #[] }, { accessFlags := 25, nameIndex := 136, descriptorIndex := 124, attributes := #[] }])
  fields := #[{ name := "SIOOBE_FORMATTER", type := (.object "java/util/function/BiFunction"), accessFlags := 25, slot := 0, constantValue := 0 }, { name := "AIOOBE_FORMATTER", type := (.object "java/util/function/BiFunction"), accessFlags := 25, slot := 1, constantValue := 0 }, { name := "IOOBE_FORMATTER", type := (.object "java/util/function/BiFunction"), accessFlags := 25, slot := 2, constantValue := 0 }]
  methods := #[k23m0, k23m1, k23m2]
  instanceTypes := #[]
  staticTypes := #[(.object "java/util/function/BiFunction"), (.object "java/util/function/BiFunction"), (.object "java/util/function/BiFunction")]
  resolved := Array.replicate 194 none
  statics := some 3 }

def pool24 : Array CpInfo := pool [(2, .class_ 4), (1, u "java/lang/Object"), (0, u "<init>"), (0, u "()V"), (1, .class_ 10), (1, u "java/lang/StringCoding"), (0, u "countPositives"), (0, u "([BII)I")] 36

def k24m0 : Method := { name := "<init>", desc := "()V", sig := { parameters := [], returnType := none }, accessFlags := 2, code := none }
def k24c1 : Code := { maxStack := 2, maxLocals := 5, code := jdk_123_method_3_code, exceptionTable := #[], attributes := #[] }
def k24m1 : Method := { name := "countPositives", desc := "([BII)I", sig := { parameters := [(.array .byte), .int, .int], returnType := some .int }, accessFlags := 9, code := some k24c1 }
/-- java/lang/StringCoding -/
def k24 : Class := { plain "java/lang/StringCoding" (some 0) with
  accessFlags := 32
  interfaces := #[]
  cf := some (fileOf pool24 8 #[] #[{ accessFlags := 2, nameIndex := 5, descriptorIndex := 6, attributes := #[] }, { accessFlags := 9, nameIndex := 11, descriptorIndex := 12, attributes := #[] }] 32 2 #[] #[])
  fields := #[]
  methods := #[k24m0, k24m1]
  instanceTypes := #[]
  staticTypes := #[]
  resolved := Array.replicate 49 none
  statics := none }

def pool25 : Array CpInfo := pool [(1, .class_ 2), (0, u "java/lang/Cloneable"), (0, .class_ 4), (0, u "java/lang/Object")] 2

/-- java/lang/Cloneable -/
def k25 : Class := { plain "java/lang/Cloneable" (some 0) with
  accessFlags := 1537
  interfaces := #[]
  cf := some (fileOf pool25 1 #[] #[] 1537 3 #[] #[])
  fields := #[]
  methods := #[]
  instanceTypes := #[]
  staticTypes := #[]
  resolved := Array.replicate 7 none
  statics := none }

def pool26 : Array CpInfo := pool [(3, .class_ 4), (0, u "java/lang/String"), (1, .class_ 8), (1, u "java/lang/Object"), (0, u "<init>"), (0, u "()V"), (0, .methodref 12 13), (0, .class_ 14), (0, .nameAndType 15 16), (0, u "java/lang/StringUTF16"), (0, u "newBytesLength"), (0, u "(I)I"), (3, .integer 1073741823), (23, .fieldref 12 45), (0, .nameAndType 46 47), (0, u "$assertionsDisabled"), (0, u "Z"), (0, .methodref 12 49), (0, .nameAndType 50 51), (0, u "length"), (0, u "([B)I"), (7, .fieldref 12 60), (0, .nameAndType 61 62), (0, u "HI_BYTE_SHIFT"), (0, u "I"), (0, .fieldref 12 64), (0, .nameAndType 65 62), (0, u "LO_BYTE_SHIFT"), (1, .methodref 12 68), (0, .nameAndType 69 70), (0, u "checkIndex"), (0, u "(I[B)V"), (0, .methodref 12 72), (0, .nameAndType 73 74), (0, u "getChar"), (0, u "([BI)C"), (24, u "(II[B)V"), (9, u "newBytesFor"), (0, u "(I)[B"), (0, .methodref 12 112), (0, .nameAndType 113 114), (0, u "putChar"), (0, u "([BII)V"), (25, u "inflate"), (0, u "([BI[BII)V"), (31, .methodref 12 174), (0, .nameAndType 175 99), (0, u "checkBoundsOffCount"), (105, u "(III)I"), (87, .class_ 371), (1, u "java/lang/StringUTF16$LinesSpliterator"), (20, u "charAt"), (21, .methodref 3 415), (0, .nameAndType 69 416), (0, u "(II)V"), (2, .methodref 3 420), (0, .nameAndType 175 281), (9, u "MAX_LENGTH"), (196, .class_ 628), (0, u "java/lang/StringUTF16$CodePointsSpliterator"), (0, .class_ 630), (0, u "java/lang/StringUTF16$CharsSpliterator")] 4

def k26m0 : Method := { name := "<init>", desc := "()V", sig := { parameters := [], returnType := none }, accessFlags := 0, code := none }
def k26c1 : Code := { maxStack := 1, maxLocals := 1, code := jdk_52_method_2_code, exceptionTable := #[], attributes := #[] }
def k26m1 : Method := { name := "newBytesFor", desc := "(I)[B", sig := { parameters := [.int], returnType := some (.array .byte) }, accessFlags := 9, code := some k26c1 }
def k26c2 : Code := { maxStack := 4, maxLocals := 1, code := jdk_52_method_3_code, exceptionTable := #[], attributes := #[] }
def k26m2 : Method := { name := "newBytesLength", desc := "(I)I", sig := { parameters := [.int], returnType := some .int }, accessFlags := 9, code := some k26c2 }
def k26c3 : Code := { maxStack := 4, maxLocals := 3, code := jdk_52_method_4_code, exceptionTable := #[], attributes := #[] }
def k26m3 : Method := { name := "putChar", desc := "([BII)V", sig := { parameters := [(.array .byte), .int, .int], returnType := none }, accessFlags := 8, code := some k26c3 }
def k26c4 : Code := { maxStack := 3, maxLocals := 2, code := jdk_52_method_5_code, exceptionTable := #[], attributes := #[] }
def k26m4 : Method := { name := "getChar", desc := "([BI)C", sig := { parameters := [(.array .byte), .int], returnType := some .char }, accessFlags := 8, code := some k26c4 }
def k26c5 : Code := { maxStack := 2, maxLocals := 1, code := jdk_52_method_6_code, exceptionTable := #[], attributes := #[] }
def k26m5 : Method := { name := "length", desc := "([B)I", sig := { parameters := [(.array .byte)], returnType := some .int }, accessFlags := 9, code := some k26c5 }
def k26c6 : Code := { maxStack := 2, maxLocals := 2, code := jdk_52_method_83_code, exceptionTable := #[], attributes := #[] }
def k26m6 : Method := { name := "charAt", desc := "([BI)C", sig := { parameters := [(.array .byte), .int], returnType := some .char }, accessFlags := 9, code := some k26c6 }
def k26c7 : Code := { maxStack := 4, maxLocals := 6, code := jdk_52_method_86_code, exceptionTable := #[], attributes := #[] }
def k26m7 : Method := { name := "inflate", desc := "([BI[BII)V", sig := { parameters := [(.array .byte), .int, (.array .byte), .int, .int], returnType := none }, accessFlags := 9, code := some k26c7 }
def k26c8 : Code := { maxStack := 2, maxLocals := 2, code := jdk_52_method_91_code, exceptionTable := #[], attributes := #[] }
def k26m8 : Method := { name := "checkIndex", desc := "(I[B)V", sig := { parameters := [.int, (.array .byte)], returnType := none }, accessFlags := 9, code := some k26c8 }
def k26c9 : Code := { maxStack := 3, maxLocals := 3, code := jdk_52_method_94_code, exceptionTable := #[], attributes := #[] }
def k26m9 : Method := { name := "checkBoundsOffCount", desc := "(II[B)V", sig := { parameters := [.int, .int, (.array .byte)], returnType := none }, accessFlags := 9, code := some k26c9 }
/-- java/lang/StringUTF16 -/
def k26 : Class := { plain "java/lang/StringUTF16" (some 0) with
  accessFlags := 48
  interfaces := #[]
  cf := some (fileOf pool26 12 #[.nestMembers #[627, 629, 369]] #[{ accessFlags := 0, nameIndex := 9, descriptorIndex := 10, attributes := #[] }, { accessFlags := 9, nameIndex := 109, descriptorIndex := 110, attributes := #[] }, { accessFlags := 9, nameIndex := 15, descriptorIndex := 16, attributes := #[] }, { accessFlags := 8, nameIndex := 113, descriptorIndex := 114, attributes := #[] }, { accessFlags := 8, nameIndex := 73, descriptorIndex := 74, attributes := #[] }, { accessFlags := 9, nameIndex := 50, descriptorIndex := 51, attributes := #[] }, { accessFlags := 9, nameIndex := 392, descriptorIndex := 74, attributes := #[] }, { accessFlags := 9, nameIndex := 140, descriptorIndex := 141, attributes := #[] }, { accessFlags := 9, nameIndex := 69, descriptorIndex := 70, attributes := #[] }, { accessFlags := 9, nameIndex := 175, descriptorIndex := 99, attributes := #[] }] 48 6 #[] #[{ accessFlags := 26, nameIndex := 61, descriptorIndex := 62, attributes := #[] }, { accessFlags := 26, nameIndex := 65, descriptorIndex := 62, attributes := #[] }, { accessFlags := 24, nameIndex := 430, descriptorIndex := 62, attributes := #[] }, { accessFlags := 4120, nameIndex := 46, descriptorIndex := 47, attributes := #[] }])
  fields := #[{ name := "HI_BYTE_SHIFT", type := .int, accessFlags := 26, slot := 0, constantValue := 0 }, { name := "LO_BYTE_SHIFT", type := .int, accessFlags := 26, slot := 1, constantValue := 0 }, { name := "MAX_LENGTH", type := .int, accessFlags := 24, slot := 2, constantValue := 0 }, { name := "$assertionsDisabled", type := .boolean, accessFlags := 4120, slot := 3, constantValue := 0 }]
  methods := #[k26m0, k26m1, k26m2, k26m3, k26m4, k26m5, k26m6, k26m7, k26m8, k26m9]
  instanceTypes := #[]
  staticTypes := #[.int, .int, .int, .boolean]
  resolved := Array.replicate 635 none
  statics := some 4 }

def pool27 : Array CpInfo := pool [(9, u "<init>"), (6, .class_ 18), (1, u "java/lang/Object"), (0, u "()V"), (1, .class_ 23), (1, u "jdk/internal/util/ArraysSupport"), (0, u "LOG2_ARRAY_LONG_INDEX_SCALE"), (0, u "I"), (2, u "U"), (0, u "Ljdk/internal/misc/Unsafe;"), (8, u "BIG_ENDIAN"), (0, u "Z"), (8, u "LOG2_BYTE_BIT_SIZE"), (4, u "LOG2_ARRAY_INT_INDEX_SCALE"), (54, u "JLA"), (0, u "Ljdk/internal/access/JavaLangAccess;"), (11, u "LOG2_ARRAY_BOOLEAN_INDEX_SCALE"), (9, u "LOG2_ARRAY_BYTE_INDEX_SCALE"), (5, u "LOG2_ARRAY_CHAR_INDEX_SCALE"), (5, u "LOG2_ARRAY_SHORT_INDEX_SCALE"), (18, u "LOG2_ARRAY_FLOAT_INDEX_SCALE"), (24, u "LOG2_ARRAY_DOUBLE_INDEX_SCALE"), (89, u "T_BOOLEAN"), (2, u "T_CHAR"), (1, u "T_FLOAT"), (1, u "T_DOUBLE"), (1, u "T_BYTE"), (1, u "T_SHORT"), (1, u "T_INT"), (1, u "T_LONG"), (1, u "SOFT_MAX_ARRAY_LENGTH")] 83

def k27m0 : Method := { name := "<init>", desc := "()V", sig := { parameters := [], returnType := none }, accessFlags := 2, code := none }
/-- jdk/internal/util/ArraysSupport -/
def k27 : Class := { plain "jdk/internal/util/ArraysSupport" (some 0) with
  accessFlags := 33
  interfaces := #[]
  cf := some (fileOf pool27 21 #[] #[{ accessFlags := 2, nameIndex := 9, descriptorIndex := 19, attributes := #[] }] 33 16 #[] #[{ accessFlags := 24, nameIndex := 28, descriptorIndex := 29, attributes := #[] }, { accessFlags := 26, nameIndex := 38, descriptorIndex := 39, attributes := #[] }, { accessFlags := 25, nameIndex := 121, descriptorIndex := 25, attributes := #[] }, { accessFlags := 25, nameIndex := 131, descriptorIndex := 25, attributes := #[] }, { accessFlags := 25, nameIndex := 137, descriptorIndex := 25, attributes := #[] }, { accessFlags := 25, nameIndex := 143, descriptorIndex := 25, attributes := #[] }, { accessFlags := 25, nameIndex := 53, descriptorIndex := 25, attributes := #[] }, { accessFlags := 25, nameIndex := 24, descriptorIndex := 25, attributes := #[] }, { accessFlags := 25, nameIndex := 162, descriptorIndex := 25, attributes := #[] }, { accessFlags := 25, nameIndex := 187, descriptorIndex := 25, attributes := #[] }, { accessFlags := 26, nameIndex := 48, descriptorIndex := 25, attributes := #[] }, { accessFlags := 25, nameIndex := 277, descriptorIndex := 25, attributes := #[] }, { accessFlags := 25, nameIndex := 280, descriptorIndex := 25, attributes := #[] }, { accessFlags := 25, nameIndex := 282, descriptorIndex := 25, attributes := #[] }, { accessFlags := 25, nameIndex := 284, descriptorIndex := 25, attributes := #[] }, { accessFlags := 25, nameIndex := 286, descriptorIndex := 25, attributes := #[] }, { accessFlags := 25, nameIndex := 288, descriptorIndex := 25, attributes := #[] }, { accessFlags := 25, nameIndex := 290, descriptorIndex := 25, attributes := #[] }, { accessFlags := 25, nameIndex := 292, descriptorIndex := 25, attributes := #[] }, { accessFlags := 26, nameIndex := 108, descriptorIndex := 109, attributes := #[] }, { accessFlags := 25, nameIndex := 294, descriptorIndex := 25, attributes := #[] }])
  fields := #[{ name := "U", type := (.object "jdk/internal/misc/Unsafe"), accessFlags := 24, slot := 0, constantValue := 0 }, { name := "BIG_ENDIAN", type := .boolean, accessFlags := 26, slot := 1, constantValue := 0 }, { name := "LOG2_ARRAY_BOOLEAN_INDEX_SCALE", type := .int, accessFlags := 25, slot := 2, constantValue := 0 }, { name := "LOG2_ARRAY_BYTE_INDEX_SCALE", type := .int, accessFlags := 25, slot := 3, constantValue := 0 }, { name := "LOG2_ARRAY_CHAR_INDEX_SCALE", type := .int, accessFlags := 25, slot := 4, constantValue := 0 }, { name := "LOG2_ARRAY_SHORT_INDEX_SCALE", type := .int, accessFlags := 25, slot := 5, constantValue := 0 }, { name := "LOG2_ARRAY_INT_INDEX_SCALE", type := .int, accessFlags := 25, slot := 6, constantValue := 0 }, { name := "LOG2_ARRAY_LONG_INDEX_SCALE", type := .int, accessFlags := 25, slot := 7, constantValue := 0 }, { name := "LOG2_ARRAY_FLOAT_INDEX_SCALE", type := .int, accessFlags := 25, slot := 8, constantValue := 0 }, { name := "LOG2_ARRAY_DOUBLE_INDEX_SCALE", type := .int, accessFlags := 25, slot := 9, constantValue := 0 }, { name := "LOG2_BYTE_BIT_SIZE", type := .int, accessFlags := 26, slot := 10, constantValue := 0 }, { name := "T_BOOLEAN", type := .int, accessFlags := 25, slot := 11, constantValue := 0 }, { name := "T_CHAR", type := .int, accessFlags := 25, slot := 12, constantValue := 0 }, { name := "T_FLOAT", type := .int, accessFlags := 25, slot := 13, constantValue := 0 }, { name := "T_DOUBLE", type := .int, accessFlags := 25, slot := 14, constantValue := 0 }, { name := "T_BYTE", type := .int, accessFlags := 25, slot := 15, constantValue := 0 }, { name := "T_SHORT", type := .int, accessFlags := 25, slot := 16, constantValue := 0 }, { name := "T_INT", type := .int, accessFlags := 25, slot := 17, constantValue := 0 }, { name := "T_LONG", type := .int, accessFlags := 25, slot := 18, constantValue := 0 }, { name := "JLA", type := (.object "jdk/internal/access/JavaLangAccess"), accessFlags := 26, slot := 19, constantValue := 0 }, { name := "SOFT_MAX_ARRAY_LENGTH", type := .int, accessFlags := 25, slot := 20, constantValue := 0 }]
  methods := #[k27m0]
  instanceTypes := #[]
  staticTypes := #[(.object "jdk/internal/misc/Unsafe"), .boolean, .int, .int, .int, .int, .int, .int, .int, .int, .int, .int, .int, .int, .int, .int, .int, .int, .int, (.object "jdk/internal/access/JavaLangAccess"), .int]
  resolved := Array.replicate 378 none
  statics := none }

/-- the primitive byte -/
def k28 : Class := { plain "byte" none with kind := .primitive 'B', accessFlags := 0x411 }
/-- [B -/
def k29 : Class := { plain "[B" (some 0) with kind := .array 28 .byte, interfaces := #[25, 4], accessFlags := 1041 }

/-- the primitive int -/
def k30 : Class := { plain "int" none with kind := .primitive 'I', accessFlags := 0x411 }
/-- [I -/
def k31 : Class := { plain "[I" (some 0) with kind := .array 30 .int, interfaces := #[25, 4], accessFlags := 1041 }

def heap : Heap := #[{ cls := 9, slots := #[.long 0, .int 1, .null, .int 0, .null, .int 0, .int 0], vm := .statics 9 },
  { cls := 14, slots := #[.null, .null, .ref 5, .null, .null, .null], vm := .statics 14 },
  { cls := 18, slots := #[.ref 5, .null], vm := .statics 18 },
  { cls := 23, slots := #[.null, .null, .null], vm := .statics 23 },
  { cls := 26, slots := #[.int 0, .int 8, .int 0, .int 1], vm := .statics 26 },
  { cls := 18, slots := #[.null, .null, .null], vm := .none }]
def classes : Array Class := #[k0, k1, k2, k3, k4, k5, k6, k7, k8, k9, k10, k11, k12, k13, k14, k15, k16, k17, k18, k19, k20, k21, k22, k23, k24, k25, k26, k27, k28, k29, k30, k31]
def interned : List (Array UInt16 × Addr) := []
def slotsUsed : Nat := 25
def theMethod : MethodId := ⟨1, 3⟩
def args0 : Array Value := #[.int 5, .int 65, .int 66, .int 67, .int 68]
def aboutOver (below : List Frame) : State where
  vm := { classes := classes, interned := interned.toArray }
  heap := heap
  slotsUsed := slotsUsed
  threads := #[{ frames := .invoking theMethod args0 :: below }]
def below0 : List Frame := [.native { method := ⟨0, 0⟩, args := #[] }]
def about1 : State := aboutOver below0
def p0 : Program := .bare "" "" ""
def e0 : Env := launch0.env 0 0 0
theorem w_frames : about1.frames = Frame.invoking theMethod args0 :: below0 := rfl
set_option maxRecDepth 65536 in
theorem w_args : argsFit about1.vm theMethod args0 = true := by decide +kernel
set_option maxRecDepth 65536 in
theorem w_heap : heapFits about1 = true := by decide +kernel
set_option maxRecDepth 65536 in
theorem w_runnable : about1.curStatus? = some .runnable := by decide +kernel
set_option maxRecDepth 65536 in
theorem w_alone : about1.alone = true := by decide +kernel
set_option maxRecDepth 65536 in
theorem w_named : about1.methodNamed? x = some theMethod := by decide +kernel
set_option maxRecDepth 65536 in
theorem w_hears : about1.hears theMethod below0 = true := by decide +kernel
set_option maxRecDepth 65536 in
theorem w_ripe : about1.ripe theMethod args0 below0 = true := by decide +kernel
theorem w_running : about1.status = .running := rfl
set_option maxRecDepth 65536 in
theorem w_room : about1.hasRoom e0.platform room_1 = true :=
  launch0.hasRoom_least _ room_1 (by decide +kernel) (by decide +kernel) (by decide +kernel) (by decide +kernel) (by decide +kernel) (by decide +kernel)
theorem allAtoms_all (ts : List Jvm.Cond) (a : Array Jvm.Value) (st : Jvm.State) : (allAtoms ts).before a st = ts.all (fun c => c.before a st) := by
  induction ts with
  | nil => rfl
  | cons c t ih =>
    show (Jvm.Cond.and c (allAtoms t)).before a st = _
    rw [Jvm.Cond.before_and, ih, List.all_cons]
def words1 : List Jvm.Cond := Jvm.Cond.code x code maxLocals ret :: tables_1
/-- a 'code' word, met by the world's own term for the bytes: nothing is compared byte by byte -/
theorem code_word {y : MethodName} {bytes : ByteArray} {mx : Nat} {rt : Option FieldType} {a : Array Value} {s : State} {m : MethodId} {meth : Method} {c : Code} (h1 : s.methodNamed? y = some m) (h2 : s.vm.method? m = some meth) (h3 : meth.code = some c) (h4 : c.code = bytes)
    (h5 : (c.maxLocals == mx && c.exceptionTable.isEmpty && decide (c.maxStack ≤ mostOperands) && decide (meth.sig.returnType = rt) && !meth.locks && decide (parseMethodDescriptor y.desc = some meth.sig)) = true) : (Jvm.Cond.code y bytes mx rt).before a s = true := by
  simp only [Bool.and_eq_true, beq_iff_eq, Bool.not_eq_true', decide_eq_true_eq] at h5
  obtain ⟨⟨⟨⟨⟨g1, g2⟩, g3⟩, g4⟩, g5⟩, g6⟩ := h5
  simp [Cond.before, Cond.holds, Cond.value, h1, h2, h3, h4, g1, g2, g3, g4, g5, g6]
def isCode : Jvm.Cond → Bool
  | .code _ _ _ _ => true
  | _ => false
theorem all_split {L : List Jvm.Cond} {P : Jvm.Cond → Bool} (h1 : L.all (fun c => isCode c || P c) = true) (h2 : ∀ c ∈ L.filter isCode, P c = true) : L.all P = true := by
  refine List.all_eq_true.mpr fun c hc => ?_
  have h := List.all_eq_true.mp h1 c hc
  rcases Bool.eq_false_or_eq_true (isCode c) with hi | hi
  · exact h2 c (List.mem_filter.mpr ⟨hc, hi⟩)
  · simpa [hi] using h
set_option maxRecDepth 65536 in
theorem w_c0 : (Jvm.Cond.code x code maxLocals ret).before args0 about1 = true := code_word (m := ⟨1, 3⟩) (meth := k1m3) (c := k1c3) (by decide +kernel) rfl rfl rfl (by decide +kernel)
set_option maxRecDepth 65536 in
theorem w_c1 : (Jvm.Cond.code ({ cls := "com/example/umweg/umweg/core/FieldToStringPinLaw", name := "mk", desc := "(III)[B" } : Jvm.MethodName) method_2_code (4 : Nat) (Option.some (Jvm.ClassFile.FieldType.array Jvm.ClassFile.FieldType.byte))).before args0 about1 = true := code_word (m := ⟨1, 1⟩) (meth := k1m1) (c := k1c1) (by decide +kernel) rfl rfl rfl (by decide +kernel)
set_option maxRecDepth 65536 in
theorem w_c2 : (Jvm.Cond.code ({ cls := "com/example/umweg/umweg/core/Field", name := "<init>", desc := "([B[B)V" } : Jvm.MethodName) prog_13_method_1_code (3 : Nat) (Option.none : Option Jvm.ClassFile.FieldType)).before args0 about1 = true := code_word (m := ⟨3, 0⟩) (meth := k3m0) (c := k3c0) (by decide +kernel) rfl rfl rfl (by decide +kernel)
set_option maxRecDepth 65536 in
theorem w_c3 : (Jvm.Cond.code ({ cls := "java/lang/Record", name := "<init>", desc := "()V" } : Jvm.MethodName) jdk_30_method_1_code (1 : Nat) (Option.none : Option Jvm.ClassFile.FieldType)).before args0 about1 = true := code_word (m := ⟨2, 0⟩) (meth := k2m0) (c := k2c0) (by decide +kernel) rfl rfl rfl (by decide +kernel)
set_option maxRecDepth 65536 in
theorem w_c4 : (Jvm.Cond.code ({ cls := "java/lang/Object", name := "<init>", desc := "()V" } : Jvm.MethodName) object_method_1_code (1 : Nat) (Option.none : Option Jvm.ClassFile.FieldType)).before args0 about1 = true := code_word (m := ⟨0, 0⟩) (meth := k0m0) (c := k0c0) (by decide +kernel) rfl rfl rfl (by decide +kernel)
set_option maxRecDepth 65536 in
theorem w_c5 : (Jvm.Cond.code ({ cls := "java/util/Objects", name := "requireNonNull", desc := "(Ljava/lang/Object;Ljava/lang/String;)Ljava/lang/Object;" } : Jvm.MethodName) jdk_31_method_11_code (2 : Nat) (Option.some (Jvm.ClassFile.FieldType.object "java/lang/Object"))).before args0 about1 = true := code_word (m := ⟨10, 2⟩) (meth := k10m2) (c := k10c2) (by decide +kernel) rfl rfl rfl (by decide +kernel)
set_option maxRecDepth 65536 in
theorem w_c6 : (Jvm.Cond.code ({ cls := "com/example/umweg/umweg/core/Field", name := "toString", desc := "()Ljava/lang/String;" } : Jvm.MethodName) prog_13_method_5_code (1 : Nat) (Option.some (Jvm.ClassFile.FieldType.object "java/lang/String"))).before args0 about1 = true := code_word (m := ⟨3, 1⟩) (meth := k3m1) (c := k3c1) (by decide +kernel) rfl rfl rfl (by decide +kernel)
set_option maxRecDepth 65536 in
theorem w_c7 : (Jvm.Cond.code ({ cls := "java/lang/StringBuilder", name := "<init>", desc := "()V" } : Jvm.MethodName) jdk_67_method_1_code (1 : Nat) (Option.none : Option Jvm.ClassFile.FieldType)).before args0 about1 = true := code_word (m := ⟨13, 0⟩) (meth := k13m0) (c := k13c0) (by decide +kernel) rfl rfl rfl (by decide +kernel)
set_option maxRecDepth 65536 in
theorem w_c8 : (Jvm.Cond.code ({ cls := "java/lang/AbstractStringBuilder", name := "<init>", desc := "(I)V" } : Jvm.MethodName) jdk_68_method_2_code (2 : Nat) (Option.none : Option Jvm.ClassFile.FieldType)).before args0 about1 = true := code_word (m := ⟨12, 1⟩) (meth := k12m1) (c := k12c1) (by decide +kernel) rfl rfl rfl (by decide +kernel)
set_option maxRecDepth 65536 in
theorem w_c9 : (Jvm.Cond.code ({ cls := "java/lang/String", name := "<init>", desc := "([BLjava/nio/charset/Charset;)V" } : Jvm.MethodName) jdk_42_method_49_code (3 : Nat) (Option.none : Option Jvm.ClassFile.FieldType)).before args0 about1 = true := code_word (m := ⟨9, 6⟩) (meth := k9m6) (c := k9c6) (by decide +kernel) rfl rfl rfl (by decide +kernel)
set_option maxRecDepth 65536 in
theorem w_c10 : (Jvm.Cond.code ({ cls := "java/util/Objects", name := "requireNonNull", desc := "(Ljava/lang/Object;)Ljava/lang/Object;" } : Jvm.MethodName) jdk_31_method_10_code (1 : Nat) (Option.some (Jvm.ClassFile.FieldType.object "java/lang/Object"))).before args0 about1 = true := code_word (m := ⟨10, 1⟩) (meth := k10m1) (c := k10c1) (by decide +kernel) rfl rfl rfl (by decide +kernel)
set_option maxRecDepth 65536 in
theorem w_c11 : (Jvm.Cond.code ({ cls := "java/lang/StringBuilder", name := "append", desc := "(Ljava/lang/String;)Ljava/lang/StringBuilder;" } : Jvm.MethodName) jdk_67_method_7_code (2 : Nat) (Option.some (Jvm.ClassFile.FieldType.object "java/lang/StringBuilder"))).before args0 about1 = true := code_word (m := ⟨13, 1⟩) (meth := k13m1) (c := k13c1) (by decide +kernel) rfl rfl rfl (by decide +kernel)
set_option maxRecDepth 65536 in
theorem w_c12 : (Jvm.Cond.code ({ cls := "java/lang/AbstractStringBuilder", name := "append", desc := "(Ljava/lang/String;)Ljava/lang/AbstractStringBuilder;" } : Jvm.MethodName) jdk_68_method_22_code (3 : Nat) (Option.some (Jvm.ClassFile.FieldType.object "java/lang/AbstractStringBuilder"))).before args0 about1 = true := code_word (m := ⟨12, 5⟩) (meth := k12m5) (c := k12c5) (by decide +kernel) rfl rfl rfl (by decide +kernel)
set_option maxRecDepth 65536 in
theorem w_c13 : (Jvm.Cond.code ({ cls := "java/lang/String", name := "length", desc := "()I" } : Jvm.MethodName) jdk_42_method_54_code (1 : Nat) (Option.some Jvm.ClassFile.FieldType.int)).before args0 about1 = true := code_word (m := ⟨9, 8⟩) (meth := k9m8) (c := k9c8) (by decide +kernel) rfl rfl rfl (by decide +kernel)
set_option maxRecDepth 65536 in
theorem w_c14 : (Jvm.Cond.code ({ cls := "java/lang/String", name := "coder", desc := "()B" } : Jvm.MethodName) jdk_42_method_152_code (1 : Nat) (Option.some Jvm.ClassFile.FieldType.byte)).before args0 about1 = true := code_word (m := ⟨9, 12⟩) (meth := k9m12) (c := k9c12) (by decide +kernel) rfl rfl rfl (by decide +kernel)
set_option maxRecDepth 65536 in
theorem w_c15 : (Jvm.Cond.code ({ cls := "java/lang/AbstractStringBuilder", name := "ensureCapacityInternal", desc := "(I)V" } : Jvm.MethodName) jdk_68_method_9_code (3 : Nat) (Option.none : Option Jvm.ClassFile.FieldType)).before args0 about1 = true := code_word (m := ⟨12, 3⟩) (meth := k12m3) (c := k12c3) (by decide +kernel) rfl rfl rfl (by decide +kernel)
set_option maxRecDepth 65536 in
theorem w_c16 : (Jvm.Cond.code ({ cls := "java/lang/AbstractStringBuilder", name := "putStringAt", desc := "(ILjava/lang/String;)V" } : Jvm.MethodName) jdk_68_method_73_code (3 : Nat) (Option.none : Option Jvm.ClassFile.FieldType)).before args0 about1 = true := code_word (m := ⟨12, 9⟩) (meth := k12m9) (c := k12c9) (by decide +kernel) rfl rfl rfl (by decide +kernel)
set_option maxRecDepth 65536 in
theorem w_c17 : (Jvm.Cond.code ({ cls := "java/lang/AbstractStringBuilder", name := "inflateIfNeededFor", desc := "(Ljava/lang/String;)V" } : Jvm.MethodName) jdk_68_method_71_code (2 : Nat) (Option.none : Option Jvm.ClassFile.FieldType)).before args0 about1 = true := code_word (m := ⟨12, 8⟩) (meth := k12m8) (c := k12c8) (by decide +kernel) rfl rfl rfl (by decide +kernel)
set_option maxRecDepth 65536 in
theorem w_c18 : (Jvm.Cond.code ({ cls := "java/lang/String", name := "getBytes", desc := "([BIB)V" } : Jvm.MethodName) jdk_42_method_147_code (4 : Nat) (Option.none : Option Jvm.ClassFile.FieldType)).before args0 about1 = true := code_word (m := ⟨9, 10⟩) (meth := k9m10) (c := k9c10) (by decide +kernel) rfl rfl rfl (by decide +kernel)
set_option maxRecDepth 65536 in
theorem w_c19 : (Jvm.Cond.code ({ cls := "java/lang/StringBuilder", name := "toString", desc := "()Ljava/lang/String;" } : Jvm.MethodName) jdk_67_method_42_code (1 : Nat) (Option.some (Jvm.ClassFile.FieldType.object "java/lang/String"))).before args0 about1 = true := code_word (m := ⟨13, 2⟩) (meth := k13m2) (c := k13c2) (by decide +kernel) rfl rfl rfl (by decide +kernel)
set_option maxRecDepth 65536 in
theorem w_c20 : (Jvm.Cond.code ({ cls := "java/lang/String", name := "<init>", desc := "(Ljava/lang/StringBuilder;)V" } : Jvm.MethodName) jdk_42_method_53_code (2 : Nat) (Option.none : Option Jvm.ClassFile.FieldType)).before args0 about1 = true := code_word (m := ⟨9, 7⟩) (meth := k9m7) (c := k9c7) (by decide +kernel) rfl rfl rfl (by decide +kernel)
set_option maxRecDepth 65536 in
theorem w_c21 : (Jvm.Cond.code ({ cls := "java/lang/String", name := "<init>", desc := "(Ljava/lang/AbstractStringBuilder;Ljava/lang/Void;)V" } : Jvm.MethodName) jdk_42_method_150_code (5 : Nat) (Option.none : Option Jvm.ClassFile.FieldType)).before args0 about1 = true := code_word (m := ⟨9, 11⟩) (meth := k9m11) (c := k9c11) (by decide +kernel) rfl rfl rfl (by decide +kernel)
set_option maxRecDepth 65536 in
theorem w_c22 : (Jvm.Cond.code ({ cls := "java/lang/AbstractStringBuilder", name := "getValue", desc := "()[B" } : Jvm.MethodName) jdk_68_method_64_code (1 : Nat) (Option.some (Jvm.ClassFile.FieldType.array Jvm.ClassFile.FieldType.byte))).before args0 about1 = true := code_word (m := ⟨12, 6⟩) (meth := k12m6) (c := k12c6) (by decide +kernel) rfl rfl rfl (by decide +kernel)
set_option maxRecDepth 65536 in
theorem w_c23 : (Jvm.Cond.code ({ cls := "java/lang/StringBuilder", name := "length", desc := "()I" } : Jvm.MethodName) jdk_67_method_93_code (1 : Nat) (Option.some Jvm.ClassFile.FieldType.int)).before args0 about1 = true := code_word (m := ⟨13, 3⟩) (meth := k13m3) (c := k13c3) (by decide +kernel) rfl rfl rfl (by decide +kernel)
set_option maxRecDepth 65536 in
theorem w_c24 : (Jvm.Cond.code ({ cls := "java/lang/AbstractStringBuilder", name := "length", desc := "()I" } : Jvm.MethodName) jdk_68_method_6_code (1 : Nat) (Option.some Jvm.ClassFile.FieldType.int)).before args0 about1 = true := code_word (m := ⟨12, 2⟩) (meth := k12m2) (c := k12c2) (by decide +kernel) rfl rfl rfl (by decide +kernel)
set_option maxRecDepth 65536 in
theorem w_c25 : (Jvm.Cond.code ({ cls := "java/lang/AbstractStringBuilder", name := "isLatin1", desc := "()Z" } : Jvm.MethodName) jdk_68_method_68_code (1 : Nat) (Option.some Jvm.ClassFile.FieldType.boolean)).before args0 about1 = true := code_word (m := ⟨12, 7⟩) (meth := k12m7) (c := k12c7) (by decide +kernel) rfl rfl rfl (by decide +kernel)
set_option maxRecDepth 65536 in
theorem w_c26 : (Jvm.Cond.code ({ cls := "java/util/Arrays", name := "copyOfRange", desc := "([BII)[B" } : Jvm.MethodName) jdk_65_method_132_code (3 : Nat) (Option.some (Jvm.ClassFile.FieldType.array Jvm.ClassFile.FieldType.byte))).before args0 about1 = true := code_word (m := ⟨20, 2⟩) (meth := k20m2) (c := k20c2) (by decide +kernel) rfl rfl rfl (by decide +kernel)
set_option maxRecDepth 65536 in
theorem w_c27 : (Jvm.Cond.code ({ cls := "java/util/Arrays", name := "copyOfRangeByte", desc := "([BII)[B" } : Jvm.MethodName) jdk_65_method_133_code (5 : Nat) (Option.some (Jvm.ClassFile.FieldType.array Jvm.ClassFile.FieldType.byte))).before args0 about1 = true := code_word (m := ⟨20, 3⟩) (meth := k20m3) (c := k20c3) (by decide +kernel) rfl rfl rfl (by decide +kernel)
set_option maxRecDepth 65536 in
theorem w_c28 : (Jvm.Cond.code ({ cls := "java/util/Arrays", name := "checkLength", desc := "(II)V" } : Jvm.MethodName) jdk_65_method_131_code (2 : Nat) (Option.none : Option Jvm.ClassFile.FieldType)).before args0 about1 = true := code_word (m := ⟨20, 1⟩) (meth := k20m1) (c := k20c1) (by decide +kernel) rfl rfl rfl (by decide +kernel)
set_option maxRecDepth 65536 in
theorem w_c29 : (Jvm.Cond.code ({ cls := "java/lang/Math", name := "min", desc := "(II)I" } : Jvm.MethodName) jdk_29_method_69_code (2 : Nat) (Option.some Jvm.ClassFile.FieldType.int)).before args0 about1 = true := code_word (m := ⟨21, 1⟩) (meth := k21m1) (c := k21c1) (by decide +kernel) rfl rfl rfl (by decide +kernel)
set_option maxRecDepth 65536 in
theorem w_c30 : (Jvm.Cond.code ({ cls := "java/lang/String", name := "charAt", desc := "(I)C" } : Jvm.MethodName) jdk_42_method_56_code (2 : Nat) (Option.some Jvm.ClassFile.FieldType.char)).before args0 about1 = true := code_word (m := ⟨9, 9⟩) (meth := k9m9) (c := k9c9) (by decide +kernel) rfl rfl rfl (by decide +kernel)
set_option maxRecDepth 65536 in
theorem w_c31 : (Jvm.Cond.code ({ cls := "java/lang/String", name := "isLatin1", desc := "()Z" } : Jvm.MethodName) jdk_42_method_154_code (1 : Nat) (Option.some Jvm.ClassFile.FieldType.boolean)).before args0 about1 = true := code_word (m := ⟨9, 13⟩) (meth := k9m13) (c := k9c13) (by decide +kernel) rfl rfl rfl (by decide +kernel)
set_option maxRecDepth 65536 in
theorem w_c32 : (Jvm.Cond.code ({ cls := "java/lang/StringLatin1", name := "charAt", desc := "([BI)C" } : Jvm.MethodName) jdk_43_method_2_code (2 : Nat) (Option.some Jvm.ClassFile.FieldType.char)).before args0 about1 = true := code_word (m := ⟨22, 1⟩) (meth := k22m1) (c := k22c1) (by decide +kernel) rfl rfl rfl (by decide +kernel)
set_option maxRecDepth 65536 in
theorem w_c33 : (Jvm.Cond.code ({ cls := "java/lang/String", name := "checkIndex", desc := "(II)V" } : Jvm.MethodName) jdk_42_method_155_code (2 : Nat) (Option.none : Option Jvm.ClassFile.FieldType)).before args0 about1 = true := code_word (m := ⟨9, 14⟩) (meth := k9m14) (c := k9c14) (by decide +kernel) rfl rfl rfl (by decide +kernel)
set_option maxRecDepth 65536 in
theorem w_c34 : (Jvm.Cond.code ({ cls := "jdk/internal/util/Preconditions", name := "checkIndex", desc := "(IILjava/util/function/BiFunction;)I" } : Jvm.MethodName) jdk_41_method_11_code (3 : Nat) (Option.some Jvm.ClassFile.FieldType.int)).before args0 about1 = true := code_word (m := ⟨23, 1⟩) (meth := k23m1) (c := k23c1) (by decide +kernel) rfl rfl rfl (by decide +kernel)
set_option maxRecDepth 65536 in
theorem w_c35 : (Jvm.Cond.code ({ cls := "java/lang/StringCoding", name := "countPositives", desc := "([BII)I" } : Jvm.MethodName) jdk_123_method_3_code (5 : Nat) (Option.some Jvm.ClassFile.FieldType.int)).before args0 about1 = true := code_word (m := ⟨24, 1⟩) (meth := k24m1) (c := k24c1) (by decide +kernel) rfl rfl rfl (by decide +kernel)
set_option maxRecDepth 65536 in
theorem w_c36 : (Jvm.Cond.code ({ cls := "com/example/umweg/umweg/core/FieldToStringPinLaw", name := "dec", desc := "(I)C" } : Jvm.MethodName) method_3_code (1 : Nat) (Option.some Jvm.ClassFile.FieldType.char)).before args0 about1 = true := code_word (m := ⟨1, 2⟩) (meth := k1m2) (c := k1c2) (by decide +kernel) rfl rfl rfl (by decide +kernel)
set_option maxRecDepth 65536 in
theorem w_c37 : (Jvm.Cond.code ({ cls := "java/lang/StringUTF16", name := "newBytesFor", desc := "(I)[B" } : Jvm.MethodName) jdk_52_method_2_code (1 : Nat) (Option.some (Jvm.ClassFile.FieldType.array Jvm.ClassFile.FieldType.byte))).before args0 about1 = true := code_word (m := ⟨26, 1⟩) (meth := k26m1) (c := k26c1) (by decide +kernel) rfl rfl rfl (by decide +kernel)
set_option maxRecDepth 65536 in
theorem w_c38 : (Jvm.Cond.code ({ cls := "java/lang/StringUTF16", name := "newBytesLength", desc := "(I)I" } : Jvm.MethodName) jdk_52_method_3_code (1 : Nat) (Option.some Jvm.ClassFile.FieldType.int)).before args0 about1 = true := code_word (m := ⟨26, 2⟩) (meth := k26m2) (c := k26c2) (by decide +kernel) rfl rfl rfl (by decide +kernel)
set_option maxRecDepth 65536 in
theorem w_c39 : (Jvm.Cond.code ({ cls := "java/lang/StringLatin1", name := "inflate", desc := "([BI[BII)V" } : Jvm.MethodName) jdk_43_method_50_code (5 : Nat) (Option.none : Option Jvm.ClassFile.FieldType)).before args0 about1 = true := code_word (m := ⟨22, 2⟩) (meth := k22m2) (c := k22c2) (by decide +kernel) rfl rfl rfl (by decide +kernel)
set_option maxRecDepth 65536 in
theorem w_c40 : (Jvm.Cond.code ({ cls := "java/lang/StringUTF16", name := "inflate", desc := "([BI[BII)V" } : Jvm.MethodName) jdk_52_method_86_code (6 : Nat) (Option.none : Option Jvm.ClassFile.FieldType)).before args0 about1 = true := code_word (m := ⟨26, 7⟩) (meth := k26m7) (c := k26c7) (by decide +kernel) rfl rfl rfl (by decide +kernel)
set_option maxRecDepth 65536 in
theorem w_c41 : (Jvm.Cond.code ({ cls := "java/lang/StringUTF16", name := "checkBoundsOffCount", desc := "(II[B)V" } : Jvm.MethodName) jdk_52_method_94_code (3 : Nat) (Option.none : Option Jvm.ClassFile.FieldType)).before args0 about1 = true := code_word (m := ⟨26, 9⟩) (meth := k26m9) (c := k26c9) (by decide +kernel) rfl rfl rfl (by decide +kernel)
set_option maxRecDepth 65536 in
theorem w_c42 : (Jvm.Cond.code ({ cls := "java/lang/StringUTF16", name := "length", desc := "([B)I" } : Jvm.MethodName) jdk_52_method_6_code (1 : Nat) (Option.some Jvm.ClassFile.FieldType.int)).before args0 about1 = true := code_word (m := ⟨26, 5⟩) (meth := k26m5) (c := k26c5) (by decide +kernel) rfl rfl rfl (by decide +kernel)
set_option maxRecDepth 65536 in
theorem w_c43 : (Jvm.Cond.code ({ cls := "java/lang/String", name := "checkBoundsOffCount", desc := "(III)I" } : Jvm.MethodName) jdk_42_method_157_code (3 : Nat) (Option.some Jvm.ClassFile.FieldType.int)).before args0 about1 = true := code_word (m := ⟨9, 15⟩) (meth := k9m15) (c := k9c15) (by decide +kernel) rfl rfl rfl (by decide +kernel)
set_option maxRecDepth 65536 in
theorem w_c44 : (Jvm.Cond.code ({ cls := "jdk/internal/util/Preconditions", name := "checkFromIndexSize", desc := "(IIILjava/util/function/BiFunction;)I" } : Jvm.MethodName) jdk_41_method_13_code (4 : Nat) (Option.some Jvm.ClassFile.FieldType.int)).before args0 about1 = true := code_word (m := ⟨23, 2⟩) (meth := k23m2) (c := k23c2) (by decide +kernel) rfl rfl rfl (by decide +kernel)
set_option maxRecDepth 65536 in
theorem w_c45 : (Jvm.Cond.code ({ cls := "java/lang/String", name := "decodeUTF8_UTF16", desc := "([BII[BIZ)I" } : Jvm.MethodName) jdk_42_method_38_code (11 : Nat) (Option.some Jvm.ClassFile.FieldType.int)).before args0 about1 = true := code_word (m := ⟨9, 5⟩) (meth := k9m5) (c := k9c5) (by decide +kernel) rfl rfl rfl (by decide +kernel)
set_option maxRecDepth 65536 in
theorem w_c46 : (Jvm.Cond.code ({ cls := "java/lang/StringUTF16", name := "putChar", desc := "([BII)V" } : Jvm.MethodName) jdk_52_method_4_code (3 : Nat) (Option.none : Option Jvm.ClassFile.FieldType)).before args0 about1 = true := code_word (m := ⟨26, 3⟩) (meth := k26m3) (c := k26c3) (by decide +kernel) rfl rfl rfl (by decide +kernel)
set_option maxRecDepth 65536 in
theorem w_c47 : (Jvm.Cond.code ({ cls := "java/lang/AbstractStringBuilder", name := "inflate", desc := "()V" } : Jvm.MethodName) jdk_68_method_11_code (2 : Nat) (Option.none : Option Jvm.ClassFile.FieldType)).before args0 about1 = true := code_word (m := ⟨12, 4⟩) (meth := k12m4) (c := k12c4) (by decide +kernel) rfl rfl rfl (by decide +kernel)
set_option maxRecDepth 65536 in
theorem w_c48 : (Jvm.Cond.code ({ cls := "java/lang/StringUTF16", name := "charAt", desc := "([BI)C" } : Jvm.MethodName) jdk_52_method_83_code (2 : Nat) (Option.some Jvm.ClassFile.FieldType.char)).before args0 about1 = true := code_word (m := ⟨26, 6⟩) (meth := k26m6) (c := k26c6) (by decide +kernel) rfl rfl rfl (by decide +kernel)
set_option maxRecDepth 65536 in
theorem w_c49 : (Jvm.Cond.code ({ cls := "java/lang/StringUTF16", name := "checkIndex", desc := "(I[B)V" } : Jvm.MethodName) jdk_52_method_91_code (2 : Nat) (Option.none : Option Jvm.ClassFile.FieldType)).before args0 about1 = true := code_word (m := ⟨26, 8⟩) (meth := k26m8) (c := k26c8) (by decide +kernel) rfl rfl rfl (by decide +kernel)
set_option maxRecDepth 65536 in
theorem w_c50 : (Jvm.Cond.code ({ cls := "java/lang/StringUTF16", name := "getChar", desc := "([BI)C" } : Jvm.MethodName) jdk_52_method_5_code (2 : Nat) (Option.some Jvm.ClassFile.FieldType.char)).before args0 about1 = true := code_word (m := ⟨26, 4⟩) (meth := k26m4) (c := k26c4) (by decide +kernel) rfl rfl rfl (by decide +kernel)
set_option maxRecDepth 65536 in
theorem w_c51 : (Jvm.Cond.code ({ cls := "java/lang/String", name := "isMalformed3_2", desc := "(II)Z" } : Jvm.MethodName) jdk_42_method_31_code (2 : Nat) (Option.some Jvm.ClassFile.FieldType.boolean)).before args0 about1 = true := code_word (m := ⟨9, 3⟩) (meth := k9m3) (c := k9c3) (by decide +kernel) rfl rfl rfl (by decide +kernel)
set_option maxRecDepth 65536 in
theorem w_c52 : (Jvm.Cond.code ({ cls := "java/lang/String", name := "isNotContinuation", desc := "(I)Z" } : Jvm.MethodName) jdk_42_method_29_code (1 : Nat) (Option.some Jvm.ClassFile.FieldType.boolean)).before args0 about1 = true := code_word (m := ⟨9, 2⟩) (meth := k9m2) (c := k9c2) (by decide +kernel) rfl rfl rfl (by decide +kernel)
set_option maxRecDepth 65536 in
theorem w_c53 : (Jvm.Cond.code ({ cls := "java/lang/String", name := "isMalformed4_2", desc := "(II)Z" } : Jvm.MethodName) jdk_42_method_33_code (2 : Nat) (Option.some Jvm.ClassFile.FieldType.boolean)).before args0 about1 = true := code_word (m := ⟨9, 4⟩) (meth := k9m4) (c := k9c4) (by decide +kernel) rfl rfl rfl (by decide +kernel)
def codes1 : List Jvm.Cond := [Jvm.Cond.code x code maxLocals ret, Jvm.Cond.code ({ cls := "com/example/umweg/umweg/core/FieldToStringPinLaw", name := "mk", desc := "(III)[B" } : Jvm.MethodName) method_2_code (4 : Nat) (Option.some (Jvm.ClassFile.FieldType.array Jvm.ClassFile.FieldType.byte)), Jvm.Cond.code ({ cls := "com/example/umweg/umweg/core/Field", name := "<init>", desc := "([B[B)V" } : Jvm.MethodName) prog_13_method_1_code (3 : Nat) (Option.none : Option Jvm.ClassFile.FieldType), Jvm.Cond.code ({ cls := "java/lang/Record", name := "<init>", desc := "()V" } : Jvm.MethodName) jdk_30_method_1_code (1 : Nat) (Option.none : Option Jvm.ClassFile.FieldType), Jvm.Cond.code ({ cls := "java/lang/Object", name := "<init>", desc := "()V" } : Jvm.MethodName) object_method_1_code (1 : Nat) (Option.none : Option Jvm.ClassFile.FieldType), Jvm.Cond.code ({ cls := "java/util/Objects", name := "requireNonNull", desc := "(Ljava/lang/Object;Ljava/lang/String;)Ljava/lang/Object;" } : Jvm.MethodName) jdk_31_method_11_code (2 : Nat) (Option.some (Jvm.ClassFile.FieldType.object "java/lang/Object")), Jvm.Cond.code ({ cls := "com/example/umweg/umweg/core/Field", name := "toString", desc := "()Ljava/lang/String;" } : Jvm.MethodName) prog_13_method_5_code (1 : Nat) (Option.some (Jvm.ClassFile.FieldType.object "java/lang/String")), Jvm.Cond.code ({ cls := "java/lang/StringBuilder", name := "<init>", desc := "()V" } : Jvm.MethodName) jdk_67_method_1_code (1 : Nat) (Option.none : Option Jvm.ClassFile.FieldType), Jvm.Cond.code ({ cls := "java/lang/AbstractStringBuilder", name := "<init>", desc := "(I)V" } : Jvm.MethodName) jdk_68_method_2_code (2 : Nat) (Option.none : Option Jvm.ClassFile.FieldType), Jvm.Cond.code ({ cls := "java/lang/String", name := "<init>", desc := "([BLjava/nio/charset/Charset;)V" } : Jvm.MethodName) jdk_42_method_49_code (3 : Nat) (Option.none : Option Jvm.ClassFile.FieldType), Jvm.Cond.code ({ cls := "java/util/Objects", name := "requireNonNull", desc := "(Ljava/lang/Object;)Ljava/lang/Object;" } : Jvm.MethodName) jdk_31_method_10_code (1 : Nat) (Option.some (Jvm.ClassFile.FieldType.object "java/lang/Object")), Jvm.Cond.code ({ cls := "java/lang/StringBuilder", name := "append", desc := "(Ljava/lang/String;)Ljava/lang/StringBuilder;" } : Jvm.MethodName) jdk_67_method_7_code (2 : Nat) (Option.some (Jvm.ClassFile.FieldType.object "java/lang/StringBuilder")), Jvm.Cond.code ({ cls := "java/lang/AbstractStringBuilder", name := "append", desc := "(Ljava/lang/String;)Ljava/lang/AbstractStringBuilder;" } : Jvm.MethodName) jdk_68_method_22_code (3 : Nat) (Option.some (Jvm.ClassFile.FieldType.object "java/lang/AbstractStringBuilder")), Jvm.Cond.code ({ cls := "java/lang/String", name := "length", desc := "()I" } : Jvm.MethodName) jdk_42_method_54_code (1 : Nat) (Option.some Jvm.ClassFile.FieldType.int), Jvm.Cond.code ({ cls := "java/lang/String", name := "coder", desc := "()B" } : Jvm.MethodName) jdk_42_method_152_code (1 : Nat) (Option.some Jvm.ClassFile.FieldType.byte), Jvm.Cond.code ({ cls := "java/lang/AbstractStringBuilder", name := "ensureCapacityInternal", desc := "(I)V" } : Jvm.MethodName) jdk_68_method_9_code (3 : Nat) (Option.none : Option Jvm.ClassFile.FieldType), Jvm.Cond.code ({ cls := "java/lang/AbstractStringBuilder", name := "putStringAt", desc := "(ILjava/lang/String;)V" } : Jvm.MethodName) jdk_68_method_73_code (3 : Nat) (Option.none : Option Jvm.ClassFile.FieldType), Jvm.Cond.code ({ cls := "java/lang/AbstractStringBuilder", name := "inflateIfNeededFor", desc := "(Ljava/lang/String;)V" } : Jvm.MethodName) jdk_68_method_71_code (2 : Nat) (Option.none : Option Jvm.ClassFile.FieldType), Jvm.Cond.code ({ cls := "java/lang/String", name := "getBytes", desc := "([BIB)V" } : Jvm.MethodName) jdk_42_method_147_code (4 : Nat) (Option.none : Option Jvm.ClassFile.FieldType), Jvm.Cond.code ({ cls := "java/lang/StringBuilder", name := "toString", desc := "()Ljava/lang/String;" } : Jvm.MethodName) jdk_67_method_42_code (1 : Nat) (Option.some (Jvm.ClassFile.FieldType.object "java/lang/String")), Jvm.Cond.code ({ cls := "java/lang/String", name := "<init>", desc := "(Ljava/lang/StringBuilder;)V" } : Jvm.MethodName) jdk_42_method_53_code (2 : Nat) (Option.none : Option Jvm.ClassFile.FieldType), Jvm.Cond.code ({ cls := "java/lang/String", name := "<init>", desc := "(Ljava/lang/AbstractStringBuilder;Ljava/lang/Void;)V" } : Jvm.MethodName) jdk_42_method_150_code (5 : Nat) (Option.none : Option Jvm.ClassFile.FieldType), Jvm.Cond.code ({ cls := "java/lang/AbstractStringBuilder", name := "getValue", desc := "()[B" } : Jvm.MethodName) jdk_68_method_64_code (1 : Nat) (Option.some (Jvm.ClassFile.FieldType.array Jvm.ClassFile.FieldType.byte)), Jvm.Cond.code ({ cls := "java/lang/StringBuilder", name := "length", desc := "()I" } : Jvm.MethodName) jdk_67_method_93_code (1 : Nat) (Option.some Jvm.ClassFile.FieldType.int), Jvm.Cond.code ({ cls := "java/lang/AbstractStringBuilder", name := "length", desc := "()I" } : Jvm.MethodName) jdk_68_method_6_code (1 : Nat) (Option.some Jvm.ClassFile.FieldType.int), Jvm.Cond.code ({ cls := "java/lang/AbstractStringBuilder", name := "isLatin1", desc := "()Z" } : Jvm.MethodName) jdk_68_method_68_code (1 : Nat) (Option.some Jvm.ClassFile.FieldType.boolean), Jvm.Cond.code ({ cls := "java/util/Arrays", name := "copyOfRange", desc := "([BII)[B" } : Jvm.MethodName) jdk_65_method_132_code (3 : Nat) (Option.some (Jvm.ClassFile.FieldType.array Jvm.ClassFile.FieldType.byte)), Jvm.Cond.code ({ cls := "java/util/Arrays", name := "copyOfRangeByte", desc := "([BII)[B" } : Jvm.MethodName) jdk_65_method_133_code (5 : Nat) (Option.some (Jvm.ClassFile.FieldType.array Jvm.ClassFile.FieldType.byte)), Jvm.Cond.code ({ cls := "java/util/Arrays", name := "checkLength", desc := "(II)V" } : Jvm.MethodName) jdk_65_method_131_code (2 : Nat) (Option.none : Option Jvm.ClassFile.FieldType), Jvm.Cond.code ({ cls := "java/lang/Math", name := "min", desc := "(II)I" } : Jvm.MethodName) jdk_29_method_69_code (2 : Nat) (Option.some Jvm.ClassFile.FieldType.int), Jvm.Cond.code ({ cls := "java/lang/String", name := "charAt", desc := "(I)C" } : Jvm.MethodName) jdk_42_method_56_code (2 : Nat) (Option.some Jvm.ClassFile.FieldType.char), Jvm.Cond.code ({ cls := "java/lang/String", name := "isLatin1", desc := "()Z" } : Jvm.MethodName) jdk_42_method_154_code (1 : Nat) (Option.some Jvm.ClassFile.FieldType.boolean), Jvm.Cond.code ({ cls := "java/lang/StringLatin1", name := "charAt", desc := "([BI)C" } : Jvm.MethodName) jdk_43_method_2_code (2 : Nat) (Option.some Jvm.ClassFile.FieldType.char), Jvm.Cond.code ({ cls := "java/lang/String", name := "checkIndex", desc := "(II)V" } : Jvm.MethodName) jdk_42_method_155_code (2 : Nat) (Option.none : Option Jvm.ClassFile.FieldType), Jvm.Cond.code ({ cls := "jdk/internal/util/Preconditions", name := "checkIndex", desc := "(IILjava/util/function/BiFunction;)I" } : Jvm.MethodName) jdk_41_method_11_code (3 : Nat) (Option.some Jvm.ClassFile.FieldType.int), Jvm.Cond.code ({ cls := "java/lang/StringCoding", name := "countPositives", desc := "([BII)I" } : Jvm.MethodName) jdk_123_method_3_code (5 : Nat) (Option.some Jvm.ClassFile.FieldType.int), Jvm.Cond.code ({ cls := "com/example/umweg/umweg/core/FieldToStringPinLaw", name := "dec", desc := "(I)C" } : Jvm.MethodName) method_3_code (1 : Nat) (Option.some Jvm.ClassFile.FieldType.char), Jvm.Cond.code ({ cls := "java/lang/StringUTF16", name := "newBytesFor", desc := "(I)[B" } : Jvm.MethodName) jdk_52_method_2_code (1 : Nat) (Option.some (Jvm.ClassFile.FieldType.array Jvm.ClassFile.FieldType.byte)), Jvm.Cond.code ({ cls := "java/lang/StringUTF16", name := "newBytesLength", desc := "(I)I" } : Jvm.MethodName) jdk_52_method_3_code (1 : Nat) (Option.some Jvm.ClassFile.FieldType.int), Jvm.Cond.code ({ cls := "java/lang/StringLatin1", name := "inflate", desc := "([BI[BII)V" } : Jvm.MethodName) jdk_43_method_50_code (5 : Nat) (Option.none : Option Jvm.ClassFile.FieldType), Jvm.Cond.code ({ cls := "java/lang/StringUTF16", name := "inflate", desc := "([BI[BII)V" } : Jvm.MethodName) jdk_52_method_86_code (6 : Nat) (Option.none : Option Jvm.ClassFile.FieldType), Jvm.Cond.code ({ cls := "java/lang/StringUTF16", name := "checkBoundsOffCount", desc := "(II[B)V" } : Jvm.MethodName) jdk_52_method_94_code (3 : Nat) (Option.none : Option Jvm.ClassFile.FieldType), Jvm.Cond.code ({ cls := "java/lang/StringUTF16", name := "length", desc := "([B)I" } : Jvm.MethodName) jdk_52_method_6_code (1 : Nat) (Option.some Jvm.ClassFile.FieldType.int), Jvm.Cond.code ({ cls := "java/lang/String", name := "checkBoundsOffCount", desc := "(III)I" } : Jvm.MethodName) jdk_42_method_157_code (3 : Nat) (Option.some Jvm.ClassFile.FieldType.int), Jvm.Cond.code ({ cls := "jdk/internal/util/Preconditions", name := "checkFromIndexSize", desc := "(IIILjava/util/function/BiFunction;)I" } : Jvm.MethodName) jdk_41_method_13_code (4 : Nat) (Option.some Jvm.ClassFile.FieldType.int), Jvm.Cond.code ({ cls := "java/lang/String", name := "decodeUTF8_UTF16", desc := "([BII[BIZ)I" } : Jvm.MethodName) jdk_42_method_38_code (11 : Nat) (Option.some Jvm.ClassFile.FieldType.int), Jvm.Cond.code ({ cls := "java/lang/StringUTF16", name := "putChar", desc := "([BII)V" } : Jvm.MethodName) jdk_52_method_4_code (3 : Nat) (Option.none : Option Jvm.ClassFile.FieldType), Jvm.Cond.code ({ cls := "java/lang/AbstractStringBuilder", name := "inflate", desc := "()V" } : Jvm.MethodName) jdk_68_method_11_code (2 : Nat) (Option.none : Option Jvm.ClassFile.FieldType), Jvm.Cond.code ({ cls := "java/lang/StringUTF16", name := "charAt", desc := "([BI)C" } : Jvm.MethodName) jdk_52_method_83_code (2 : Nat) (Option.some Jvm.ClassFile.FieldType.char), Jvm.Cond.code ({ cls := "java/lang/StringUTF16", name := "checkIndex", desc := "(I[B)V" } : Jvm.MethodName) jdk_52_method_91_code (2 : Nat) (Option.none : Option Jvm.ClassFile.FieldType), Jvm.Cond.code ({ cls := "java/lang/StringUTF16", name := "getChar", desc := "([BI)C" } : Jvm.MethodName) jdk_52_method_5_code (2 : Nat) (Option.some Jvm.ClassFile.FieldType.char), Jvm.Cond.code ({ cls := "java/lang/String", name := "isMalformed3_2", desc := "(II)Z" } : Jvm.MethodName) jdk_42_method_31_code (2 : Nat) (Option.some Jvm.ClassFile.FieldType.boolean), Jvm.Cond.code ({ cls := "java/lang/String", name := "isNotContinuation", desc := "(I)Z" } : Jvm.MethodName) jdk_42_method_29_code (1 : Nat) (Option.some Jvm.ClassFile.FieldType.boolean), Jvm.Cond.code ({ cls := "java/lang/String", name := "isMalformed4_2", desc := "(II)Z" } : Jvm.MethodName) jdk_42_method_33_code (2 : Nat) (Option.some Jvm.ClassFile.FieldType.boolean)]
set_option maxRecDepth 65536 in
theorem codes_eq : words1.filter isCode = codes1 := rfl
theorem w_codes : ∀ c ∈ words1.filter isCode, c.before args0 about1 = true := by
  rw [codes_eq]
  intro c hc
  simp only [codes1, List.mem_cons, List.not_mem_nil, or_false] at hc
  rcases hc with rfl | rfl | rfl | rfl | rfl | rfl | rfl | rfl | rfl | rfl | rfl | rfl | rfl | rfl | rfl | rfl | rfl | rfl | rfl | rfl | rfl | rfl | rfl | rfl | rfl | rfl | rfl | rfl | rfl | rfl | rfl | rfl | rfl | rfl | rfl | rfl | rfl | rfl | rfl | rfl | rfl | rfl | rfl | rfl | rfl | rfl | rfl | rfl | rfl | rfl | rfl | rfl | rfl | rfl
  · exact w_c0
  · exact w_c1
  · exact w_c2
  · exact w_c3
  · exact w_c4
  · exact w_c5
  · exact w_c6
  · exact w_c7
  · exact w_c8
  · exact w_c9
  · exact w_c10
  · exact w_c11
  · exact w_c12
  · exact w_c13
  · exact w_c14
  · exact w_c15
  · exact w_c16
  · exact w_c17
  · exact w_c18
  · exact w_c19
  · exact w_c20
  · exact w_c21
  · exact w_c22
  · exact w_c23
  · exact w_c24
  · exact w_c25
  · exact w_c26
  · exact w_c27
  · exact w_c28
  · exact w_c29
  · exact w_c30
  · exact w_c31
  · exact w_c32
  · exact w_c33
  · exact w_c34
  · exact w_c35
  · exact w_c36
  · exact w_c37
  · exact w_c38
  · exact w_c39
  · exact w_c40
  · exact w_c41
  · exact w_c42
  · exact w_c43
  · exact w_c44
  · exact w_c45
  · exact w_c46
  · exact w_c47
  · exact w_c48
  · exact w_c49
  · exact w_c50
  · exact w_c51
  · exact w_c52
  · exact w_c53
set_option maxRecDepth 65536 in
theorem w_t1 : (words1.take 24).all (fun c => isCode c || c.before args0 about1) = true := by decide +kernel
set_option maxRecDepth 65536 in
theorem w_t2 : ((words1.drop 24).take 24).all (fun c => isCode c || c.before args0 about1) = true := by decide +kernel
set_option maxRecDepth 65536 in
theorem w_t3 : (((words1.drop 24).drop 24).take 24).all (fun c => isCode c || c.before args0 about1) = true := by decide +kernel
theorem own_cw {y : MethodName} {bytes : ByteArray} {mx : Nat} {rt : Option FieldType} {hs : List (Nat × Nat × Nat × Nat)} {a : Array Value} {s : State} {m : MethodId} {meth : Method} {c : Code} (h1 : s.methodNamed? y = some m) (h2 : s.vm.method? m = some meth) (h3 : meth.code = some c) (h4 : c.code = bytes)
    (h5 : (c.maxLocals == mx && decide (c.exceptionTable.toList.map (fun h => (h.startPc, h.endPc, h.handlerPc, h.catchType)) = hs) && decide (c.maxStack ≤ mostOperands) && decide (meth.sig.returnType = rt) && !meth.locks && decide (parseMethodDescriptor y.desc = some meth.sig)) = true) : (Jvm.Cond.codeWith y bytes mx rt hs).before a s = true := by
  simp only [Bool.and_eq_true, beq_iff_eq, Bool.not_eq_true', decide_eq_true_eq] at h5
  obtain ⟨⟨⟨⟨⟨g1, g2⟩, g3⟩, g4⟩, g5⟩, g6⟩ := h5
  simp [Cond.before, Cond.holds, Cond.value, h1, h2, h3, h4, g1, g2, g3, g4, g5, g6]
theorem own_all (L : List Jvm.Cond) (g : Jvm.Cond → Bool) (n k : Nat) (h1 : (L.take n).all g = true) (h2 : ((L.drop n).take k).all g = true) : (L.take (n + k)).all g = true := by
  rw [List.take_add, List.all_append, h1, h2]; rfl
set_option maxRecDepth 65536 in
theorem w_cw : (Jvm.Cond.codeWith ({ cls := "java/lang/String", name := "<init>", desc := "(Ljava/nio/charset/Charset;[BII)V" } : Jvm.MethodName) jdk_42_method_11_code 11 (Option.none : Option Jvm.ClassFile.FieldType) [(800, 813, 816, 202)]).before args0 about1 = true := own_cw (m := ⟨9, 1⟩) (meth := k9m1) (c := k9c1) (by decide +kernel) rfl rfl rfl (by decide +kernel)
set_option maxRecDepth 65536 in
theorem w_ua : ((words1.drop 72).take 1).all (fun c => isCode c || c.before args0 about1) = true := by decide +kernel
theorem w_ub : ((words1.drop 73).take 1).all (fun c => isCode c || c.before args0 about1) = true := by
  show ([(Jvm.Cond.codeWith ({ cls := "java/lang/String", name := "<init>", desc := "(Ljava/nio/charset/Charset;[BII)V" } : Jvm.MethodName) jdk_42_method_11_code 11 (Option.none : Option Jvm.ClassFile.FieldType) [(800, 813, 816, 202)])] : List Jvm.Cond).all (fun c => isCode c || c.before args0 about1) = true
  rw [List.all_cons, List.all_nil, w_cw, Bool.or_true]; rfl
set_option maxRecDepth 65536 in
theorem w_uc : ((words1.drop 74).take 22).all (fun c => isCode c || c.before args0 about1) = true := by decide +kernel
theorem w_t4 : ((((words1.drop 24).drop 24).drop 24).take 24).all (fun c => isCode c || c.before args0 about1) = true := by
  have h := own_all (words1.drop 72) (fun c => isCode c || c.before args0 about1) 1 23 w_ua (by rw [List.drop_drop]; exact own_all (words1.drop 73) (fun c => isCode c || c.before args0 about1) 1 22 w_ub (by rw [List.drop_drop]; exact w_uc))
  simpa only [List.drop_drop] using h
set_option maxRecDepth 65536 in
theorem w_t5 : (((((words1.drop 24).drop 24).drop 24).drop 24).take 24).all (fun c => isCode c || c.before args0 about1) = true := by decide +kernel
set_option maxRecDepth 65536 in
theorem w_t6 : ((((((words1.drop 24).drop 24).drop 24).drop 24).drop 24).take 24).all (fun c => isCode c || c.before args0 about1) = true := by decide +kernel
set_option maxRecDepth 65536 in
theorem w_t7 : (((((((words1.drop 24).drop 24).drop 24).drop 24).drop 24).drop 24).take 24).all (fun c => isCode c || c.before args0 about1) = true := by decide +kernel
set_option maxRecDepth 65536 in
theorem w_t8 : ((((((((words1.drop 24).drop 24).drop 24).drop 24).drop 24).drop 24).drop 24).take 24).all (fun c => isCode c || c.before args0 about1) = true := by decide +kernel
set_option maxRecDepth 65536 in
theorem w_t9 : (((((((((words1.drop 24).drop 24).drop 24).drop 24).drop 24).drop 24).drop 24).drop 24).take 24).all (fun c => isCode c || c.before args0 about1) = true := by decide +kernel
set_option maxRecDepth 65536 in
theorem w_t10 : ((((((((((words1.drop 24).drop 24).drop 24).drop 24).drop 24).drop 24).drop 24).drop 24).drop 24).take 24).all (fun c => isCode c || c.before args0 about1) = true := by decide +kernel
set_option maxRecDepth 65536 in
theorem w_t11 : (((((((((((words1.drop 24).drop 24).drop 24).drop 24).drop 24).drop 24).drop 24).drop 24).drop 24).drop 24).take 24).all (fun c => isCode c || c.before args0 about1) = true := by decide +kernel
set_option maxRecDepth 65536 in
theorem w_t12 : (((((((((((words1.drop 24).drop 24).drop 24).drop 24).drop 24).drop 24).drop 24).drop 24).drop 24).drop 24).drop 24).all (fun c => isCode c || c.before args0 about1) = true := by decide +kernel
theorem w_tables : (allAtoms (Jvm.Cond.code x code maxLocals ret :: tables_1)).before args0 about1 = true := by
  rw [allAtoms_all]
  show words1.all (fun c => c.before args0 about1) = true
  refine all_split ?_ w_codes
  rw [← List.take_append_drop 24 words1, List.all_append, w_t1, ← List.take_append_drop 24 (words1.drop 24), List.all_append, w_t2, ← List.take_append_drop 24 ((words1.drop 24).drop 24), List.all_append, w_t3, ← List.take_append_drop 24 (((words1.drop 24).drop 24).drop 24), List.all_append, w_t4, ← List.take_append_drop 24 ((((words1.drop 24).drop 24).drop 24).drop 24), List.all_append, w_t5, ← List.take_append_drop 24 (((((words1.drop 24).drop 24).drop 24).drop 24).drop 24), List.all_append, w_t6, ← List.take_append_drop 24 ((((((words1.drop 24).drop 24).drop 24).drop 24).drop 24).drop 24), List.all_append, w_t7, ← List.take_append_drop 24 (((((((words1.drop 24).drop 24).drop 24).drop 24).drop 24).drop 24).drop 24), List.all_append, w_t8, ← List.take_append_drop 24 ((((((((words1.drop 24).drop 24).drop 24).drop 24).drop 24).drop 24).drop 24).drop 24), List.all_append, w_t9, ← List.take_append_drop 24 (((((((((words1.drop 24).drop 24).drop 24).drop 24).drop 24).drop 24).drop 24).drop 24).drop 24), List.all_append, w_t10, ← List.take_append_drop 24 ((((((((((words1.drop 24).drop 24).drop 24).drop 24).drop 24).drop 24).drop 24).drop 24).drop 24).drop 24), List.all_append, w_t11, w_t12]
  rfl
set_option maxRecDepth 65536 in
theorem w_rest : rest_1_c.before args0 about1 = true := by decide +kernel
set_option maxRecDepth 65536 in
theorem w_case : (Jvm.Cond.and given_1 narrow_1).before args0 about1 = true := by decide +kernel
set_option maxRecDepth 65536 in
theorem w_consts : constsHeld consts_1 about1 := Jvm.Lit.constsHeldB_iff.mp (by decide +kernel)
theorem w_applies : (headSpec (Jvm.Cond.code x code maxLocals ret :: tables_1) room_1).applies x e0.platform about1 = true :=
  (Spec.applies_iff w_frames).mpr ⟨w_running, w_runnable, w_alone, w_named, w_hears, w_ripe, w_room, w_tables⟩
theorem atStart : AtStart classFile x code maxLocals ret World_1 tables_1 room_1 Calls_1 rest_1 Pre_1 launch0 p0 e0 about1 theMethod args0 below0 :=
  ⟨lists_1, trivial, launch0.admits_env _ _ _, launch0.least_env, fairChoices_fair.cas, fairChoices_fair.clock, w_frames, w_args, w_heap, w_applies, ⟨w_consts, trivial⟩, w_rest, w_case⟩
end start1
theorem witness_1 : WitnessClaimed_1 := ⟨start1.p0, start1.e0, start1.about1, start1.theMethod, start1.args0, start1.below0, start1.atStart⟩
end Jvm.Pilot.@@N@@
