import JvmDerived
import JvmDerived.Pilot.@@N@@Statement
import JvmDerived.Pilot.@@N@@Code
set_option linter.unusedVariables false
set_option linter.unusedSimpArgs false
namespace Jvm.Pilot.@@N@@
open Jvm Jvm.ClassFile Sem Op Lib Jvm.Free Jvm.Stand Jvm.LawKit Jvm.RoadKit Bundle Jvm.Pilot.@@N@@.Jvm.D
/-! Own kit. own_Fin: from this frame the run comes to the method's end, and Q holds of what it leaves. -/
def own_Fin (p : Program) (e : Env) (below : List Frame) (s : State) (Q : Option Value → Heap → List Loc → Prop) (cl sl : Nat) (T : State) (f : JFrame) : Prop :=
  ∃ s₂ o, Steps p.tables e below (T.setTop f) s₂ ∧ s₂.status = .running ∧ Ended s₂ below o ∧ (∃ v L, o = .returned v ∧ Q v s₂.heap L ∧ FrameEnd s o s₂ L cl sl)
section OwnKit
variable {p : Program} {l : Launch} {e : Env} {R : Room} {s : State} {m : MethodId} {args : Array Value} {below : List Frame} {meth : Method} {c : Code} {T : State} {locs : List Loc} {cells slots : Nat} {Q : Option Value → Heap → List Loc → Prop} {cl sl : Nat} {Z : State} {a0 : Array Value} {h h' : Heap} {a b : Addr}
theorem own_step {T' : State} {f f' : JFrame} (k : ∀ t, Steps p.tables e below (T'.setTop f') t → Steps p.tables e below (T.setTop f) t) (r : own_Fin p e below s Q cl sl T' f') : own_Fin p e below s Q cl sl T f := by
  obtain ⟨s₂, o, h1, h2⟩ := r
  exact ⟨s₂, o, k _ h1, h2⟩
theorem own_stepT {T' : State} {f f' : JFrame} (k : Steps p.tables e below (T.setTop f) (T'.setTop f')) (r : own_Fin p e below s Q cl sl T' f') : own_Fin p e below s Q cl sl T f := by
  obtain ⟨s₂, o, h1, h2⟩ := r
  exact ⟨s₂, o, k.trans h1, h2⟩
theorem own_retZ (X : Stand p l e R s m args below meth c T locs cells slots) (hx : p.tables.exec = Jvm.exec) (hlocks : meth.locks = false) (hret : meth.sig.returnType = some .boolean) {pc : Nat} {Ls : Array Slot} {z z' : Int32} {rest : List Value} (hd : decode c.code pc = .ok (.ireturn, 1))
    (hn : nar .boolean z = z') (hc : cells ≤ cl) (hs : slots ≤ sl) (hT : T.heap = h) (hq : Q (some (.int z')) h locs) : own_Fin p e below s Q cl sl T (mkF m pc Ls (.int z :: rest)) := by
  subst hn hT
  obtain ⟨fs, hr, hrun, hended, hW, hsame⟩ := X.leave (v := some (.int (nar .boolean z))) (fun h => by rw [hret] at h; cases h)
  exact ⟨_, _, retN X hx hret (by simp) hd hr, hrun, hended, _, _, rfl, hq, ⟨_, rfl⟩, hW, hsame.mono hc hs⟩
theorem own_retI (X : Stand p l e R s m args below meth c T locs cells slots) (hx : p.tables.exec = Jvm.exec) (hlocks : meth.locks = false) (hret : meth.sig.returnType = some .int) {pc : Nat} {Ls : Array Slot} {z : Int32} {rest : List Value} (hd : decode c.code pc = .ok (.ireturn, 1))
    (hc : cells ≤ cl) (hs : slots ≤ sl) (hT : T.heap = h) (hq : Q (some (.int z)) h locs) : own_Fin p e below s Q cl sl T (mkF m pc Ls (.int z :: rest)) := by
  subst hT
  obtain ⟨fs, hr, hrun, hended, hW, hsame⟩ := X.leave (v := some (.int z)) (fun h => by rw [hret] at h; cases h)
  refine ⟨_, _, ?_, hrun, hended, _, _, rfl, hq, ⟨_, rfl⟩, hW, hsame.mono hc hs⟩
  have hm' : T.vm.method? m = some meth := X.method'
  have hn : narrow .int (.int z) = .int z := rfl
  show Steps p.tables e below (T.setTop { method := m, pc := pc, locals := Ls, stack := _ :: rest, locked := none }) _
  jvm_step X.here [X.here.top, hx, hd, hm', hret, hn]
  first | (intro acts; rw [hr _ acts rfl rfl rfl]) | rw [hr _ _ rfl rfl rfl]
  exact Steps.refl _
theorem own_retJ (X : Stand p l e R s m args below meth c T locs cells slots) (hx : p.tables.exec = Jvm.exec) (hlocks : meth.locks = false) (hret : meth.sig.returnType = some .long) {pc : Nat} {Ls : Array Slot} {z : Int64} (hd : decode c.code pc = .ok (.lreturn, 1))
    (hc : cells ≤ cl) (hs : slots ≤ sl) (hT : T.heap = h) (hq : Q (some (.long z)) h locs) : own_Fin p e below s Q cl sl T (mkF m pc Ls [.long z]) := by
  subst hT
  obtain ⟨fs, hr, hrun, hended, hW, hsame⟩ := X.leave (v := some (.long z)) (fun h => by rw [hret] at h; cases h)
  exact ⟨_, _, X.lreturnOut hx hret hd hr, hrun, hended, _, _, rfl, hq, ⟨_, rfl⟩, hW, hsame.mono hc hs⟩
theorem own_retV (X : Stand p l e R s m args below meth c T locs cells slots) (hx : p.tables.exec = Jvm.exec) (hlocks : meth.locks = false) (hret : meth.sig.returnType = none) {pc : Nat} {Ls : Array Slot} (hd : decode c.code pc = .ok (.return_, 1))
    (hc : cells ≤ cl) (hs : slots ≤ sl) (hT : T.heap = h) (hq : Q none h locs) : own_Fin p e below s Q cl sl T (mkF m pc Ls []) := by
  subst hT
  obtain ⟨fs, hr, hrun, hended, hW, hsame⟩ := X.leave (v := none) (fun _ => rfl)
  exact ⟨_, _, X.returnOut hx hret hd hr, hrun, hended, _, _, rfl, hq, ⟨_, rfl⟩, hW, hsame.mono hc hs⟩
theorem own_retR (X : Stand p l e R s m args below meth c T locs cells slots) (hx : p.tables.exec = Jvm.exec) (hlocks : meth.locks = false) {t : FieldType} (hret : meth.sig.returnType = some t) (ht : t.isReference = true) {pc : Nat} {Ls : Array Slot} {z : Value} (hz : z.isRef = true) (hd : decode c.code pc = .ok (.areturn, 1))
    (hc : cells ≤ cl) (hs : slots ≤ sl) (hT : T.heap = h) (hq : Q (some z) h locs) : own_Fin p e below s Q cl sl T (mkF m pc Ls [z]) := by
  subst hT
  obtain ⟨fs, hr, hrun, hended, hW, hsame⟩ := X.leave (v := some z) (fun h => by rw [hret] at h; cases h)
  refine ⟨_, _, ?_, hrun, hended, _, _, rfl, hq, ⟨_, rfl⟩, hW, hsame.mono hc hs⟩
  have hm' : T.vm.method? m = some meth := X.method'
  jvm_step X.here [X.here.top, hx, hd, hm', hret, ht, hz]
  first | (intro acts; rw [hr _ acts rfl rfl rfl]) | rw [hr _ _ rfl rfl rfl]
  exact Steps.refl _
/-! comparisons, said over Int -/
theorem own_cl {x y : Int32} {a b : Int} (ha : x.toInt = a) (hb : y.toInt = b) (h : a < b) : if_icmp.holds .lt x y = true ∧ if_icmp.holds .ge x y = false ∧ if_icmp.holds .gt y x = true ∧ if_icmp.holds .le y x = false := tlt (by rw [Int32.lt_iff_toInt_lt, ha, hb]; exact h)
theorem own_cn {x y : Int32} {a b : Int} (ha : x.toInt = a) (hb : y.toInt = b) (h : ¬ a < b) : if_icmp.holds .lt x y = false ∧ if_icmp.holds .ge x y = true ∧ if_icmp.holds .gt y x = false ∧ if_icmp.holds .le y x = true := flt (by rw [Int32.lt_iff_toInt_lt, ha, hb]; exact h)
theorem own_ce {x y : Int32} {a b : Int} (ha : x.toInt = a) (hb : y.toInt = b) (h : a = b) : if_icmp.holds .eq x y = true ∧ if_icmp.holds .ne x y = false := teq (by rw [← Int32.toInt_inj, ha, hb]; exact h)
theorem own_cu {x y : Int32} {a b : Int} (ha : x.toInt = a) (hb : y.toInt = b) (h : ¬ a = b) : if_icmp.holds .eq x y = false ∧ if_icmp.holds .ne x y = true := feq (by rw [← Int32.toInt_inj, ha, hb]; exact h)
theorem own_ll {x y : Int64} {a b : Int} (ha : x.toInt = a) (hb : y.toInt = b) (h : a < b) : ifCond.holds .lt (lcmpW x y) = true ∧ ifCond.holds .ge (lcmpW x y) = false ∧ ifCond.holds .gt (lcmpW y x) = true ∧ ifCond.holds .le (lcmpW y x) = false := by
  have q : x < y := by rw [Int64.lt_iff_toInt_lt, ha, hb]; exact h
  have h1 := tlt ((lw_lt x y).mpr q)
  have h2 := tlt ((lw_gt y x).mpr q)
  exact ⟨(if0 _ _).trans h1.1, (if0 _ _).trans h1.2.1, (if0 _ _).trans h2.2.2.1, (if0 _ _).trans h2.2.2.2⟩
theorem own_ln {x y : Int64} {a b : Int} (ha : x.toInt = a) (hb : y.toInt = b) (h : ¬ a < b) : ifCond.holds .lt (lcmpW x y) = false ∧ ifCond.holds .ge (lcmpW x y) = true ∧ ifCond.holds .gt (lcmpW y x) = false ∧ ifCond.holds .le (lcmpW y x) = true := by
  have q : ¬ x < y := by rw [Int64.lt_iff_toInt_lt, ha, hb]; exact h
  have h1 := flt (fun r => q ((lw_lt x y).mp r))
  have h2 := flt (fun r => q ((lw_gt y x).mp r))
  exact ⟨(if0 _ _).trans h1.1, (if0 _ _).trans h1.2.1, (if0 _ _).trans h2.2.2.1, (if0 _ _).trans h2.2.2.2⟩
theorem own_le {x y : Int64} {a b : Int} (ha : x.toInt = a) (hb : y.toInt = b) (h : a = b) : ifCond.holds .eq (lcmpW x y) = true ∧ ifCond.holds .ne (lcmpW x y) = false := by
  have q : x = y := by rw [← Int64.toInt_inj, ha, hb]; exact h
  have h1 := teq ((lw_eq x y).mpr q)
  exact ⟨(if0 _ _).trans h1.1, (if0 _ _).trans h1.2⟩
theorem own_lu {x y : Int64} {a b : Int} (ha : x.toInt = a) (hb : y.toInt = b) (h : ¬ a = b) : ifCond.holds .eq (lcmpW x y) = false ∧ ifCond.holds .ne (lcmpW x y) = true := by
  have q : ¬ x = y := by rw [← Int64.toInt_inj, ha, hb]; exact h
  have h1 := feq (fun r => q ((lw_eq x y).mp r))
  exact ⟨(if0 _ _).trans h1.1, (if0 _ _).trans h1.2⟩
/-! a boolean as an int -/
abbrev own_B (r : Int32) (P : Prop) : Prop := (r.toInt = 1 ∧ P) ∨ (r.toInt = 0 ∧ ¬ P)
theorem own_B1 {P : Prop} (h : P) : own_B 1 P := Or.inl ⟨rfl, h⟩
theorem own_B0 {P : Prop} (h : ¬ P) : own_B 0 P := Or.inr ⟨rfl, h⟩
theorem own_B.lit {r : Int32} {P : Prop} (H : own_B r P) : (r = 1 ∧ P) ∨ (r = 0 ∧ ¬ P) := by
  rcases H with ⟨q, h⟩ | ⟨q, h⟩
  · exact Or.inl ⟨Int32.toInt_inj.mp q, h⟩
  · exact Or.inr ⟨Int32.toInt_inj.mp q, h⟩
/-! arrays: their length and what each place holds -/
def own_A (Z : State) (h : Heap) (a : Addr) (ty : FieldType) (n : Nat) (f : Nat → Value) : Prop := ∃ c : Cell, Arr Z h a c ty ∧ c.slots.size = n ∧ ∀ i, i < n → c.slots[i]? = some (f i)
def own_AI (Z : State) (h : Heap) (a : Addr) (ty : FieldType) (n : Nat) (f : Nat → Int32) : Prop := own_A Z h a ty n (fun i => .int (f i))
def own_AJ (Z : State) (h : Heap) (a : Addr) (n : Nat) (f : Nat → Int64) : Prop := own_A Z h a .long n (fun i => .long (f i))
variable {ty : FieldType} {n : Nat} {fv : Nat → Value} {fi : Nat → Int32} {fj : Nat → Int64}
theorem own_A.lt (F : own_A Z h a ty n fv) : a < h.size := by obtain ⟨c, A, -⟩ := F; exact A.lt
theorem own_A.ext (F : own_A Z h a ty n fv) (E : Ext h h') : own_A Z h' a ty n fv := by obtain ⟨c, A, r⟩ := F; exact ⟨c, A.ext E, r⟩
theorem own_A.other {sl : Nat} {v : Value} (F : own_A Z h a ty n fv) (W : Wr h h' b sl v) (q : a ≠ b) : own_A Z h' a ty n fv := by obtain ⟨c, A, r⟩ := F; exact ⟨c, A.other W q, r⟩
theorem own_A.keep {ws : List Addr} (F : own_A Z h a ty n fv) (K : Keep h h' ws) (q : a ∉ ws) : own_A Z h' a ty n fv := by obtain ⟨c, A, r⟩ := F; exact ⟨c, ⟨K.2.1 a c A.1 q, A.2⟩, r⟩
theorem own_A.congr {gv : Nat → Value} (F : own_A Z h a ty n fv) (q : ∀ i, i < n → fv i = gv i) : own_A Z h a ty n gv := by obtain ⟨c, A, r, t⟩ := F; exact ⟨c, A, r, fun i hi => by rw [t i hi, q i hi]⟩
theorem own_A.set {j : Nat} {v : Value} (F : own_A Z h a ty n fv) (W : Wr h h' a j v) : own_A Z h' a ty n (fun i => if i = j then v else fv i) := by
  obtain ⟨c, A, r, t⟩ := F
  have W0 := W
  obtain ⟨c2, h1, -, h3, -⟩ := W0
  have ec : c2 = c := Option.some.inj (h1.symm.trans A.1)
  subst ec
  refine ⟨_, A.same W, by rw [sz_set]; exact r, fun i hi => ?_⟩
  by_cases q : i = j
  · subst q; simp [Cell.setSlot, h3]
  · simp only [q, if_false]; rw [← t i hi]; simp only [Cell.setSlot]; exact Array.getElem?_setIfInBounds_ne fun z => q z.symm
theorem own_A.new {k : ClassId} {z : Int32} (A : Arr Z h a (newA k ty z) ty) (q : z.toNatClampNeg = n) : own_A Z h a ty n (fun _ => defaultValue ty) := by
  subst q
  exact ⟨_, A, sz_new _ _ _, fun i hi => by simp [newA, hi]⟩
theorem own_AI.lt (F : own_AI Z h a ty n fi) : a < h.size := own_A.lt F
theorem own_AI.ext (F : own_AI Z h a ty n fi) (E : Ext h h') : own_AI Z h' a ty n fi := own_A.ext F E
theorem own_AI.other {sl : Nat} {v : Value} (F : own_AI Z h a ty n fi) (W : Wr h h' b sl v) (q : a ≠ b) : own_AI Z h' a ty n fi := own_A.other F W q
theorem own_AI.keep {ws : List Addr} (F : own_AI Z h a ty n fi) (K : Keep h h' ws) (q : a ∉ ws) : own_AI Z h' a ty n fi := own_A.keep F K q
theorem own_AI.congr {gi : Nat → Int32} (F : own_AI Z h a ty n fi) (q : ∀ i, i < n → fi i = gi i) : own_AI Z h a ty n gi := own_A.congr F fun i hi => by rw [q i hi]
theorem own_AI.set {j : Nat} {x : Int32} (F : own_AI Z h a ty n fi) (W : Wr h h' a j (.int x)) : own_AI Z h' a ty n (fun i => if i = j then x else fi i) := (own_A.set F W).congr fun i _ => by by_cases q : i = j <;> simp [q]
theorem own_AI.newI {k : ClassId} {z : Int32} (A : Arr Z h a (newA k .int z) .int) (q : z.toNatClampNeg = n) : own_AI Z h a .int n (fun _ => 0) := own_A.new A q
theorem own_AI.newB {k : ClassId} {z : Int32} (A : Arr Z h a (newA k .byte z) .byte) (q : z.toNatClampNeg = n) : own_AI Z h a .byte n (fun _ => 0) := own_A.new A q
theorem own_AJ.lt (F : own_AJ Z h a n fj) : a < h.size := own_A.lt F
theorem own_AJ.ext (F : own_AJ Z h a n fj) (E : Ext h h') : own_AJ Z h' a n fj := own_A.ext F E
theorem own_AJ.other {sl : Nat} {v : Value} (F : own_AJ Z h a n fj) (W : Wr h h' b sl v) (q : a ≠ b) : own_AJ Z h' a n fj := own_A.other F W q
theorem own_AJ.keep {ws : List Addr} (F : own_AJ Z h a n fj) (K : Keep h h' ws) (q : a ∉ ws) : own_AJ Z h' a n fj := own_A.keep F K q
theorem own_AJ.congr {gj : Nat → Int64} (F : own_AJ Z h a n fj) (q : ∀ i, i < n → fj i = gj i) : own_AJ Z h a n gj := own_A.congr F fun i hi => by rw [q i hi]
theorem own_AJ.set {j : Nat} {x : Int64} (F : own_AJ Z h a n fj) (W : Wr h h' a j (.long x)) : own_AJ Z h' a n (fun i => if i = j then x else fj i) := (own_A.set F W).congr fun i _ => by by_cases q : i = j <;> simp [q]
theorem own_AJ.new {k : ClassId} {z : Int32} (A : Arr Z h a (newA k .long z) .long) (q : z.toNatClampNeg = n) : own_AJ Z h a n (fun _ => 0) := own_A.new A q
theorem own_in {j : Int32} {k n : Nat} (hj : j.toInt = (k : Int)) (hk : k < n) : j.toNatClampNeg = k ∧ ¬ (j < 0 ∨ n ≤ j.toNatClampNeg) := by
  have q : j.toNatClampNeg = k := by simp only [Int32.toNatClampNeg, hj]; omega
  refine ⟨q, fun z => ?_⟩
  rcases z with z | z
  · rw [Int32.lt_iff_toInt_lt, hj] at z
    have : (0 : Int32).toInt = 0 := rfl
    omega
  · omega
theorem own_iaload (X : Stand p l e R s m args below meth c T locs cells slots) (hx : p.tables.exec = Jvm.exec) (hZ : Z.Warmed39 s.vm) (eT : T.heap = h) (F : own_AI Z h a .int n fi) {j : Int32} {k : Nat} (hj : j.toInt = (k : Int)) (hk : k < n) {v : Int32} (hv : fi k = v) {pc pc' : Nat} {Ls : Array Slot} {rest : List Value}
    (hd : decode c.code pc = .ok (.iaload, 1)) (hp : pc + 1 = pc') (r : own_Fin p e below s Q cl sl T (mkF m pc' Ls (.int v :: rest))) : own_Fin p e below s Q cl sl T (mkF m pc Ls (.int j :: .ref a :: rest)) := by
  obtain ⟨cc, A, h1, h2⟩ := F
  obtain ⟨q1, q2⟩ := own_in hj hk
  subst hp hv
  exact own_step (fun t k' => X.iaload hx (j := j) (v := .int (fi k)) (by rw [eT]; exact A.1) (State.isArrayOf_alike hZ.alike A.2.1) A.2.2 (by rw [h1]; exact q2) (by rw [q1]; exact h2 k hk) (g := mkF m pc Ls (.int j :: .ref a :: rest)) rfl rfl hd _ k') r
theorem own_baload (X : Stand p l e R s m args below meth c T locs cells slots) (hx : p.tables.exec = Jvm.exec) (hZ : Z.Warmed39 s.vm) (eT : T.heap = h) (F : own_AI Z h a .byte n fi) {j : Int32} {k : Nat} (hj : j.toInt = (k : Int)) (hk : k < n) {v : Int32} (hv : fi k = v) {pc pc' : Nat} {Ls : Array Slot} {rest : List Value}
    (hd : decode c.code pc = .ok (.baload, 1)) (hp : pc + 1 = pc') (r : own_Fin p e below s Q cl sl T (mkF m pc' Ls (.int v :: rest))) : own_Fin p e below s Q cl sl T (mkF m pc Ls (.int j :: .ref a :: rest)) := by
  obtain ⟨cc, A, h1, h2⟩ := F
  obtain ⟨q1, q2⟩ := own_in hj hk
  subst hp hv
  exact own_step (fun t k' => X.baloadBytes hx (j := j) (v := .int (fi k)) (by rw [eT]; exact A.1) (State.isArrayOf_alike hZ.alike A.2.1) A.2.2 (by rw [h1]; exact q2) (by rw [q1]; exact h2 k hk) (g := mkF m pc Ls (.int j :: .ref a :: rest)) rfl rfl hd _ k') r
theorem own_laload (X : Stand p l e R s m args below meth c T locs cells slots) (hx : p.tables.exec = Jvm.exec) (hZ : Z.Warmed39 s.vm) (eT : T.heap = h) (F : own_AJ Z h a n fj) {j : Int32} {k : Nat} (hj : j.toInt = (k : Int)) (hk : k < n) {v : Int64} (hv : fj k = v) {pc pc' : Nat} {Ls : Array Slot} {rest : List Value}
    (hd : decode c.code pc = .ok (.laload, 1)) (hp : pc + 1 = pc') (r : own_Fin p e below s Q cl sl T (mkF m pc' Ls (.long v :: rest))) : own_Fin p e below s Q cl sl T (mkF m pc Ls (.int j :: .ref a :: rest)) := by
  obtain ⟨cc, A, h1, h2⟩ := F
  obtain ⟨q1, q2⟩ := own_in hj hk
  subst hp hv
  exact own_step (fun t k' => X.laload hx (j := j) (v := .long (fj k)) (by rw [eT]; exact A.1) (State.isArrayOf_alike hZ.alike A.2.1) A.2.2 (by rw [h1]; exact q2) (by rw [q1]; exact h2 k hk) (g := mkF m pc Ls (.int j :: .ref a :: rest)) rfl rfl hd _ k') r
theorem own_arrlen (X : Stand p l e R s m args below meth c T locs cells slots) (hx : p.tables.exec = Jvm.exec) (hZ : Z.Warmed39 s.vm) (eT : T.heap = h) (F : own_A Z h a ty n fv) {z : Int32} (hz : n.toInt32 = z) {pc pc' : Nat} {Ls : Array Slot} {rest : List Value}
    (hd : decode c.code pc = .ok (.arraylength, 1)) (hp : pc + 1 = pc') (r : own_Fin p e below s Q cl sl T (mkF m pc' Ls (.int z :: rest))) : own_Fin p e below s Q cl sl T (mkF m pc Ls (.ref a :: rest)) := by
  obtain ⟨cc, A, h1, h2⟩ := F
  subst hp hz
  exact own_step (fun t k' => X.arraylength hx (by rw [eT]; exact A.1) (State.isArrayOf_alike hZ.alike A.2.1) (g := mkF m pc Ls (.ref a :: rest)) rfl rfl hd _ (by rw [h1]; exact k')) r
theorem own_iastore (X : Stand p l e R s m args below meth c T locs cells slots) (hx : p.tables.exec = Jvm.exec) (hZ : Z.Warmed39 s.vm) (eT : T.heap = h) (F : own_AI Z h a .int n fi) {j : Int32} {k : Nat} (hj : j.toInt = (k : Int)) (hk : k < n) {x : Int32} {pc pc' : Nat} {Ls : Array Slot} {rest : List Value}
    (hd : decode c.code pc = .ok (.iastore, 1)) (hp : pc + 1 = pc') :
    ∃ T' h', Stand p l e R s m args below meth c T' (locs ++ [⟨a, k⟩]) cells slots ∧ T'.heap = h' ∧ Wr h h' a k (.int x) ∧ own_AI Z h' a .int n (fun i => if i = k then x else fi i) ∧ ∀ t, Steps p.tables e below (T'.setTop (mkF m pc' Ls rest)) t → Steps p.tables e below (T.setTop (mkF m pc Ls (.int x :: .int j :: .ref a :: rest))) t := by
  obtain ⟨q1, q2⟩ := own_in hj hk
  have F' := F
  obtain ⟨cc, A, h1, h2⟩ := F
  subst hp q1
  obtain ⟨T', h', X', e', W', st⟩ := stI X hx hZ eT A (j := j) (x := x) (by rw [h1]; exact q2) (g := mkF m pc Ls (.int x :: .int j :: .ref a :: rest)) rfl rfl hd
  exact ⟨T', h', X', e', W', F'.set W', st⟩
theorem own_bastore (X : Stand p l e R s m args below meth c T locs cells slots) (hx : p.tables.exec = Jvm.exec) (hZ : Z.Warmed39 s.vm) (eT : T.heap = h) (F : own_AI Z h a .byte n fi) {j : Int32} {k : Nat} (hj : j.toInt = (k : Int)) (hk : k < n) {x y : Int32} (hn : nar .byte x = y) {pc pc' : Nat} {Ls : Array Slot} {rest : List Value}
    (hd : decode c.code pc = .ok (.bastore, 1)) (hp : pc + 1 = pc') :
    ∃ T' h', Stand p l e R s m args below meth c T' (locs ++ [⟨a, k⟩]) cells slots ∧ T'.heap = h' ∧ Wr h h' a k (.int y) ∧ own_AI Z h' a .byte n (fun i => if i = k then y else fi i) ∧ ∀ t, Steps p.tables e below (T'.setTop (mkF m pc' Ls rest)) t → Steps p.tables e below (T.setTop (mkF m pc Ls (.int x :: .int j :: .ref a :: rest))) t := by
  obtain ⟨q1, q2⟩ := own_in hj hk
  have F' := F
  obtain ⟨cc, A, h1, h2⟩ := F
  subst hp q1 hn
  obtain ⟨T', h', X', e', W', st⟩ := stB X hx hZ eT A (j := j) (x := x) (by rw [h1]; exact q2) (g := mkF m pc Ls (.int x :: .int j :: .ref a :: rest)) rfl rfl hd
  exact ⟨T', h', X', e', W', F'.set W', st⟩
theorem own_lastore (X : Stand p l e R s m args below meth c T locs cells slots) (hx : p.tables.exec = Jvm.exec) (hZ : Z.Warmed39 s.vm) (eT : T.heap = h) (F : own_AJ Z h a n fj) {j : Int32} {k : Nat} (hj : j.toInt = (k : Int)) (hk : k < n) {x : Int64} {pc pc' : Nat} {Ls : Array Slot} {rest : List Value}
    (hd : decode c.code pc = .ok (.lastore, 1)) (hp : pc + 1 = pc') :
    ∃ T' h', Stand p l e R s m args below meth c T' (locs ++ [⟨a, k⟩]) cells slots ∧ T'.heap = h' ∧ Wr h h' a k (.long x) ∧ own_AJ Z h' a n (fun i => if i = k then x else fj i) ∧ ∀ t, Steps p.tables e below (T'.setTop (mkF m pc' Ls rest)) t → Steps p.tables e below (T.setTop (mkF m pc Ls (.long x :: .int j :: .ref a :: rest))) t := by
  obtain ⟨q1, q2⟩ := own_in hj hk
  have F' := F
  obtain ⟨cc, A, h1, h2⟩ := F
  subst hp q1
  obtain ⟨T', h', X', e', W', st⟩ := stJ X hx hZ eT A (j := j) (x := x) (by rw [h1]; exact q2) (g := mkF m pc Ls (.long x :: .int j :: .ref a :: rest)) rfl rfl hd
  exact ⟨T', h', X', e', W', F'.set W', st⟩
theorem own_nar8 (x : Int32) : nar .byte x.toInt8.toInt32 = x.toInt8.toInt32 := by
  show (x.toInt8.toInt32).toInt8.toInt32 = x.toInt8.toInt32
  simp
end OwnKit
theorem own_five {i : Nat} (h : i < 5) : i = 0 ∨ i = 1 ∨ i = 2 ∨ i = 3 ∨ i = 4 := by omega
/-- what carry leaves, said over Int: u is the running limb -/
def own_carried (f g : Nat → Int64) : Prop := ∃ u1 u2 u3 u4 : Int, u1 = (f 1).toInt + (f 0).toInt / 2251799813685248 ∧ u2 = (f 2).toInt + u1 / 2251799813685248 ∧ u3 = (f 3).toInt + u2 / 2251799813685248 ∧ u4 = (f 4).toInt + u3 / 2251799813685248 ∧ (g 0).toInt = (f 0).toInt % 2251799813685248 + 19 * (u4 / 2251799813685248) ∧ (g 1).toInt = u1 % 2251799813685248 ∧ (g 2).toInt = u2 % 2251799813685248 ∧ (g 3).toInt = u3 % 2251799813685248 ∧ (g 4).toInt = u4 % 2251799813685248
theorem own_c0 (x y w : Int64) (u : Int) (hx : 0 ≤ x.toInt) (hu : 0 ≤ u) (hu2 : u < 18446744073709551616) (hy : (y.toInt - u) % 18446744073709551616 = 0) (e : x + ((y.toUInt64 >>> ((51 : Int32) &&& 0x3f).toInt64.toUInt64).toInt64) = w) : (w.toInt - (x.toInt + u / 2251799813685248)) % 18446744073709551616 = 0 := by
  have h1 := c_lushr y 51 51 (by decide) (by decide)
  have h2 := c_ladd x ((y.toUInt64 >>> ((51 : Int32) &&& 0x3f).toInt64.toUInt64).toInt64)
  rw [e, h1] at h2
  have h3 : y.toInt % 18446744073709551616 = u := by omega
  rw [h3] at h2
  omega
theorem own_m (y : Int64) (u : Int) (hy : (y.toInt - u) % 18446744073709551616 = 0) : (y &&& (2251799813685247 : Int64)).toInt = u % 2251799813685248 := by
  have h := c_maskL y 2251799813685247 51 (by decide) (by decide)
  rw [h]
  omega
theorem own_last (z y : Int64) (u v : Int) (hz : z.toInt = v) (hv : 0 ≤ v) (hv2 : v < 2251799813685248) (hu : 0 ≤ u) (hu2 : u < 18446744073709551616) (hy : (y.toInt - u) % 18446744073709551616 = 0) : (z + (19 : Int64) * ((y.toUInt64 >>> ((51 : Int32) &&& 0x3f).toInt64.toUInt64).toInt64)).toInt = v + 19 * (u / 2251799813685248) := by
  have h1 := c_lushr y 51 51 (by decide) (by decide)
  have h2 := c_lmul 19 ((y.toUInt64 >>> ((51 : Int32) &&& 0x3f).toInt64.toUInt64).toInt64)
  have h3 := c_ladd z ((19 : Int64) * ((y.toUInt64 >>> ((51 : Int32) &&& 0x3f).toInt64.toUInt64).toInt64))
  have h4 := rng64 (z + (19 : Int64) * ((y.toUInt64 >>> ((51 : Int32) &&& 0x3f).toInt64.toUInt64).toInt64))
  have h5 : (19 : Int64).toInt = 19 := by decide
  have h6 : y.toInt % 18446744073709551616 = u := by omega
  rw [h1, h5, h6] at h2
  rw [hz] at h3
  have e : ((2 : Nat) ^ 51 : Nat) = 2251799813685248 := by decide
  rw [e] at h2
  omega
theorem own_rng (a x : Int64) (h : (a &&& (9223372036854775807 : Int64)) = x) : 0 ≤ x.toInt := by
  have q := c_maskL a 9223372036854775807 63 (by decide) (by decide)
  rw [h] at q
  omega
theorem own_dv (x k : Int64) (hx : 0 ≤ x.toInt) (h : x / (2251799813685248 : Int64) = k) : k.toInt = x.toInt / 2251799813685248 := by
  have q := (c_ldiv x 2251799813685248 2251799813685248 (by decide) (by decide)).1 hx
  rw [h] at q; exact q
theorem own_rm (x k : Int64) (hx : 0 ≤ x.toInt) (h : x - (x / (2251799813685248 : Int64)) * (2251799813685248 : Int64) = k) : k.toInt = x.toInt % 2251799813685248 := by
  have q := (c_lrem x 2251799813685248 2251799813685248 (by decide)).1 hx
  rw [h] at q; exact q
theorem own_ad (x y w : Int64) (h : x + y = w) (h1 : 0 ≤ x.toInt) (h2 : 0 ≤ y.toInt) (h3 : x.toInt + y.toInt < 9223372036854775808) : w.toInt = x.toInt + y.toInt := by
  have q := c_ladd x y
  rw [h] at q
  have r := rng64 w
  omega
theorem d1_0 : decode prog_33_method_24_code 0 = .ok (.iconst 0, 1) := by decide +kernel
theorem d1_1 : decode prog_33_method_24_code 1 = .ok (.istore_n 1, 1) := by decide +kernel
theorem d1_2 : decode prog_33_method_24_code 2 = .ok (.iload_n 1, 1) := by decide +kernel
theorem d1_3 : decode prog_33_method_24_code 3 = .ok (.iconst 4, 1) := by decide +kernel
theorem d1_4 : decode prog_33_method_24_code 4 = .ok (.if_icmp .ge 32, 3) := by decide +kernel
theorem d1_7 : decode prog_33_method_24_code 7 = .ok (.aload_n 0, 1) := by decide +kernel
theorem d1_8 : decode prog_33_method_24_code 8 = .ok (.iload_n 1, 1) := by decide +kernel
theorem d1_9 : decode prog_33_method_24_code 9 = .ok (.iconst 1, 1) := by decide +kernel
theorem d1_10 : decode prog_33_method_24_code 10 = .ok (.iadd, 1) := by decide +kernel
theorem d1_11 : decode prog_33_method_24_code 11 = .ok (.dup2, 1) := by decide +kernel
theorem d1_12 : decode prog_33_method_24_code 12 = .ok (.laload, 1) := by decide +kernel
theorem d1_13 : decode prog_33_method_24_code 13 = .ok (.aload_n 0, 1) := by decide +kernel
theorem d1_14 : decode prog_33_method_24_code 14 = .ok (.iload_n 1, 1) := by decide +kernel
theorem d1_15 : decode prog_33_method_24_code 15 = .ok (.laload, 1) := by decide +kernel
theorem d1_16 : decode prog_33_method_24_code 16 = .ok (.bipush 51, 2) := by decide +kernel
theorem d1_18 : decode prog_33_method_24_code 18 = .ok (.lushr, 1) := by decide +kernel
theorem d1_19 : decode prog_33_method_24_code 19 = .ok (.ladd, 1) := by decide +kernel
theorem d1_20 : decode prog_33_method_24_code 20 = .ok (.lastore, 1) := by decide +kernel
theorem d1_21 : decode prog_33_method_24_code 21 = .ok (.aload_n 0, 1) := by decide +kernel
theorem d1_22 : decode prog_33_method_24_code 22 = .ok (.iload_n 1, 1) := by decide +kernel
theorem d1_23 : decode prog_33_method_24_code 23 = .ok (.dup2, 1) := by decide +kernel
theorem d1_24 : decode prog_33_method_24_code 24 = .ok (.laload, 1) := by decide +kernel
theorem d1_25 : decode prog_33_method_24_code 25 = .ok (.ldc2_w 57, 3) := by decide +kernel
theorem d1_28 : decode prog_33_method_24_code 28 = .ok (.land, 1) := by decide +kernel
theorem d1_29 : decode prog_33_method_24_code 29 = .ok (.lastore, 1) := by decide +kernel
theorem d1_30 : decode prog_33_method_24_code 30 = .ok (.iinc 1 1, 3) := by decide +kernel
theorem d1_33 : decode prog_33_method_24_code 33 = .ok (.goto (-31), 3) := by decide +kernel
theorem d1_36 : decode prog_33_method_24_code 36 = .ok (.aload_n 0, 1) := by decide +kernel
theorem d1_37 : decode prog_33_method_24_code 37 = .ok (.iconst 0, 1) := by decide +kernel
theorem d1_38 : decode prog_33_method_24_code 38 = .ok (.dup2, 1) := by decide +kernel
theorem d1_39 : decode prog_33_method_24_code 39 = .ok (.laload, 1) := by decide +kernel
theorem d1_40 : decode prog_33_method_24_code 40 = .ok (.ldc2_w 23, 3) := by decide +kernel
theorem d1_43 : decode prog_33_method_24_code 43 = .ok (.aload_n 0, 1) := by decide +kernel
theorem d1_44 : decode prog_33_method_24_code 44 = .ok (.iconst 4, 1) := by decide +kernel
theorem d1_45 : decode prog_33_method_24_code 45 = .ok (.laload, 1) := by decide +kernel
theorem d1_46 : decode prog_33_method_24_code 46 = .ok (.bipush 51, 2) := by decide +kernel
theorem d1_48 : decode prog_33_method_24_code 48 = .ok (.lushr, 1) := by decide +kernel
theorem d1_49 : decode prog_33_method_24_code 49 = .ok (.lmul, 1) := by decide +kernel
theorem d1_50 : decode prog_33_method_24_code 50 = .ok (.ladd, 1) := by decide +kernel
theorem d1_51 : decode prog_33_method_24_code 51 = .ok (.lastore, 1) := by decide +kernel
theorem d1_52 : decode prog_33_method_24_code 52 = .ok (.aload_n 0, 1) := by decide +kernel
theorem d1_53 : decode prog_33_method_24_code 53 = .ok (.iconst 4, 1) := by decide +kernel
theorem d1_54 : decode prog_33_method_24_code 54 = .ok (.dup2, 1) := by decide +kernel
theorem d1_55 : decode prog_33_method_24_code 55 = .ok (.laload, 1) := by decide +kernel
theorem d1_56 : decode prog_33_method_24_code 56 = .ok (.ldc2_w 57, 3) := by decide +kernel
theorem d1_59 : decode prog_33_method_24_code 59 = .ok (.land, 1) := by decide +kernel
theorem d1_60 : decode prog_33_method_24_code 60 = .ok (.lastore, 1) := by decide +kernel
theorem d1_61 : decode prog_33_method_24_code 61 = .ok (.return_, 1) := by decide +kernel
theorem own_pn_1 : plainName "com/example/quietwire/quietwire/Field25519" = true := by first | (simp [plainName, overriddenIn]; done) | decide +kernel
theorem own_ef_1 (m : MethodId) (a1 : Addr) : entryFrame m #[(.ref a1)] 2 = mkF m 0 #[.val (.ref a1), .unset] [] := by first | (simp [entryFrame, mkF, argsToLocals, Value.category]; done) | rfl
abbrev own_R1 : Room := { frames := 0, cells := 0, slots := 0, locals := 0 }
def own_Q1 (Z : State) (a1 : Addr) (f1 : Nat → Int64) (h0 : Heap) (n0 : Nat) (v : Option Value) (h : Heap) (L : List Loc) : Prop := v = none ∧ Fr n0 L ∧ Keep h0 h [a1] ∧ ∃ g, own_carried f1 g ∧ own_AJ Z h a1 5 g
set_option maxRecDepth 65536 in
set_option maxHeartbeats 40000000 in
theorem rm1 (l : Launch) (Z : State) (a0 : Array Value) (hw : ∀ d ∈ tables_1, d.before a0 Z = true) (ws : List Jvm.Cond) (a1 : Addr) (f1 : Nat → Int64) (h0 : Heap) (n0 : Nat) (Z0 : n0 ≤ h0.size) (V_a1 : own_AJ Z h0 a1 5 f1) (g_a1 : n0 ≤ a1) (hn0 : 0 ≤ (f1 0).toInt) (hn1 : 0 ≤ (f1 1).toInt) (hn2 : 0 ≤ (f1 2).toInt) (hn3 : 0 ≤ (f1 3).toInt) (hn4 : 0 ≤ (f1 4).toInt) :
    MetFree l (⟨"com/example/quietwire/quietwire/Field25519", "carry", "([J)V"⟩ : MethodName) (head1 (Jvm.Cond.code (⟨"com/example/quietwire/quietwire/Field25519", "carry", "([J)V"⟩ : MethodName) prog_33_method_24_code 2 none :: ws) own_R1) (fun a U => a = #[(.ref a1)] ∧ Z.Warmed39 U.vm ∧ U.heap = h0) (fun _ _ _ _ _ => True) (fun _ U o U' => ∃ v L, o = .returned v ∧ own_Q1 Z a1 f1 h0 n0 v U'.heap L ∧ FrameEnd U o U' L own_R1.cells own_R1.slots) := by
  refine MetFree.of_bodySF (plainFor_of_name own_pn_1) hisR ?_
  intro p e s m args below meth c s₁ Bd hml0 hP hK
  obtain ⟨rfl, hZ, hh⟩ := hP
  have hx := Bd.exec
  have hby := Bd.bytes
  have hlk := BodyLoose.notSynchronized Bd
  have hml : c.maxLocals = 2 := hml0
  have hown : s.vm.findClass "com/example/quietwire/quietwire/Field25519" = some m.cls := (findClass_of_methodNamed Bd.named : s.vm.findClass (⟨"com/example/quietwire/quietwire/Field25519", "carry", "([J)V"⟩ : MethodName).cls = some m.cls)
  have hnm := (name_of_methodNamed Bd.named Bd.method).1
  have X0 : Stand p l e own_R1 s m #[(.ref a1)] below meth c s₁ [] 0 0 := Stand.of_body Bd
  have e0 : s₁.heap = h0 := by rw [← hh, Bd.state]; rfl
  have Nf := Fr.nil n0
  have Zs := Z0
  have K : Keep h0 h0 [a1] := Keep.refl _ _
  show own_Fin p e below s (own_Q1 Z a1 f1 h0 n0) 0 0 s₁ (entryFrame m #[(.ref a1)] 2)
  rw [own_ef_1 m a1]
  show own_Fin _ _ _ _ _ _ _ _ (mkF m 0 #[.val (.ref a1), .unset] [])
  refine own_step (fun t k => XS.iconst X0.here hx rfl (hb hby d1_0) k) ?_
  show own_Fin _ _ _ _ _ _ _ _ (mkF m 1 #[.val (.ref a1), .unset] [(.int (0 : Int32))])
  refine own_step (fun t k => XS.istoreN X0.here hx rfl (hb hby d1_1) rfl (l' := #[.val (.ref a1), .val (.int (0 : Int32))]) rfl k) ?_
  show own_Fin _ _ _ _ _ _ _ _ (mkF m 2 #[.val (.ref a1), .val (.int (0 : Int32))] [])
  refine own_step (fun t k => XS.iloadN X0.here hx rfl (hb hby d1_2) rfl k) ?_
  show own_Fin _ _ _ _ _ _ _ _ (mkF m 3 #[.val (.ref a1), .val (.int (0 : Int32))] [(.int (0 : Int32))])
  refine own_step (fun t k => XS.iconst X0.here hx rfl (hb hby d1_3) k) ?_
  show own_Fin _ _ _ _ _ _ _ _ (mkF m 4 #[.val (.ref a1), .val (.int (0 : Int32))] [(.int (4 : Int32)), (.int (0 : Int32))])
  refine own_step (fun t k => XS.icmpNo X0.here hx rfl (hb hby d1_4) rfl (by decide) k) ?_
  show own_Fin _ _ _ _ _ _ _ _ (mkF m 7 #[.val (.ref a1), .val (.int (0 : Int32))] [])
  refine own_step (fun t k => XS.aloadN X0.here hx rfl (hb hby d1_7) rfl rfl k) ?_
  show own_Fin _ _ _ _ _ _ _ _ (mkF m 8 #[.val (.ref a1), .val (.int (0 : Int32))] [(.ref a1)])
  refine own_step (fun t k => XS.iloadN X0.here hx rfl (hb hby d1_8) rfl k) ?_
  show own_Fin _ _ _ _ _ _ _ _ (mkF m 9 #[.val (.ref a1), .val (.int (0 : Int32))] [(.int (0 : Int32)), (.ref a1)])
  refine own_step (fun t k => XS.iconst X0.here hx rfl (hb hby d1_9) k) ?_
  show own_Fin _ _ _ _ _ _ _ _ (mkF m 10 #[.val (.ref a1), .val (.int (0 : Int32))] [(.int (1 : Int32)), (.int (0 : Int32)), (.ref a1)])
  refine own_step (fun t k => XS.iadd X0.here hx rfl (hb hby d1_10) rfl k) ?_
  show own_Fin _ _ _ _ _ _ _ _ (mkF m 11 #[.val (.ref a1), .val (.int (0 : Int32))] [(.int (1 : Int32)), (.ref a1)])
  refine own_step (fun t k => XT.dup2 X0.here hx rfl (hb hby d1_11) rfl rfl rfl k) ?_
  show own_Fin _ _ _ _ _ _ _ _ (mkF m 12 #[.val (.ref a1), .val (.int (0 : Int32))] [(.int (1 : Int32)), (.ref a1), (.int (1 : Int32)), (.ref a1)])
  refine own_laload X0 hx hZ e0 V_a1 (k := 1) rfl (by decide) (v := (f1 1)) rfl (hb hby d1_12) rfl ?_
  show own_Fin _ _ _ _ _ _ _ _ (mkF m 13 #[.val (.ref a1), .val (.int (0 : Int32))] [(.long (f1 1)), (.int (1 : Int32)), (.ref a1)])
  refine own_step (fun t k => XS.aloadN X0.here hx rfl (hb hby d1_13) rfl rfl k) ?_
  show own_Fin _ _ _ _ _ _ _ _ (mkF m 14 #[.val (.ref a1), .val (.int (0 : Int32))] [(.ref a1), (.long (f1 1)), (.int (1 : Int32)), (.ref a1)])
  refine own_step (fun t k => XS.iloadN X0.here hx rfl (hb hby d1_14) rfl k) ?_
  show own_Fin _ _ _ _ _ _ _ _ (mkF m 15 #[.val (.ref a1), .val (.int (0 : Int32))] [(.int (0 : Int32)), (.ref a1), (.long (f1 1)), (.int (1 : Int32)), (.ref a1)])
  refine own_laload X0 hx hZ e0 V_a1 (k := 0) rfl (by decide) (v := (f1 0)) rfl (hb hby d1_15) rfl ?_
  show own_Fin _ _ _ _ _ _ _ _ (mkF m 16 #[.val (.ref a1), .val (.int (0 : Int32))] [(.long (f1 0)), (.long (f1 1)), (.int (1 : Int32)), (.ref a1)])
  refine own_step (fun t k => XS.bipush X0.here hx rfl (hb hby d1_16) k) ?_
  show own_Fin _ _ _ _ _ _ _ _ (mkF m 18 #[.val (.ref a1), .val (.int (0 : Int32))] [(.int (51 : Int32)), (.long (f1 0)), (.long (f1 1)), (.int (1 : Int32)), (.ref a1)])
  refine own_step (fun t k => XS.lushr X0.here hx rfl (hb hby d1_18) rfl k) ?_
  show own_Fin _ _ _ _ _ _ _ _ (mkF m 19 #[.val (.ref a1), .val (.int (0 : Int32))] [(.long (((f1 0).toUInt64 >>> ((51 : Int32) &&& 0x3f).toInt64.toUInt64).toInt64)), (.long (f1 1)), (.int (1 : Int32)), (.ref a1)])
  refine own_step (fun t k => XS.ladd X0.here hx rfl (hb hby d1_19) rfl k) ?_
  show own_Fin _ _ _ _ _ _ _ _ (mkF m 20 #[.val (.ref a1), .val (.int (0 : Int32))] [(.long ((f1 1) + (((f1 0).toUInt64 >>> ((51 : Int32) &&& 0x3f).toInt64.toUInt64).toInt64))), (.int (1 : Int32)), (.ref a1)])
  generalize hy1a : ((f1 1) + (((f1 0).toUInt64 >>> ((51 : Int32) &&& 0x3f).toInt64.toUInt64).toInt64)) = y1a
  obtain ⟨T1, h1, X1, e1, W1, B1, st1⟩ := own_lastore X0 hx hZ e0 V_a1 (j := (1 : Int32)) (k := 1) rfl (by decide) (x := y1a) (pc := 20) (Ls := #[.val (.ref a1), .val (.int (0 : Int32))]) (rest := []) (hb hby d1_20) rfl
  refine own_step st1 ?_
  replace Zs : n0 ≤ h1.size := by rw [W1.size]; exact Zs
  replace K := K.wr W1 (Or.inl (by simp))
  replace V_a1 := B1
  replace Nf := Fr.snoc X1 Nf g_a1
  show own_Fin _ _ _ _ _ _ _ _ (mkF m 21 #[.val (.ref a1), .val (.int (0 : Int32))] [])
  refine own_step (fun t k => XS.aloadN X1.here hx rfl (hb hby d1_21) rfl rfl k) ?_
  show own_Fin _ _ _ _ _ _ _ _ (mkF m 22 #[.val (.ref a1), .val (.int (0 : Int32))] [(.ref a1)])
  refine own_step (fun t k => XS.iloadN X1.here hx rfl (hb hby d1_22) rfl k) ?_
  show own_Fin _ _ _ _ _ _ _ _ (mkF m 23 #[.val (.ref a1), .val (.int (0 : Int32))] [(.int (0 : Int32)), (.ref a1)])
  refine own_step (fun t k => XT.dup2 X1.here hx rfl (hb hby d1_23) rfl rfl rfl k) ?_
  show own_Fin _ _ _ _ _ _ _ _ (mkF m 24 #[.val (.ref a1), .val (.int (0 : Int32))] [(.int (0 : Int32)), (.ref a1), (.int (0 : Int32)), (.ref a1)])
  refine own_laload X1 hx hZ e1 V_a1 (k := 0) rfl (by decide) (v := (f1 0)) rfl (hb hby d1_24) rfl ?_
  show own_Fin _ _ _ _ _ _ _ _ (mkF m 25 #[.val (.ref a1), .val (.int (0 : Int32))] [(.long (f1 0)), (.int (0 : Int32)), (.ref a1)])
  refine own_step (fun t k => X1.ldc2Long hx hown (mvT hZ (hw _ (List.mem_of_getElem? (i := 6) rfl))) (g := (mkF m 25 #[.val (.ref a1), .val (.int (0 : Int32))] [(.long (f1 0)), (.int (0 : Int32)), (.ref a1)])) rfl (hb hby d1_25) _ k) ?_
  show own_Fin _ _ _ _ _ _ _ _ (mkF m 28 #[.val (.ref a1), .val (.int (0 : Int32))] [(.long (2251799813685247 : Int64)), (.long (f1 0)), (.int (0 : Int32)), (.ref a1)])
  refine own_step (fun t k => XS.land X1.here hx rfl (hb hby d1_28) rfl k) ?_
  show own_Fin _ _ _ _ _ _ _ _ (mkF m 29 #[.val (.ref a1), .val (.int (0 : Int32))] [(.long ((f1 0) &&& (2251799813685247 : Int64))), (.int (0 : Int32)), (.ref a1)])
  obtain ⟨T2, h2, X2, e2, W2, B2, st2⟩ := own_lastore X1 hx hZ e1 V_a1 (j := (0 : Int32)) (k := 0) rfl (by decide) (x := ((f1 0) &&& (2251799813685247 : Int64))) (pc := 29) (Ls := #[.val (.ref a1), .val (.int (0 : Int32))]) (rest := []) (hb hby d1_29) rfl
  refine own_step st2 ?_
  replace Zs : n0 ≤ h2.size := by rw [W2.size]; exact Zs
  replace K := K.wr W2 (Or.inl (by simp))
  replace V_a1 := B2
  replace Nf := Fr.snoc X2 Nf g_a1
  show own_Fin _ _ _ _ _ _ _ _ (mkF m 30 #[.val (.ref a1), .val (.int (0 : Int32))] [])
  refine own_step (fun t k => XS.iinc X2.here hx rfl (hb hby d1_30) rfl (l' := #[.val (.ref a1), .val (.int (1 : Int32))]) rfl k) ?_
  show own_Fin _ _ _ _ _ _ _ _ (mkF m 33 #[.val (.ref a1), .val (.int (1 : Int32))] [])
  refine own_step (fun t k => XS.goto X2.here hx rfl (pc0 := 33) (pc' := 2) rfl (hb hby d1_33) (by decide) (by decide) k) ?_
  show own_Fin _ _ _ _ _ _ _ _ (mkF m 2 #[.val (.ref a1), .val (.int (1 : Int32))] [])
  refine own_step (fun t k => XS.iloadN X2.here hx rfl (hb hby d1_2) rfl k) ?_
  show own_Fin _ _ _ _ _ _ _ _ (mkF m 3 #[.val (.ref a1), .val (.int (1 : Int32))] [(.int (1 : Int32))])
  refine own_step (fun t k => XS.iconst X2.here hx rfl (hb hby d1_3) k) ?_
  show own_Fin _ _ _ _ _ _ _ _ (mkF m 4 #[.val (.ref a1), .val (.int (1 : Int32))] [(.int (4 : Int32)), (.int (1 : Int32))])
  refine own_step (fun t k => XS.icmpNo X2.here hx rfl (hb hby d1_4) rfl (by decide) k) ?_
  show own_Fin _ _ _ _ _ _ _ _ (mkF m 7 #[.val (.ref a1), .val (.int (1 : Int32))] [])
  refine own_step (fun t k => XS.aloadN X2.here hx rfl (hb hby d1_7) rfl rfl k) ?_
  show own_Fin _ _ _ _ _ _ _ _ (mkF m 8 #[.val (.ref a1), .val (.int (1 : Int32))] [(.ref a1)])
  refine own_step (fun t k => XS.iloadN X2.here hx rfl (hb hby d1_8) rfl k) ?_
  show own_Fin _ _ _ _ _ _ _ _ (mkF m 9 #[.val (.ref a1), .val (.int (1 : Int32))] [(.int (1 : Int32)), (.ref a1)])
  refine own_step (fun t k => XS.iconst X2.here hx rfl (hb hby d1_9) k) ?_
  show own_Fin _ _ _ _ _ _ _ _ (mkF m 10 #[.val (.ref a1), .val (.int (1 : Int32))] [(.int (1 : Int32)), (.int (1 : Int32)), (.ref a1)])
  refine own_step (fun t k => XS.iadd X2.here hx rfl (hb hby d1_10) rfl k) ?_
  show own_Fin _ _ _ _ _ _ _ _ (mkF m 11 #[.val (.ref a1), .val (.int (1 : Int32))] [(.int (2 : Int32)), (.ref a1)])
  refine own_step (fun t k => XT.dup2 X2.here hx rfl (hb hby d1_11) rfl rfl rfl k) ?_
  show own_Fin _ _ _ _ _ _ _ _ (mkF m 12 #[.val (.ref a1), .val (.int (1 : Int32))] [(.int (2 : Int32)), (.ref a1), (.int (2 : Int32)), (.ref a1)])
  refine own_laload X2 hx hZ e2 V_a1 (k := 2) rfl (by decide) (v := (f1 2)) rfl (hb hby d1_12) rfl ?_
  show own_Fin _ _ _ _ _ _ _ _ (mkF m 13 #[.val (.ref a1), .val (.int (1 : Int32))] [(.long (f1 2)), (.int (2 : Int32)), (.ref a1)])
  refine own_step (fun t k => XS.aloadN X2.here hx rfl (hb hby d1_13) rfl rfl k) ?_
  show own_Fin _ _ _ _ _ _ _ _ (mkF m 14 #[.val (.ref a1), .val (.int (1 : Int32))] [(.ref a1), (.long (f1 2)), (.int (2 : Int32)), (.ref a1)])
  refine own_step (fun t k => XS.iloadN X2.here hx rfl (hb hby d1_14) rfl k) ?_
  show own_Fin _ _ _ _ _ _ _ _ (mkF m 15 #[.val (.ref a1), .val (.int (1 : Int32))] [(.int (1 : Int32)), (.ref a1), (.long (f1 2)), (.int (2 : Int32)), (.ref a1)])
  refine own_laload X2 hx hZ e2 V_a1 (k := 1) rfl (by decide) (v := y1a) rfl (hb hby d1_15) rfl ?_
  show own_Fin _ _ _ _ _ _ _ _ (mkF m 16 #[.val (.ref a1), .val (.int (1 : Int32))] [(.long y1a), (.long (f1 2)), (.int (2 : Int32)), (.ref a1)])
  refine own_step (fun t k => XS.bipush X2.here hx rfl (hb hby d1_16) k) ?_
  show own_Fin _ _ _ _ _ _ _ _ (mkF m 18 #[.val (.ref a1), .val (.int (1 : Int32))] [(.int (51 : Int32)), (.long y1a), (.long (f1 2)), (.int (2 : Int32)), (.ref a1)])
  refine own_step (fun t k => XS.lushr X2.here hx rfl (hb hby d1_18) rfl k) ?_
  show own_Fin _ _ _ _ _ _ _ _ (mkF m 19 #[.val (.ref a1), .val (.int (1 : Int32))] [(.long ((y1a.toUInt64 >>> ((51 : Int32) &&& 0x3f).toInt64.toUInt64).toInt64)), (.long (f1 2)), (.int (2 : Int32)), (.ref a1)])
  refine own_step (fun t k => XS.ladd X2.here hx rfl (hb hby d1_19) rfl k) ?_
  show own_Fin _ _ _ _ _ _ _ _ (mkF m 20 #[.val (.ref a1), .val (.int (1 : Int32))] [(.long ((f1 2) + ((y1a.toUInt64 >>> ((51 : Int32) &&& 0x3f).toInt64.toUInt64).toInt64))), (.int (2 : Int32)), (.ref a1)])
  generalize hy2a : ((f1 2) + ((y1a.toUInt64 >>> ((51 : Int32) &&& 0x3f).toInt64.toUInt64).toInt64)) = y2a
  obtain ⟨T3, h3, X3, e3, W3, B3, st3⟩ := own_lastore X2 hx hZ e2 V_a1 (j := (2 : Int32)) (k := 2) rfl (by decide) (x := y2a) (pc := 20) (Ls := #[.val (.ref a1), .val (.int (1 : Int32))]) (rest := []) (hb hby d1_20) rfl
  refine own_step st3 ?_
  replace Zs : n0 ≤ h3.size := by rw [W3.size]; exact Zs
  replace K := K.wr W3 (Or.inl (by simp))
  replace V_a1 := B3
  replace Nf := Fr.snoc X3 Nf g_a1
  show own_Fin _ _ _ _ _ _ _ _ (mkF m 21 #[.val (.ref a1), .val (.int (1 : Int32))] [])
  refine own_step (fun t k => XS.aloadN X3.here hx rfl (hb hby d1_21) rfl rfl k) ?_
  show own_Fin _ _ _ _ _ _ _ _ (mkF m 22 #[.val (.ref a1), .val (.int (1 : Int32))] [(.ref a1)])
  refine own_step (fun t k => XS.iloadN X3.here hx rfl (hb hby d1_22) rfl k) ?_
  show own_Fin _ _ _ _ _ _ _ _ (mkF m 23 #[.val (.ref a1), .val (.int (1 : Int32))] [(.int (1 : Int32)), (.ref a1)])
  refine own_step (fun t k => XT.dup2 X3.here hx rfl (hb hby d1_23) rfl rfl rfl k) ?_
  show own_Fin _ _ _ _ _ _ _ _ (mkF m 24 #[.val (.ref a1), .val (.int (1 : Int32))] [(.int (1 : Int32)), (.ref a1), (.int (1 : Int32)), (.ref a1)])
  refine own_laload X3 hx hZ e3 V_a1 (k := 1) rfl (by decide) (v := y1a) rfl (hb hby d1_24) rfl ?_
  show own_Fin _ _ _ _ _ _ _ _ (mkF m 25 #[.val (.ref a1), .val (.int (1 : Int32))] [(.long y1a), (.int (1 : Int32)), (.ref a1)])
  refine own_step (fun t k => X3.ldc2Long hx hown (mvT hZ (hw _ (List.mem_of_getElem? (i := 6) rfl))) (g := (mkF m 25 #[.val (.ref a1), .val (.int (1 : Int32))] [(.long y1a), (.int (1 : Int32)), (.ref a1)])) rfl (hb hby d1_25) _ k) ?_
  show own_Fin _ _ _ _ _ _ _ _ (mkF m 28 #[.val (.ref a1), .val (.int (1 : Int32))] [(.long (2251799813685247 : Int64)), (.long y1a), (.int (1 : Int32)), (.ref a1)])
  refine own_step (fun t k => XS.land X3.here hx rfl (hb hby d1_28) rfl k) ?_
  show own_Fin _ _ _ _ _ _ _ _ (mkF m 29 #[.val (.ref a1), .val (.int (1 : Int32))] [(.long (y1a &&& (2251799813685247 : Int64))), (.int (1 : Int32)), (.ref a1)])
  obtain ⟨T4, h4, X4, e4, W4, B4, st4⟩ := own_lastore X3 hx hZ e3 V_a1 (j := (1 : Int32)) (k := 1) rfl (by decide) (x := (y1a &&& (2251799813685247 : Int64))) (pc := 29) (Ls := #[.val (.ref a1), .val (.int (1 : Int32))]) (rest := []) (hb hby d1_29) rfl
  refine own_step st4 ?_
  replace Zs : n0 ≤ h4.size := by rw [W4.size]; exact Zs
  replace K := K.wr W4 (Or.inl (by simp))
  replace V_a1 := B4
  replace Nf := Fr.snoc X4 Nf g_a1
  show own_Fin _ _ _ _ _ _ _ _ (mkF m 30 #[.val (.ref a1), .val (.int (1 : Int32))] [])
  refine own_step (fun t k => XS.iinc X4.here hx rfl (hb hby d1_30) rfl (l' := #[.val (.ref a1), .val (.int (2 : Int32))]) rfl k) ?_
  show own_Fin _ _ _ _ _ _ _ _ (mkF m 33 #[.val (.ref a1), .val (.int (2 : Int32))] [])
  refine own_step (fun t k => XS.goto X4.here hx rfl (pc0 := 33) (pc' := 2) rfl (hb hby d1_33) (by decide) (by decide) k) ?_
  show own_Fin _ _ _ _ _ _ _ _ (mkF m 2 #[.val (.ref a1), .val (.int (2 : Int32))] [])
  refine own_step (fun t k => XS.iloadN X4.here hx rfl (hb hby d1_2) rfl k) ?_
  show own_Fin _ _ _ _ _ _ _ _ (mkF m 3 #[.val (.ref a1), .val (.int (2 : Int32))] [(.int (2 : Int32))])
  refine own_step (fun t k => XS.iconst X4.here hx rfl (hb hby d1_3) k) ?_
  show own_Fin _ _ _ _ _ _ _ _ (mkF m 4 #[.val (.ref a1), .val (.int (2 : Int32))] [(.int (4 : Int32)), (.int (2 : Int32))])
  refine own_step (fun t k => XS.icmpNo X4.here hx rfl (hb hby d1_4) rfl (by decide) k) ?_
  show own_Fin _ _ _ _ _ _ _ _ (mkF m 7 #[.val (.ref a1), .val (.int (2 : Int32))] [])
  refine own_step (fun t k => XS.aloadN X4.here hx rfl (hb hby d1_7) rfl rfl k) ?_
  show own_Fin _ _ _ _ _ _ _ _ (mkF m 8 #[.val (.ref a1), .val (.int (2 : Int32))] [(.ref a1)])
  refine own_step (fun t k => XS.iloadN X4.here hx rfl (hb hby d1_8) rfl k) ?_
  show own_Fin _ _ _ _ _ _ _ _ (mkF m 9 #[.val (.ref a1), .val (.int (2 : Int32))] [(.int (2 : Int32)), (.ref a1)])
  refine own_step (fun t k => XS.iconst X4.here hx rfl (hb hby d1_9) k) ?_
  show own_Fin _ _ _ _ _ _ _ _ (mkF m 10 #[.val (.ref a1), .val (.int (2 : Int32))] [(.int (1 : Int32)), (.int (2 : Int32)), (.ref a1)])
  refine own_step (fun t k => XS.iadd X4.here hx rfl (hb hby d1_10) rfl k) ?_
  show own_Fin _ _ _ _ _ _ _ _ (mkF m 11 #[.val (.ref a1), .val (.int (2 : Int32))] [(.int (3 : Int32)), (.ref a1)])
  refine own_step (fun t k => XT.dup2 X4.here hx rfl (hb hby d1_11) rfl rfl rfl k) ?_
  show own_Fin _ _ _ _ _ _ _ _ (mkF m 12 #[.val (.ref a1), .val (.int (2 : Int32))] [(.int (3 : Int32)), (.ref a1), (.int (3 : Int32)), (.ref a1)])
  refine own_laload X4 hx hZ e4 V_a1 (k := 3) rfl (by decide) (v := (f1 3)) rfl (hb hby d1_12) rfl ?_
  show own_Fin _ _ _ _ _ _ _ _ (mkF m 13 #[.val (.ref a1), .val (.int (2 : Int32))] [(.long (f1 3)), (.int (3 : Int32)), (.ref a1)])
  refine own_step (fun t k => XS.aloadN X4.here hx rfl (hb hby d1_13) rfl rfl k) ?_
  show own_Fin _ _ _ _ _ _ _ _ (mkF m 14 #[.val (.ref a1), .val (.int (2 : Int32))] [(.ref a1), (.long (f1 3)), (.int (3 : Int32)), (.ref a1)])
  refine own_step (fun t k => XS.iloadN X4.here hx rfl (hb hby d1_14) rfl k) ?_
  show own_Fin _ _ _ _ _ _ _ _ (mkF m 15 #[.val (.ref a1), .val (.int (2 : Int32))] [(.int (2 : Int32)), (.ref a1), (.long (f1 3)), (.int (3 : Int32)), (.ref a1)])
  refine own_laload X4 hx hZ e4 V_a1 (k := 2) rfl (by decide) (v := y2a) rfl (hb hby d1_15) rfl ?_
  show own_Fin _ _ _ _ _ _ _ _ (mkF m 16 #[.val (.ref a1), .val (.int (2 : Int32))] [(.long y2a), (.long (f1 3)), (.int (3 : Int32)), (.ref a1)])
  refine own_step (fun t k => XS.bipush X4.here hx rfl (hb hby d1_16) k) ?_
  show own_Fin _ _ _ _ _ _ _ _ (mkF m 18 #[.val (.ref a1), .val (.int (2 : Int32))] [(.int (51 : Int32)), (.long y2a), (.long (f1 3)), (.int (3 : Int32)), (.ref a1)])
  refine own_step (fun t k => XS.lushr X4.here hx rfl (hb hby d1_18) rfl k) ?_
  show own_Fin _ _ _ _ _ _ _ _ (mkF m 19 #[.val (.ref a1), .val (.int (2 : Int32))] [(.long ((y2a.toUInt64 >>> ((51 : Int32) &&& 0x3f).toInt64.toUInt64).toInt64)), (.long (f1 3)), (.int (3 : Int32)), (.ref a1)])
  refine own_step (fun t k => XS.ladd X4.here hx rfl (hb hby d1_19) rfl k) ?_
  show own_Fin _ _ _ _ _ _ _ _ (mkF m 20 #[.val (.ref a1), .val (.int (2 : Int32))] [(.long ((f1 3) + ((y2a.toUInt64 >>> ((51 : Int32) &&& 0x3f).toInt64.toUInt64).toInt64))), (.int (3 : Int32)), (.ref a1)])
  generalize hy3a : ((f1 3) + ((y2a.toUInt64 >>> ((51 : Int32) &&& 0x3f).toInt64.toUInt64).toInt64)) = y3a
  obtain ⟨T5, h5, X5, e5, W5, B5, st5⟩ := own_lastore X4 hx hZ e4 V_a1 (j := (3 : Int32)) (k := 3) rfl (by decide) (x := y3a) (pc := 20) (Ls := #[.val (.ref a1), .val (.int (2 : Int32))]) (rest := []) (hb hby d1_20) rfl
  refine own_step st5 ?_
  replace Zs : n0 ≤ h5.size := by rw [W5.size]; exact Zs
  replace K := K.wr W5 (Or.inl (by simp))
  replace V_a1 := B5
  replace Nf := Fr.snoc X5 Nf g_a1
  show own_Fin _ _ _ _ _ _ _ _ (mkF m 21 #[.val (.ref a1), .val (.int (2 : Int32))] [])
  refine own_step (fun t k => XS.aloadN X5.here hx rfl (hb hby d1_21) rfl rfl k) ?_
  show own_Fin _ _ _ _ _ _ _ _ (mkF m 22 #[.val (.ref a1), .val (.int (2 : Int32))] [(.ref a1)])
  refine own_step (fun t k => XS.iloadN X5.here hx rfl (hb hby d1_22) rfl k) ?_
  show own_Fin _ _ _ _ _ _ _ _ (mkF m 23 #[.val (.ref a1), .val (.int (2 : Int32))] [(.int (2 : Int32)), (.ref a1)])
  refine own_step (fun t k => XT.dup2 X5.here hx rfl (hb hby d1_23) rfl rfl rfl k) ?_
  show own_Fin _ _ _ _ _ _ _ _ (mkF m 24 #[.val (.ref a1), .val (.int (2 : Int32))] [(.int (2 : Int32)), (.ref a1), (.int (2 : Int32)), (.ref a1)])
  refine own_laload X5 hx hZ e5 V_a1 (k := 2) rfl (by decide) (v := y2a) rfl (hb hby d1_24) rfl ?_
  show own_Fin _ _ _ _ _ _ _ _ (mkF m 25 #[.val (.ref a1), .val (.int (2 : Int32))] [(.long y2a), (.int (2 : Int32)), (.ref a1)])
  refine own_step (fun t k => X5.ldc2Long hx hown (mvT hZ (hw _ (List.mem_of_getElem? (i := 6) rfl))) (g := (mkF m 25 #[.val (.ref a1), .val (.int (2 : Int32))] [(.long y2a), (.int (2 : Int32)), (.ref a1)])) rfl (hb hby d1_25) _ k) ?_
  show own_Fin _ _ _ _ _ _ _ _ (mkF m 28 #[.val (.ref a1), .val (.int (2 : Int32))] [(.long (2251799813685247 : Int64)), (.long y2a), (.int (2 : Int32)), (.ref a1)])
  refine own_step (fun t k => XS.land X5.here hx rfl (hb hby d1_28) rfl k) ?_
  show own_Fin _ _ _ _ _ _ _ _ (mkF m 29 #[.val (.ref a1), .val (.int (2 : Int32))] [(.long (y2a &&& (2251799813685247 : Int64))), (.int (2 : Int32)), (.ref a1)])
  obtain ⟨T6, h6, X6, e6, W6, B6, st6⟩ := own_lastore X5 hx hZ e5 V_a1 (j := (2 : Int32)) (k := 2) rfl (by decide) (x := (y2a &&& (2251799813685247 : Int64))) (pc := 29) (Ls := #[.val (.ref a1), .val (.int (2 : Int32))]) (rest := []) (hb hby d1_29) rfl
  refine own_step st6 ?_
  replace Zs : n0 ≤ h6.size := by rw [W6.size]; exact Zs
  replace K := K.wr W6 (Or.inl (by simp))
  replace V_a1 := B6
  replace Nf := Fr.snoc X6 Nf g_a1
  show own_Fin _ _ _ _ _ _ _ _ (mkF m 30 #[.val (.ref a1), .val (.int (2 : Int32))] [])
  refine own_step (fun t k => XS.iinc X6.here hx rfl (hb hby d1_30) rfl (l' := #[.val (.ref a1), .val (.int (3 : Int32))]) rfl k) ?_
  show own_Fin _ _ _ _ _ _ _ _ (mkF m 33 #[.val (.ref a1), .val (.int (3 : Int32))] [])
  refine own_step (fun t k => XS.goto X6.here hx rfl (pc0 := 33) (pc' := 2) rfl (hb hby d1_33) (by decide) (by decide) k) ?_
  show own_Fin _ _ _ _ _ _ _ _ (mkF m 2 #[.val (.ref a1), .val (.int (3 : Int32))] [])
  refine own_step (fun t k => XS.iloadN X6.here hx rfl (hb hby d1_2) rfl k) ?_
  show own_Fin _ _ _ _ _ _ _ _ (mkF m 3 #[.val (.ref a1), .val (.int (3 : Int32))] [(.int (3 : Int32))])
  refine own_step (fun t k => XS.iconst X6.here hx rfl (hb hby d1_3) k) ?_
  show own_Fin _ _ _ _ _ _ _ _ (mkF m 4 #[.val (.ref a1), .val (.int (3 : Int32))] [(.int (4 : Int32)), (.int (3 : Int32))])
  refine own_step (fun t k => XS.icmpNo X6.here hx rfl (hb hby d1_4) rfl (by decide) k) ?_
  show own_Fin _ _ _ _ _ _ _ _ (mkF m 7 #[.val (.ref a1), .val (.int (3 : Int32))] [])
  refine own_step (fun t k => XS.aloadN X6.here hx rfl (hb hby d1_7) rfl rfl k) ?_
  show own_Fin _ _ _ _ _ _ _ _ (mkF m 8 #[.val (.ref a1), .val (.int (3 : Int32))] [(.ref a1)])
  refine own_step (fun t k => XS.iloadN X6.here hx rfl (hb hby d1_8) rfl k) ?_
  show own_Fin _ _ _ _ _ _ _ _ (mkF m 9 #[.val (.ref a1), .val (.int (3 : Int32))] [(.int (3 : Int32)), (.ref a1)])
  refine own_step (fun t k => XS.iconst X6.here hx rfl (hb hby d1_9) k) ?_
  show own_Fin _ _ _ _ _ _ _ _ (mkF m 10 #[.val (.ref a1), .val (.int (3 : Int32))] [(.int (1 : Int32)), (.int (3 : Int32)), (.ref a1)])
  refine own_step (fun t k => XS.iadd X6.here hx rfl (hb hby d1_10) rfl k) ?_
  show own_Fin _ _ _ _ _ _ _ _ (mkF m 11 #[.val (.ref a1), .val (.int (3 : Int32))] [(.int (4 : Int32)), (.ref a1)])
  refine own_step (fun t k => XT.dup2 X6.here hx rfl (hb hby d1_11) rfl rfl rfl k) ?_
  show own_Fin _ _ _ _ _ _ _ _ (mkF m 12 #[.val (.ref a1), .val (.int (3 : Int32))] [(.int (4 : Int32)), (.ref a1), (.int (4 : Int32)), (.ref a1)])
  refine own_laload X6 hx hZ e6 V_a1 (k := 4) rfl (by decide) (v := (f1 4)) rfl (hb hby d1_12) rfl ?_
  show own_Fin _ _ _ _ _ _ _ _ (mkF m 13 #[.val (.ref a1), .val (.int (3 : Int32))] [(.long (f1 4)), (.int (4 : Int32)), (.ref a1)])
  refine own_step (fun t k => XS.aloadN X6.here hx rfl (hb hby d1_13) rfl rfl k) ?_
  show own_Fin _ _ _ _ _ _ _ _ (mkF m 14 #[.val (.ref a1), .val (.int (3 : Int32))] [(.ref a1), (.long (f1 4)), (.int (4 : Int32)), (.ref a1)])
  refine own_step (fun t k => XS.iloadN X6.here hx rfl (hb hby d1_14) rfl k) ?_
  show own_Fin _ _ _ _ _ _ _ _ (mkF m 15 #[.val (.ref a1), .val (.int (3 : Int32))] [(.int (3 : Int32)), (.ref a1), (.long (f1 4)), (.int (4 : Int32)), (.ref a1)])
  refine own_laload X6 hx hZ e6 V_a1 (k := 3) rfl (by decide) (v := y3a) rfl (hb hby d1_15) rfl ?_
  show own_Fin _ _ _ _ _ _ _ _ (mkF m 16 #[.val (.ref a1), .val (.int (3 : Int32))] [(.long y3a), (.long (f1 4)), (.int (4 : Int32)), (.ref a1)])
  refine own_step (fun t k => XS.bipush X6.here hx rfl (hb hby d1_16) k) ?_
  show own_Fin _ _ _ _ _ _ _ _ (mkF m 18 #[.val (.ref a1), .val (.int (3 : Int32))] [(.int (51 : Int32)), (.long y3a), (.long (f1 4)), (.int (4 : Int32)), (.ref a1)])
  refine own_step (fun t k => XS.lushr X6.here hx rfl (hb hby d1_18) rfl k) ?_
  show own_Fin _ _ _ _ _ _ _ _ (mkF m 19 #[.val (.ref a1), .val (.int (3 : Int32))] [(.long ((y3a.toUInt64 >>> ((51 : Int32) &&& 0x3f).toInt64.toUInt64).toInt64)), (.long (f1 4)), (.int (4 : Int32)), (.ref a1)])
  refine own_step (fun t k => XS.ladd X6.here hx rfl (hb hby d1_19) rfl k) ?_
  show own_Fin _ _ _ _ _ _ _ _ (mkF m 20 #[.val (.ref a1), .val (.int (3 : Int32))] [(.long ((f1 4) + ((y3a.toUInt64 >>> ((51 : Int32) &&& 0x3f).toInt64.toUInt64).toInt64))), (.int (4 : Int32)), (.ref a1)])
  generalize hy4a : ((f1 4) + ((y3a.toUInt64 >>> ((51 : Int32) &&& 0x3f).toInt64.toUInt64).toInt64)) = y4a
  obtain ⟨T7, h7, X7, e7, W7, B7, st7⟩ := own_lastore X6 hx hZ e6 V_a1 (j := (4 : Int32)) (k := 4) rfl (by decide) (x := y4a) (pc := 20) (Ls := #[.val (.ref a1), .val (.int (3 : Int32))]) (rest := []) (hb hby d1_20) rfl
  refine own_step st7 ?_
  replace Zs : n0 ≤ h7.size := by rw [W7.size]; exact Zs
  replace K := K.wr W7 (Or.inl (by simp))
  replace V_a1 := B7
  replace Nf := Fr.snoc X7 Nf g_a1
  show own_Fin _ _ _ _ _ _ _ _ (mkF m 21 #[.val (.ref a1), .val (.int (3 : Int32))] [])
  refine own_step (fun t k => XS.aloadN X7.here hx rfl (hb hby d1_21) rfl rfl k) ?_
  show own_Fin _ _ _ _ _ _ _ _ (mkF m 22 #[.val (.ref a1), .val (.int (3 : Int32))] [(.ref a1)])
  refine own_step (fun t k => XS.iloadN X7.here hx rfl (hb hby d1_22) rfl k) ?_
  show own_Fin _ _ _ _ _ _ _ _ (mkF m 23 #[.val (.ref a1), .val (.int (3 : Int32))] [(.int (3 : Int32)), (.ref a1)])
  refine own_step (fun t k => XT.dup2 X7.here hx rfl (hb hby d1_23) rfl rfl rfl k) ?_
  show own_Fin _ _ _ _ _ _ _ _ (mkF m 24 #[.val (.ref a1), .val (.int (3 : Int32))] [(.int (3 : Int32)), (.ref a1), (.int (3 : Int32)), (.ref a1)])
  refine own_laload X7 hx hZ e7 V_a1 (k := 3) rfl (by decide) (v := y3a) rfl (hb hby d1_24) rfl ?_
  show own_Fin _ _ _ _ _ _ _ _ (mkF m 25 #[.val (.ref a1), .val (.int (3 : Int32))] [(.long y3a), (.int (3 : Int32)), (.ref a1)])
  refine own_step (fun t k => X7.ldc2Long hx hown (mvT hZ (hw _ (List.mem_of_getElem? (i := 6) rfl))) (g := (mkF m 25 #[.val (.ref a1), .val (.int (3 : Int32))] [(.long y3a), (.int (3 : Int32)), (.ref a1)])) rfl (hb hby d1_25) _ k) ?_
  show own_Fin _ _ _ _ _ _ _ _ (mkF m 28 #[.val (.ref a1), .val (.int (3 : Int32))] [(.long (2251799813685247 : Int64)), (.long y3a), (.int (3 : Int32)), (.ref a1)])
  refine own_step (fun t k => XS.land X7.here hx rfl (hb hby d1_28) rfl k) ?_
  show own_Fin _ _ _ _ _ _ _ _ (mkF m 29 #[.val (.ref a1), .val (.int (3 : Int32))] [(.long (y3a &&& (2251799813685247 : Int64))), (.int (3 : Int32)), (.ref a1)])
  obtain ⟨T8, h8, X8, e8, W8, B8, st8⟩ := own_lastore X7 hx hZ e7 V_a1 (j := (3 : Int32)) (k := 3) rfl (by decide) (x := (y3a &&& (2251799813685247 : Int64))) (pc := 29) (Ls := #[.val (.ref a1), .val (.int (3 : Int32))]) (rest := []) (hb hby d1_29) rfl
  refine own_step st8 ?_
  replace Zs : n0 ≤ h8.size := by rw [W8.size]; exact Zs
  replace K := K.wr W8 (Or.inl (by simp))
  replace V_a1 := B8
  replace Nf := Fr.snoc X8 Nf g_a1
  show own_Fin _ _ _ _ _ _ _ _ (mkF m 30 #[.val (.ref a1), .val (.int (3 : Int32))] [])
  refine own_step (fun t k => XS.iinc X8.here hx rfl (hb hby d1_30) rfl (l' := #[.val (.ref a1), .val (.int (4 : Int32))]) rfl k) ?_
  show own_Fin _ _ _ _ _ _ _ _ (mkF m 33 #[.val (.ref a1), .val (.int (4 : Int32))] [])
  refine own_step (fun t k => XS.goto X8.here hx rfl (pc0 := 33) (pc' := 2) rfl (hb hby d1_33) (by decide) (by decide) k) ?_
  show own_Fin _ _ _ _ _ _ _ _ (mkF m 2 #[.val (.ref a1), .val (.int (4 : Int32))] [])
  refine own_step (fun t k => XS.iloadN X8.here hx rfl (hb hby d1_2) rfl k) ?_
  show own_Fin _ _ _ _ _ _ _ _ (mkF m 3 #[.val (.ref a1), .val (.int (4 : Int32))] [(.int (4 : Int32))])
  refine own_step (fun t k => XS.iconst X8.here hx rfl (hb hby d1_3) k) ?_
  show own_Fin _ _ _ _ _ _ _ _ (mkF m 4 #[.val (.ref a1), .val (.int (4 : Int32))] [(.int (4 : Int32)), (.int (4 : Int32))])
  refine own_step (fun t k => XS.icmpYes X8.here hx rfl (pc0 := 4) (pc' := 36) rfl (hb hby d1_4) rfl (by decide) (by decide) (by decide) k) ?_
  show own_Fin _ _ _ _ _ _ _ _ (mkF m 36 #[.val (.ref a1), .val (.int (4 : Int32))] [])
  refine own_step (fun t k => XS.aloadN X8.here hx rfl (hb hby d1_36) rfl rfl k) ?_
  show own_Fin _ _ _ _ _ _ _ _ (mkF m 37 #[.val (.ref a1), .val (.int (4 : Int32))] [(.ref a1)])
  refine own_step (fun t k => XS.iconst X8.here hx rfl (hb hby d1_37) k) ?_
  show own_Fin _ _ _ _ _ _ _ _ (mkF m 38 #[.val (.ref a1), .val (.int (4 : Int32))] [(.int (0 : Int32)), (.ref a1)])
  refine own_step (fun t k => XT.dup2 X8.here hx rfl (hb hby d1_38) rfl rfl rfl k) ?_
  show own_Fin _ _ _ _ _ _ _ _ (mkF m 39 #[.val (.ref a1), .val (.int (4 : Int32))] [(.int (0 : Int32)), (.ref a1), (.int (0 : Int32)), (.ref a1)])
  refine own_laload X8 hx hZ e8 V_a1 (k := 0) rfl (by decide) (v := ((f1 0) &&& (2251799813685247 : Int64))) rfl (hb hby d1_39) rfl ?_
  show own_Fin _ _ _ _ _ _ _ _ (mkF m 40 #[.val (.ref a1), .val (.int (4 : Int32))] [(.long ((f1 0) &&& (2251799813685247 : Int64))), (.int (0 : Int32)), (.ref a1)])
  refine own_step (fun t k => X8.ldc2Long hx hown (mvT hZ (hw _ (List.mem_of_getElem? (i := 7) rfl))) (g := (mkF m 40 #[.val (.ref a1), .val (.int (4 : Int32))] [(.long ((f1 0) &&& (2251799813685247 : Int64))), (.int (0 : Int32)), (.ref a1)])) rfl (hb hby d1_40) _ k) ?_
  show own_Fin _ _ _ _ _ _ _ _ (mkF m 43 #[.val (.ref a1), .val (.int (4 : Int32))] [(.long (19 : Int64)), (.long ((f1 0) &&& (2251799813685247 : Int64))), (.int (0 : Int32)), (.ref a1)])
  refine own_step (fun t k => XS.aloadN X8.here hx rfl (hb hby d1_43) rfl rfl k) ?_
  show own_Fin _ _ _ _ _ _ _ _ (mkF m 44 #[.val (.ref a1), .val (.int (4 : Int32))] [(.ref a1), (.long (19 : Int64)), (.long ((f1 0) &&& (2251799813685247 : Int64))), (.int (0 : Int32)), (.ref a1)])
  refine own_step (fun t k => XS.iconst X8.here hx rfl (hb hby d1_44) k) ?_
  show own_Fin _ _ _ _ _ _ _ _ (mkF m 45 #[.val (.ref a1), .val (.int (4 : Int32))] [(.int (4 : Int32)), (.ref a1), (.long (19 : Int64)), (.long ((f1 0) &&& (2251799813685247 : Int64))), (.int (0 : Int32)), (.ref a1)])
  refine own_laload X8 hx hZ e8 V_a1 (k := 4) rfl (by decide) (v := y4a) rfl (hb hby d1_45) rfl ?_
  show own_Fin _ _ _ _ _ _ _ _ (mkF m 46 #[.val (.ref a1), .val (.int (4 : Int32))] [(.long y4a), (.long (19 : Int64)), (.long ((f1 0) &&& (2251799813685247 : Int64))), (.int (0 : Int32)), (.ref a1)])
  refine own_step (fun t k => XS.bipush X8.here hx rfl (hb hby d1_46) k) ?_
  show own_Fin _ _ _ _ _ _ _ _ (mkF m 48 #[.val (.ref a1), .val (.int (4 : Int32))] [(.int (51 : Int32)), (.long y4a), (.long (19 : Int64)), (.long ((f1 0) &&& (2251799813685247 : Int64))), (.int (0 : Int32)), (.ref a1)])
  refine own_step (fun t k => XS.lushr X8.here hx rfl (hb hby d1_48) rfl k) ?_
  show own_Fin _ _ _ _ _ _ _ _ (mkF m 49 #[.val (.ref a1), .val (.int (4 : Int32))] [(.long ((y4a.toUInt64 >>> ((51 : Int32) &&& 0x3f).toInt64.toUInt64).toInt64)), (.long (19 : Int64)), (.long ((f1 0) &&& (2251799813685247 : Int64))), (.int (0 : Int32)), (.ref a1)])
  refine own_step (fun t k => XS.lmul X8.here hx rfl (hb hby d1_49) rfl k) ?_
  show own_Fin _ _ _ _ _ _ _ _ (mkF m 50 #[.val (.ref a1), .val (.int (4 : Int32))] [(.long ((19 : Int64) * ((y4a.toUInt64 >>> ((51 : Int32) &&& 0x3f).toInt64.toUInt64).toInt64))), (.long ((f1 0) &&& (2251799813685247 : Int64))), (.int (0 : Int32)), (.ref a1)])
  refine own_step (fun t k => XS.ladd X8.here hx rfl (hb hby d1_50) rfl k) ?_
  show own_Fin _ _ _ _ _ _ _ _ (mkF m 51 #[.val (.ref a1), .val (.int (4 : Int32))] [(.long (((f1 0) &&& (2251799813685247 : Int64)) + ((19 : Int64) * ((y4a.toUInt64 >>> ((51 : Int32) &&& 0x3f).toInt64.toUInt64).toInt64)))), (.int (0 : Int32)), (.ref a1)])
  obtain ⟨T9, h9, X9, e9, W9, B9, st9⟩ := own_lastore X8 hx hZ e8 V_a1 (j := (0 : Int32)) (k := 0) rfl (by decide) (x := (((f1 0) &&& (2251799813685247 : Int64)) + ((19 : Int64) * ((y4a.toUInt64 >>> ((51 : Int32) &&& 0x3f).toInt64.toUInt64).toInt64)))) (pc := 51) (Ls := #[.val (.ref a1), .val (.int (4 : Int32))]) (rest := []) (hb hby d1_51) rfl
  refine own_step st9 ?_
  replace Zs : n0 ≤ h9.size := by rw [W9.size]; exact Zs
  replace K := K.wr W9 (Or.inl (by simp))
  replace V_a1 := B9
  replace Nf := Fr.snoc X9 Nf g_a1
  show own_Fin _ _ _ _ _ _ _ _ (mkF m 52 #[.val (.ref a1), .val (.int (4 : Int32))] [])
  refine own_step (fun t k => XS.aloadN X9.here hx rfl (hb hby d1_52) rfl rfl k) ?_
  show own_Fin _ _ _ _ _ _ _ _ (mkF m 53 #[.val (.ref a1), .val (.int (4 : Int32))] [(.ref a1)])
  refine own_step (fun t k => XS.iconst X9.here hx rfl (hb hby d1_53) k) ?_
  show own_Fin _ _ _ _ _ _ _ _ (mkF m 54 #[.val (.ref a1), .val (.int (4 : Int32))] [(.int (4 : Int32)), (.ref a1)])
  refine own_step (fun t k => XT.dup2 X9.here hx rfl (hb hby d1_54) rfl rfl rfl k) ?_
  show own_Fin _ _ _ _ _ _ _ _ (mkF m 55 #[.val (.ref a1), .val (.int (4 : Int32))] [(.int (4 : Int32)), (.ref a1), (.int (4 : Int32)), (.ref a1)])
  refine own_laload X9 hx hZ e9 V_a1 (k := 4) rfl (by decide) (v := y4a) rfl (hb hby d1_55) rfl ?_
  show own_Fin _ _ _ _ _ _ _ _ (mkF m 56 #[.val (.ref a1), .val (.int (4 : Int32))] [(.long y4a), (.int (4 : Int32)), (.ref a1)])
  refine own_step (fun t k => X9.ldc2Long hx hown (mvT hZ (hw _ (List.mem_of_getElem? (i := 6) rfl))) (g := (mkF m 56 #[.val (.ref a1), .val (.int (4 : Int32))] [(.long y4a), (.int (4 : Int32)), (.ref a1)])) rfl (hb hby d1_56) _ k) ?_
  show own_Fin _ _ _ _ _ _ _ _ (mkF m 59 #[.val (.ref a1), .val (.int (4 : Int32))] [(.long (2251799813685247 : Int64)), (.long y4a), (.int (4 : Int32)), (.ref a1)])
  refine own_step (fun t k => XS.land X9.here hx rfl (hb hby d1_59) rfl k) ?_
  show own_Fin _ _ _ _ _ _ _ _ (mkF m 60 #[.val (.ref a1), .val (.int (4 : Int32))] [(.long (y4a &&& (2251799813685247 : Int64))), (.int (4 : Int32)), (.ref a1)])
  obtain ⟨T10, h10, X10, e10, W10, B10, st10⟩ := own_lastore X9 hx hZ e9 V_a1 (j := (4 : Int32)) (k := 4) rfl (by decide) (x := (y4a &&& (2251799813685247 : Int64))) (pc := 60) (Ls := #[.val (.ref a1), .val (.int (4 : Int32))]) (rest := []) (hb hby d1_60) rfl
  refine own_step st10 ?_
  replace Zs : n0 ≤ h10.size := by rw [W10.size]; exact Zs
  replace K := K.wr W10 (Or.inl (by simp))
  replace V_a1 := B10
  replace Nf := Fr.snoc X10 Nf g_a1
  show own_Fin _ _ _ _ _ _ _ _ (mkF m 61 #[.val (.ref a1), .val (.int (4 : Int32))] [])
  refine own_retV X10 hx hlk Bd.returns (hb hby d1_61) (by decide) (by decide) e10 ?_
  have b0 := rng64 (f1 0)
  have b1 := rng64 (f1 1)
  have b2 := rng64 (f1 2)
  have b3 := rng64 (f1 3)
  have b4 := rng64 (f1 4)
  obtain ⟨u1, hu1⟩ : ∃ u, u = (f1 1).toInt + (f1 0).toInt / 2251799813685248 := ⟨_, rfl⟩
  obtain ⟨u2, hu2⟩ : ∃ u, u = (f1 2).toInt + u1 / 2251799813685248 := ⟨_, rfl⟩
  obtain ⟨u3, hu3⟩ : ∃ u, u = (f1 3).toInt + u2 / 2251799813685248 := ⟨_, rfl⟩
  obtain ⟨u4, hu4⟩ : ∃ u, u = (f1 4).toInt + u3 / 2251799813685248 := ⟨_, rfl⟩
  have w1 := own_c0 (f1 1) (f1 0) y1a (f1 0).toInt hn1 hn0 (by omega) (by omega) hy1a
  rw [← hu1] at w1
  have w2 := own_c0 (f1 2) y1a y2a u1 hn2 (by omega) (by omega) w1 hy2a
  rw [← hu2] at w2
  have w3 := own_c0 (f1 3) y2a y3a u2 hn3 (by omega) (by omega) w2 hy3a
  rw [← hu3] at w3
  have w4 := own_c0 (f1 4) y3a y4a u3 hn4 (by omega) (by omega) w3 hy4a
  rw [← hu4] at w4
  exact ⟨rfl, Nf, K, _, ⟨u1, u2, u3, u4, hu1, hu2, hu3, hu4, own_last _ y4a u4 _ (own_m (f1 0) _ (by omega)) (by omega) (by omega) (by omega) (by omega) w4, own_m y1a u1 w1, own_m y2a u2 w2, own_m y3a u3 w3, own_m y4a u4 w4⟩, V_a1⟩
theorem own_pd_0 : parseMethodDescriptor "([J)V" = some ⟨[(.array .long)], none⟩ := by decide +kernel
theorem own_pn_0 : plainName "com/example/quietwire/quietwire/Field25519CarryPinLaw" = true := by first | (simp [plainName, overriddenIn]; done) | decide +kernel
theorem own_ef_0 (m : MethodId) (q1 : Int64) (q2 : Int64) (q3 : Int64) (q4 : Int64) (q5 : Int64) : entryFrame m #[(.long q1), (.long q2), (.long q3), (.long q4), (.long q5)] maxLocals = mkF m 0 #[.val (.long q1), .second, .val (.long q2), .second, .val (.long q3), .second, .val (.long q4), .second, .val (.long q5), .second, .unset, .unset, .unset, .unset, .unset, .unset, .unset, .unset, .unset, .unset, .unset, .unset, .unset, .unset, .unset, .unset, .unset, .unset, .unset, .unset, .unset, .unset, .unset, .unset, .unset, .unset, .unset, .unset, .unset, .unset, .unset, .unset, .unset, .unset, .unset, .unset, .unset, .unset, .unset, .unset, .unset, .unset, .unset] [] := by first | (simp [entryFrame, mkF, argsToLocals, Value.category, maxLocals]; done) | rfl
def own_Q0 (Z : State) (q1 : Int64) (q2 : Int64) (q3 : Int64) (q4 : Int64) (q5 : Int64) (h0 : Heap) (n0 : Nat) (v : Option Value) (h : Heap) (L : List Loc) : Prop := v = some (.int 1) ∧ Fr n0 L
set_option maxRecDepth 65536 in
set_option maxHeartbeats 40000000 in
theorem rm0 (l : Launch) (Z : State) (a0 : Array Value) (hw : ∀ d ∈ tables_1, d.before a0 Z = true) (ws : List Jvm.Cond) (q1 : Int64) (q2 : Int64) (q3 : Int64) (q4 : Int64) (q5 : Int64) (h0 : Heap) (n0 : Nat) (Z0 : n0 ≤ h0.size) :
    MetFree l x (head1 (Jvm.Cond.code x code maxLocals ret :: ws) room_1) (fun a U => a = #[(.long q1), (.long q2), (.long q3), (.long q4), (.long q5)] ∧ Z.Warmed39 U.vm ∧ U.heap = h0) (fun _ _ _ _ _ => True) (fun _ U o U' => ∃ v L, o = .returned v ∧ own_Q0 Z q1 q2 q3 q4 q5 h0 n0 v U'.heap L ∧ FrameEnd U o U' L 16 128) := by
  refine MetFree.of_bodySF (plainFor_of_name own_pn_0) hisR ?_
  intro p e s m args below meth c s₁ Bd hml0 hP hK
  obtain ⟨rfl, hZ, hh⟩ := hP
  have hx := Bd.exec
  have hby := Bd.bytes
  have hlk := BodyLoose.notSynchronized Bd
  have hml : c.maxLocals = 53 := hml0
  have hown : s.vm.findClass "com/example/quietwire/quietwire/Field25519CarryPinLaw" = some m.cls := (findClass_of_methodNamed Bd.named : s.vm.findClass x.cls = some m.cls)
  have hnm := (name_of_methodNamed Bd.named Bd.method).1
  have X0 : Stand p l e room_1 s m #[(.long q1), (.long q2), (.long q3), (.long q4), (.long q5)] below meth c s₁ [] 0 0 := Stand.of_body Bd
  have e0 : s₁.heap = h0 := by rw [← hh, Bd.state]; rfl
  have Nf := Fr.nil n0
  have Zs := Z0
  show own_Fin p e below s (own_Q0 Z q1 q2 q3 q4 q5 h0 n0) 16 128 s₁ (entryFrame m #[(.long q1), (.long q2), (.long q3), (.long q4), (.long q5)] maxLocals)
  rw [own_ef_0 m q1 q2 q3 q4 q5]
  show own_Fin _ _ _ _ _ _ _ _ (mkF m 0 #[.val (.long q1), .second, .val (.long q2), .second, .val (.long q3), .second, .val (.long q4), .second, .val (.long q5), .second, .unset, .unset, .unset, .unset, .unset, .unset, .unset, .unset, .unset, .unset, .unset, .unset, .unset, .unset, .unset, .unset, .unset, .unset, .unset, .unset, .unset, .unset, .unset, .unset, .unset, .unset, .unset, .unset, .unset, .unset, .unset, .unset, .unset, .unset, .unset, .unset, .unset, .unset, .unset, .unset, .unset, .unset, .unset] [])
  obtain ⟨Ls1, hLs1⟩ : ∃ z : Array Slot, z = #[.val (.long q1), .second, .val (.long q2), .second, .val (.long q3), .second, .val (.long q4), .second, .val (.long q5), .second, .unset, .unset, .unset, .unset, .unset, .unset, .unset, .unset, .unset, .unset, .unset, .unset, .unset, .unset, .unset, .unset, .unset, .unset, .unset, .unset, .unset, .unset, .unset, .unset, .unset, .unset, .unset, .unset, .unset, .unset, .unset, .unset, .unset, .unset, .unset, .unset, .unset, .unset, .unset, .unset, .unset, .unset, .unset] := ⟨_, rfl⟩
  rw [← hLs1]
  refine own_step (fun t k => XS.lloadN (v := q1) X0.here hx rfl (hb hby at_0) (by rw [hLs1]; rfl) k) ?_
  show own_Fin _ _ _ _ _ _ _ _ (mkF m 1 Ls1 [(.long q1)])
  refine own_step (fun t k => X0.ldc2Long hx hown (mvT hZ (hw _ (List.mem_of_getElem? (i := 0) rfl))) (g := (mkF m 1 Ls1 [(.long q1)])) rfl (hb hby at_1) _ k) ?_
  show own_Fin _ _ _ _ _ _ _ _ (mkF m 4 Ls1 [(.long (9223372036854775807 : Int64)), (.long q1)])
  refine own_step (fun t k => XS.land X0.here hx rfl (hb hby at_4) rfl k) ?_
  show own_Fin _ _ _ _ _ _ _ _ (mkF m 5 Ls1 [(.long (q1 &&& (9223372036854775807 : Int64)))])
  generalize hx0 : (q1 &&& (9223372036854775807 : Int64)) = x0
  obtain ⟨Ls2, hLs2⟩ : ∃ z : Array Slot, z = #[.val (.long q1), .second, .val (.long q2), .second, .val (.long q3), .second, .val (.long q4), .second, .val (.long q5), .second, .val (.long x0), .second, .unset, .unset, .unset, .unset, .unset, .unset, .unset, .unset, .unset, .unset, .unset, .unset, .unset, .unset, .unset, .unset, .unset, .unset, .unset, .unset, .unset, .unset, .unset, .unset, .unset, .unset, .unset, .unset, .unset, .unset, .unset, .unset, .unset, .unset, .unset, .unset, .unset, .unset, .unset, .unset, .unset] := ⟨_, rfl⟩
  refine own_step (fun t k => XS.lstore X0.here hx rfl (hb hby at_5) rfl (l' := Ls2) (by rw [hLs1, hLs2]; rfl) k) ?_
  show own_Fin _ _ _ _ _ _ _ _ (mkF m 7 Ls2 [])
  refine own_step (fun t k => XS.lloadN (v := q2) X0.here hx rfl (hb hby at_7) (by rw [hLs2]; rfl) k) ?_
  show own_Fin _ _ _ _ _ _ _ _ (mkF m 8 Ls2 [(.long q2)])
  refine own_step (fun t k => X0.ldc2Long hx hown (mvT hZ (hw _ (List.mem_of_getElem? (i := 0) rfl))) (g := (mkF m 8 Ls2 [(.long q2)])) rfl (hb hby at_8) _ k) ?_
  show own_Fin _ _ _ _ _ _ _ _ (mkF m 11 Ls2 [(.long (9223372036854775807 : Int64)), (.long q2)])
  refine own_step (fun t k => XS.land X0.here hx rfl (hb hby at_11) rfl k) ?_
  show own_Fin _ _ _ _ _ _ _ _ (mkF m 12 Ls2 [(.long (q2 &&& (9223372036854775807 : Int64)))])
  generalize hx1 : (q2 &&& (9223372036854775807 : Int64)) = x1
  obtain ⟨Ls3, hLs3⟩ : ∃ z : Array Slot, z = #[.val (.long q1), .second, .val (.long q2), .second, .val (.long q3), .second, .val (.long q4), .second, .val (.long q5), .second, .val (.long x0), .second, .val (.long x1), .second, .unset, .unset, .unset, .unset, .unset, .unset, .unset, .unset, .unset, .unset, .unset, .unset, .unset, .unset, .unset, .unset, .unset, .unset, .unset, .unset, .unset, .unset, .unset, .unset, .unset, .unset, .unset, .unset, .unset, .unset, .unset, .unset, .unset, .unset, .unset, .unset, .unset, .unset, .unset] := ⟨_, rfl⟩
  refine own_step (fun t k => XS.lstore X0.here hx rfl (hb hby at_12) rfl (l' := Ls3) (by rw [hLs2, hLs3]; rfl) k) ?_
  show own_Fin _ _ _ _ _ _ _ _ (mkF m 14 Ls3 [])
  refine own_step (fun t k => XS.lload (v := q3) X0.here hx rfl (hb hby at_14) (by rw [hLs3]; rfl) k) ?_
  show own_Fin _ _ _ _ _ _ _ _ (mkF m 16 Ls3 [(.long q3)])
  refine own_step (fun t k => X0.ldc2Long hx hown (mvT hZ (hw _ (List.mem_of_getElem? (i := 0) rfl))) (g := (mkF m 16 Ls3 [(.long q3)])) rfl (hb hby at_16) _ k) ?_
  show own_Fin _ _ _ _ _ _ _ _ (mkF m 19 Ls3 [(.long (9223372036854775807 : Int64)), (.long q3)])
  refine own_step (fun t k => XS.land X0.here hx rfl (hb hby at_19) rfl k) ?_
  show own_Fin _ _ _ _ _ _ _ _ (mkF m 20 Ls3 [(.long (q3 &&& (9223372036854775807 : Int64)))])
  generalize hx2 : (q3 &&& (9223372036854775807 : Int64)) = x2
  obtain ⟨Ls4, hLs4⟩ : ∃ z : Array Slot, z = #[.val (.long q1), .second, .val (.long q2), .second, .val (.long q3), .second, .val (.long q4), .second, .val (.long q5), .second, .val (.long x0), .second, .val (.long x1), .second, .val (.long x2), .second, .unset, .unset, .unset, .unset, .unset, .unset, .unset, .unset, .unset, .unset, .unset, .unset, .unset, .unset, .unset, .unset, .unset, .unset, .unset, .unset, .unset, .unset, .unset, .unset, .unset, .unset, .unset, .unset, .unset, .unset, .unset, .unset, .unset, .unset, .unset, .unset, .unset] := ⟨_, rfl⟩
  refine own_step (fun t k => XS.lstore X0.here hx rfl (hb hby at_20) rfl (l' := Ls4) (by rw [hLs3, hLs4]; rfl) k) ?_
  show own_Fin _ _ _ _ _ _ _ _ (mkF m 22 Ls4 [])
  refine own_step (fun t k => XS.lload (v := q4) X0.here hx rfl (hb hby at_22) (by rw [hLs4]; rfl) k) ?_
  show own_Fin _ _ _ _ _ _ _ _ (mkF m 24 Ls4 [(.long q4)])
  refine own_step (fun t k => X0.ldc2Long hx hown (mvT hZ (hw _ (List.mem_of_getElem? (i := 0) rfl))) (g := (mkF m 24 Ls4 [(.long q4)])) rfl (hb hby at_24) _ k) ?_
  show own_Fin _ _ _ _ _ _ _ _ (mkF m 27 Ls4 [(.long (9223372036854775807 : Int64)), (.long q4)])
  refine own_step (fun t k => XS.land X0.here hx rfl (hb hby at_27) rfl k) ?_
  show own_Fin _ _ _ _ _ _ _ _ (mkF m 28 Ls4 [(.long (q4 &&& (9223372036854775807 : Int64)))])
  generalize hx3 : (q4 &&& (9223372036854775807 : Int64)) = x3
  obtain ⟨Ls5, hLs5⟩ : ∃ z : Array Slot, z = #[.val (.long q1), .second, .val (.long q2), .second, .val (.long q3), .second, .val (.long q4), .second, .val (.long q5), .second, .val (.long x0), .second, .val (.long x1), .second, .val (.long x2), .second, .val (.long x3), .second, .unset, .unset, .unset, .unset, .unset, .unset, .unset, .unset, .unset, .unset, .unset, .unset, .unset, .unset, .unset, .unset, .unset, .unset, .unset, .unset, .unset, .unset, .unset, .unset, .unset, .unset, .unset, .unset, .unset, .unset, .unset, .unset, .unset, .unset, .unset] := ⟨_, rfl⟩
  refine own_step (fun t k => XS.lstore X0.here hx rfl (hb hby at_28) rfl (l' := Ls5) (by rw [hLs4, hLs5]; rfl) k) ?_
  show own_Fin _ _ _ _ _ _ _ _ (mkF m 30 Ls5 [])
  refine own_step (fun t k => XS.lload (v := q5) X0.here hx rfl (hb hby at_30) (by rw [hLs5]; rfl) k) ?_
  show own_Fin _ _ _ _ _ _ _ _ (mkF m 32 Ls5 [(.long q5)])
  refine own_step (fun t k => X0.ldc2Long hx hown (mvT hZ (hw _ (List.mem_of_getElem? (i := 0) rfl))) (g := (mkF m 32 Ls5 [(.long q5)])) rfl (hb hby at_32) _ k) ?_
  show own_Fin _ _ _ _ _ _ _ _ (mkF m 35 Ls5 [(.long (9223372036854775807 : Int64)), (.long q5)])
  refine own_step (fun t k => XS.land X0.here hx rfl (hb hby at_35) rfl k) ?_
  show own_Fin _ _ _ _ _ _ _ _ (mkF m 36 Ls5 [(.long (q5 &&& (9223372036854775807 : Int64)))])
  generalize hx4 : (q5 &&& (9223372036854775807 : Int64)) = x4
  obtain ⟨Ls6, hLs6⟩ : ∃ z : Array Slot, z = #[.val (.long q1), .second, .val (.long q2), .second, .val (.long q3), .second, .val (.long q4), .second, .val (.long q5), .second, .val (.long x0), .second, .val (.long x1), .second, .val (.long x2), .second, .val (.long x3), .second, .val (.long x4), .second, .unset, .unset, .unset, .unset, .unset, .unset, .unset, .unset, .unset, .unset, .unset, .unset, .unset, .unset, .unset, .unset, .unset, .unset, .unset, .unset, .unset, .unset, .unset, .unset, .unset, .unset, .unset, .unset, .unset, .unset, .unset, .unset, .unset] := ⟨_, rfl⟩
  refine own_step (fun t k => XS.lstore X0.here hx rfl (hb hby at_36) rfl (l' := Ls6) (by rw [hLs5, hLs6]; rfl) k) ?_
  show own_Fin _ _ _ _ _ _ _ _ (mkF m 38 Ls6 [])
  refine own_step (fun t k => XS.iconst X0.here hx rfl (hb hby at_38) k) ?_
  show own_Fin _ _ _ _ _ _ _ _ (mkF m 39 Ls6 [(.int (5 : Int32))])
  obtain ⟨T7, h7, k7, X7, e7, E7, A7, st7⟩ := newP X0 hx hZ (hw _ (List.mem_of_getElem? (i := 1) rfl)) e0 (g := (mkF m 39 Ls6 [(.int (5 : Int32))])) rfl (hb hby at_39) rfl (by decide) (cap := 5) (by decide) (by decide) (by decide) (by decide)
  obtain ⟨b7, g7⟩ : ∃ z, z = h0.size := ⟨_, rfl⟩
  rw [← g7] at A7 st7
  refine own_step st7 ?_
  have g_b7 : n0 ≤ b7 := Nat.le_trans Zs (Nat.le_of_eq g7.symm)
  replace Zs := Nat.le_trans Zs E7.1
  have V_b7 := own_AJ.new (n := 5) A7 (by decide)
  show own_Fin _ _ _ _ _ _ _ _ (mkF m 41 Ls6 [(.ref b7)])
  refine own_step (fun t k => XS.dup X7.here hx rfl (hb hby at_41) rfl rfl k) ?_
  show own_Fin _ _ _ _ _ _ _ _ (mkF m 42 Ls6 [(.ref b7), (.ref b7)])
  refine own_step (fun t k => XS.iconst X7.here hx rfl (hb hby at_42) k) ?_
  show own_Fin _ _ _ _ _ _ _ _ (mkF m 43 Ls6 [(.int (0 : Int32)), (.ref b7), (.ref b7)])
  refine own_step (fun t k => XS.lload (v := x0) X7.here hx rfl (hb hby at_43) (by rw [hLs6]; rfl) k) ?_
  show own_Fin _ _ _ _ _ _ _ _ (mkF m 45 Ls6 [(.long x0), (.int (0 : Int32)), (.ref b7), (.ref b7)])
  obtain ⟨T8, h8, X8, e8, W8, B8, st8⟩ := own_lastore X7 hx hZ e7 V_b7 (j := (0 : Int32)) (k := 0) rfl (by decide) (x := x0) (pc := 45) (Ls := Ls6) (rest := [(.ref b7)]) (hb hby at_45) rfl
  refine own_step st8 ?_
  replace Zs : n0 ≤ h8.size := by rw [W8.size]; exact Zs
  replace V_b7 := B8
  replace Nf := Fr.snoc X8 Nf g_b7
  show own_Fin _ _ _ _ _ _ _ _ (mkF m 46 Ls6 [(.ref b7)])
  refine own_step (fun t k => XS.dup X8.here hx rfl (hb hby at_46) rfl rfl k) ?_
  show own_Fin _ _ _ _ _ _ _ _ (mkF m 47 Ls6 [(.ref b7), (.ref b7)])
  refine own_step (fun t k => XS.iconst X8.here hx rfl (hb hby at_47) k) ?_
  show own_Fin _ _ _ _ _ _ _ _ (mkF m 48 Ls6 [(.int (1 : Int32)), (.ref b7), (.ref b7)])
  refine own_step (fun t k => XS.lload (v := x1) X8.here hx rfl (hb hby at_48) (by rw [hLs6]; rfl) k) ?_
  show own_Fin _ _ _ _ _ _ _ _ (mkF m 50 Ls6 [(.long x1), (.int (1 : Int32)), (.ref b7), (.ref b7)])
  obtain ⟨T9, h9, X9, e9, W9, B9, st9⟩ := own_lastore X8 hx hZ e8 V_b7 (j := (1 : Int32)) (k := 1) rfl (by decide) (x := x1) (pc := 50) (Ls := Ls6) (rest := [(.ref b7)]) (hb hby at_50) rfl
  refine own_step st9 ?_
  replace Zs : n0 ≤ h9.size := by rw [W9.size]; exact Zs
  replace V_b7 := B9
  replace Nf := Fr.snoc X9 Nf g_b7
  show own_Fin _ _ _ _ _ _ _ _ (mkF m 51 Ls6 [(.ref b7)])
  refine own_step (fun t k => XS.dup X9.here hx rfl (hb hby at_51) rfl rfl k) ?_
  show own_Fin _ _ _ _ _ _ _ _ (mkF m 52 Ls6 [(.ref b7), (.ref b7)])
  refine own_step (fun t k => XS.iconst X9.here hx rfl (hb hby at_52) k) ?_
  show own_Fin _ _ _ _ _ _ _ _ (mkF m 53 Ls6 [(.int (2 : Int32)), (.ref b7), (.ref b7)])
  refine own_step (fun t k => XS.lload (v := x2) X9.here hx rfl (hb hby at_53) (by rw [hLs6]; rfl) k) ?_
  show own_Fin _ _ _ _ _ _ _ _ (mkF m 55 Ls6 [(.long x2), (.int (2 : Int32)), (.ref b7), (.ref b7)])
  obtain ⟨T10, h10, X10, e10, W10, B10, st10⟩ := own_lastore X9 hx hZ e9 V_b7 (j := (2 : Int32)) (k := 2) rfl (by decide) (x := x2) (pc := 55) (Ls := Ls6) (rest := [(.ref b7)]) (hb hby at_55) rfl
  refine own_step st10 ?_
  replace Zs : n0 ≤ h10.size := by rw [W10.size]; exact Zs
  replace V_b7 := B10
  replace Nf := Fr.snoc X10 Nf g_b7
  show own_Fin _ _ _ _ _ _ _ _ (mkF m 56 Ls6 [(.ref b7)])
  refine own_step (fun t k => XS.dup X10.here hx rfl (hb hby at_56) rfl rfl k) ?_
  show own_Fin _ _ _ _ _ _ _ _ (mkF m 57 Ls6 [(.ref b7), (.ref b7)])
  refine own_step (fun t k => XS.iconst X10.here hx rfl (hb hby at_57) k) ?_
  show own_Fin _ _ _ _ _ _ _ _ (mkF m 58 Ls6 [(.int (3 : Int32)), (.ref b7), (.ref b7)])
  refine own_step (fun t k => XS.lload (v := x3) X10.here hx rfl (hb hby at_58) (by rw [hLs6]; rfl) k) ?_
  show own_Fin _ _ _ _ _ _ _ _ (mkF m 60 Ls6 [(.long x3), (.int (3 : Int32)), (.ref b7), (.ref b7)])
  obtain ⟨T11, h11, X11, e11, W11, B11, st11⟩ := own_lastore X10 hx hZ e10 V_b7 (j := (3 : Int32)) (k := 3) rfl (by decide) (x := x3) (pc := 60) (Ls := Ls6) (rest := [(.ref b7)]) (hb hby at_60) rfl
  refine own_step st11 ?_
  replace Zs : n0 ≤ h11.size := by rw [W11.size]; exact Zs
  replace V_b7 := B11
  replace Nf := Fr.snoc X11 Nf g_b7
  show own_Fin _ _ _ _ _ _ _ _ (mkF m 61 Ls6 [(.ref b7)])
  refine own_step (fun t k => XS.dup X11.here hx rfl (hb hby at_61) rfl rfl k) ?_
  show own_Fin _ _ _ _ _ _ _ _ (mkF m 62 Ls6 [(.ref b7), (.ref b7)])
  refine own_step (fun t k => XS.iconst X11.here hx rfl (hb hby at_62) k) ?_
  show own_Fin _ _ _ _ _ _ _ _ (mkF m 63 Ls6 [(.int (4 : Int32)), (.ref b7), (.ref b7)])
  refine own_step (fun t k => XS.lload (v := x4) X11.here hx rfl (hb hby at_63) (by rw [hLs6]; rfl) k) ?_
  show own_Fin _ _ _ _ _ _ _ _ (mkF m 65 Ls6 [(.long x4), (.int (4 : Int32)), (.ref b7), (.ref b7)])
  obtain ⟨T12, h12, X12, e12, W12, B12, st12⟩ := own_lastore X11 hx hZ e11 V_b7 (j := (4 : Int32)) (k := 4) rfl (by decide) (x := x4) (pc := 65) (Ls := Ls6) (rest := [(.ref b7)]) (hb hby at_65) rfl
  refine own_step st12 ?_
  replace Zs : n0 ≤ h12.size := by rw [W12.size]; exact Zs
  replace V_b7 := B12
  replace Nf := Fr.snoc X12 Nf g_b7
  show own_Fin _ _ _ _ _ _ _ _ (mkF m 66 Ls6 [(.ref b7)])
  obtain ⟨Ls13, hLs13⟩ : ∃ z : Array Slot, z = #[.val (.long q1), .second, .val (.long q2), .second, .val (.long q3), .second, .val (.long q4), .second, .val (.long q5), .second, .val (.long x0), .second, .val (.long x1), .second, .val (.long x2), .second, .val (.long x3), .second, .val (.long x4), .second, .val (.ref b7), .unset, .unset, .unset, .unset, .unset, .unset, .unset, .unset, .unset, .unset, .unset, .unset, .unset, .unset, .unset, .unset, .unset, .unset, .unset, .unset, .unset, .unset, .unset, .unset, .unset, .unset, .unset, .unset, .unset, .unset, .unset, .unset] := ⟨_, rfl⟩
  refine own_step (fun t k => XS.astore X12.here hx rfl (hb hby at_66) rfl rfl (l' := Ls13) (by rw [hLs6, hLs13]; rfl) k) ?_
  show own_Fin _ _ _ _ _ _ _ _ (mkF m 68 Ls13 [])
  refine own_step (fun t k => XS.aload (v := (.ref b7)) X12.here hx rfl (hb hby at_68) (by rw [hLs13]; rfl) rfl k) ?_
  show own_Fin _ _ _ _ _ _ _ _ (mkF m 70 Ls13 [(.ref b7)])
  have hx0 := own_rng q1 x0 hx0
  have hy0 := rng64 x0
  have hx1 := own_rng q2 x1 hx1
  have hy1 := rng64 x1
  have hx2 := own_rng q3 x2 hx2
  have hy2 := rng64 x2
  have hx3 := own_rng q4 x3 hx3
  have hy3 := rng64 x3
  have hx4 := own_rng q5 x4 hx4
  have hy4 := rng64 x4
  obtain ⟨fE, V_b7, hfE_0, hfE_1, hfE_2, hfE_3, hfE_4⟩ : ∃ f, own_AJ Z h12 b7 5 f ∧ f 0 = x0 ∧ f 1 = x1 ∧ f 2 = x2 ∧ f 3 = x3 ∧ f 4 = x4 := ⟨_, V_b7, rfl, rfl, rfl, rfl, rfl⟩
  obtain ⟨_, _, ⟨T14, L14, k14, n14⟩, -, X14, ⟨Lc14, hQ14, l14, y14, z14⟩, st14⟩ := Jvm.LawKit.callS X12 hx (y := (⟨"com/example/quietwire/quietwire/Field25519", "carry", "([J)V"⟩ : MethodName)) hown (mvT hZ (hw _ (List.mem_of_getElem? (i := 2) rfl))) (mvT hZ (hw _ (List.mem_of_getElem? (i := 3) rfl))) (mvT hZ (hw _ (List.mem_of_getElem? (i := 4) rfl))) (mvT hZ (hw _ (List.mem_of_getElem? (i := 5) rfl))) (by decide) (backOf (W := 0) (rm1 l Z a0 hw [] b7 _ h12 n0 Zs V_b7 g_b7 (by rw [hfE_0]; exact hx0) (by rw [hfE_1]; exact hx1) (by rw [hfE_2]; exact hx2) (by rw [hfE_3]; exact hx3) (by rw [hfE_4]; exact hx4)) hZ (hw _ (List.mem_of_getElem? (i := 5) rfl)) (hw _ (List.mem_of_getElem? (i := 4) rfl)) (by decide) (by decide)) (g := (mkF m 70 Ls13 [(.ref b7)])) rfl (by rw [hml]; show Array.size Ls13 = _; rw [hLs13]; rfl) (argsL := [(.ref b7)]) (rest := []) (lenOf own_pd_0 rfl) rfl (by show 2 * 0 + _ ≤ _; exact Nat.le_of_eq rfl) (hb hby at_70) (fun _ _ => ⟨rfl, e12, (by decide : 1 + 0 ≤ _), (by decide : 5 + 0 ≤ _)⟩)
  dsimp only [Pt.U, Pt.locs, Pt.cells, Pt.slots] at X14 l14 y14 z14 st14 hQ14
  subst l14 y14 z14
  obtain ⟨rfl, Nq14, Kq14, gE, hgE, P14⟩ := hQ14
  replace Nf := Fr.app Nf Nq14
  replace V_b7 := P14
  replace Zs := Nat.le_trans Zs Kq14.1
  refine own_step st14 ?_
  show own_Fin _ _ _ _ _ _ _ _ (mkF m 73 Ls13 [])
  refine own_step (fun t k => X14.ldc2Long hx hown (mvT hZ (hw _ (List.mem_of_getElem? (i := 8) rfl))) (g := (mkF m 73 Ls13 [])) rfl (hb hby at_73) _ k) ?_
  show own_Fin _ _ _ _ _ _ _ _ (mkF m 76 Ls13 [(.long (2251799813685248 : Int64))])
  obtain ⟨Ls15, hLs15⟩ : ∃ z : Array Slot, z = #[.val (.long q1), .second, .val (.long q2), .second, .val (.long q3), .second, .val (.long q4), .second, .val (.long q5), .second, .val (.long x0), .second, .val (.long x1), .second, .val (.long x2), .second, .val (.long x3), .second, .val (.long x4), .second, .val (.ref b7), .val (.long (2251799813685248 : Int64)), .second, .unset, .unset, .unset, .unset, .unset, .unset, .unset, .unset, .unset, .unset, .unset, .unset, .unset, .unset, .unset, .unset, .unset, .unset, .unset, .unset, .unset, .unset, .unset, .unset, .unset, .unset, .unset, .unset, .unset, .unset] := ⟨_, rfl⟩
  refine own_step (fun t k => XS.lstore X14.here hx rfl (hb hby at_76) rfl (l' := Ls15) (by rw [hLs13, hLs15]; rfl) k) ?_
  show own_Fin _ _ _ _ _ _ _ _ (mkF m 78 Ls15 [])
  refine own_step (fun t k => XS.lload (v := x0) X14.here hx rfl (hb hby at_78) (by rw [hLs15]; rfl) k) ?_
  show own_Fin _ _ _ _ _ _ _ _ (mkF m 80 Ls15 [(.long x0)])
  refine own_step (fun t k => XS.lload (v := (2251799813685248 : Int64)) X14.here hx rfl (hb hby at_80) (by rw [hLs15]; rfl) k) ?_
  show own_Fin _ _ _ _ _ _ _ _ (mkF m 82 Ls15 [(.long (2251799813685248 : Int64)), (.long x0)])
  refine own_step (fun t k => XS.ldiv X14.here hx rfl (hb hby at_82) rfl (by decide) k) ?_
  show own_Fin _ _ _ _ _ _ _ _ (mkF m 83 Ls15 [(.long (x0 / (2251799813685248 : Int64)))])
  generalize hk1 : (x0 / (2251799813685248 : Int64)) = k1
  obtain ⟨Ls16, hLs16⟩ : ∃ z : Array Slot, z = #[.val (.long q1), .second, .val (.long q2), .second, .val (.long q3), .second, .val (.long q4), .second, .val (.long q5), .second, .val (.long x0), .second, .val (.long x1), .second, .val (.long x2), .second, .val (.long x3), .second, .val (.long x4), .second, .val (.ref b7), .val (.long (2251799813685248 : Int64)), .second, .val (.long k1), .second, .unset, .unset, .unset, .unset, .unset, .unset, .unset, .unset, .unset, .unset, .unset, .unset, .unset, .unset, .unset, .unset, .unset, .unset, .unset, .unset, .unset, .unset, .unset, .unset, .unset, .unset, .unset, .unset] := ⟨_, rfl⟩
  refine own_step (fun t k => XS.lstore X14.here hx rfl (hb hby at_83) rfl (l' := Ls16) (by rw [hLs15, hLs16]; rfl) k) ?_
  show own_Fin _ _ _ _ _ _ _ _ (mkF m 85 Ls16 [])
  refine own_step (fun t k => XS.lload (v := x0) X14.here hx rfl (hb hby at_85) (by rw [hLs16]; rfl) k) ?_
  show own_Fin _ _ _ _ _ _ _ _ (mkF m 87 Ls16 [(.long x0)])
  refine own_step (fun t k => XS.lload (v := (2251799813685248 : Int64)) X14.here hx rfl (hb hby at_87) (by rw [hLs16]; rfl) k) ?_
  show own_Fin _ _ _ _ _ _ _ _ (mkF m 89 Ls16 [(.long (2251799813685248 : Int64)), (.long x0)])
  refine own_step (fun t k => XS.lrem X14.here hx rfl (hb hby at_89) rfl (by decide) k) ?_
  show own_Fin _ _ _ _ _ _ _ _ (mkF m 90 Ls16 [(.long (x0 - (x0 / (2251799813685248 : Int64)) * (2251799813685248 : Int64)))])
  generalize hr0 : (x0 - (x0 / (2251799813685248 : Int64)) * (2251799813685248 : Int64)) = r0
  obtain ⟨Ls17, hLs17⟩ : ∃ z : Array Slot, z = #[.val (.long q1), .second, .val (.long q2), .second, .val (.long q3), .second, .val (.long q4), .second, .val (.long q5), .second, .val (.long x0), .second, .val (.long x1), .second, .val (.long x2), .second, .val (.long x3), .second, .val (.long x4), .second, .val (.ref b7), .val (.long (2251799813685248 : Int64)), .second, .val (.long k1), .second, .val (.long r0), .second, .unset, .unset, .unset, .unset, .unset, .unset, .unset, .unset, .unset, .unset, .unset, .unset, .unset, .unset, .unset, .unset, .unset, .unset, .unset, .unset, .unset, .unset, .unset, .unset, .unset, .unset] := ⟨_, rfl⟩
  refine own_step (fun t k => XS.lstore X14.here hx rfl (hb hby at_90) rfl (l' := Ls17) (by rw [hLs16, hLs17]; rfl) k) ?_
  show own_Fin _ _ _ _ _ _ _ _ (mkF m 92 Ls17 [])
  have hk1' := own_dv x0 k1 hx0 hk1
  have hr0' := own_rm x0 r0 hx0 hr0
  refine own_step (fun t k => XS.lload (v := x1) X14.here hx rfl (hb hby at_92) (by rw [hLs17]; rfl) k) ?_
  show own_Fin _ _ _ _ _ _ _ _ (mkF m 94 Ls17 [(.long x1)])
  refine own_step (fun t k => XS.lload (v := (2251799813685248 : Int64)) X14.here hx rfl (hb hby at_94) (by rw [hLs17]; rfl) k) ?_
  show own_Fin _ _ _ _ _ _ _ _ (mkF m 96 Ls17 [(.long (2251799813685248 : Int64)), (.long x1)])
  refine own_step (fun t k => XS.lrem X14.here hx rfl (hb hby at_96) rfl (by decide) k) ?_
  show own_Fin _ _ _ _ _ _ _ _ (mkF m 97 Ls17 [(.long (x1 - (x1 / (2251799813685248 : Int64)) * (2251799813685248 : Int64)))])
  generalize hm1 : (x1 - (x1 / (2251799813685248 : Int64)) * (2251799813685248 : Int64)) = m1
  refine own_step (fun t k => XS.lload (v := k1) X14.here hx rfl (hb hby at_97) (by rw [hLs17]; rfl) k) ?_
  show own_Fin _ _ _ _ _ _ _ _ (mkF m 99 Ls17 [(.long k1), (.long m1)])
  refine own_step (fun t k => XS.ladd X14.here hx rfl (hb hby at_99) rfl k) ?_
  show own_Fin _ _ _ _ _ _ _ _ (mkF m 100 Ls17 [(.long (m1 + k1))])
  generalize hs1 : (m1 + k1) = s1
  obtain ⟨Ls18, hLs18⟩ : ∃ z : Array Slot, z = #[.val (.long q1), .second, .val (.long q2), .second, .val (.long q3), .second, .val (.long q4), .second, .val (.long q5), .second, .val (.long x0), .second, .val (.long x1), .second, .val (.long x2), .second, .val (.long x3), .second, .val (.long x4), .second, .val (.ref b7), .val (.long (2251799813685248 : Int64)), .second, .val (.long k1), .second, .val (.long r0), .second, .val (.long s1), .second, .unset, .unset, .unset, .unset, .unset, .unset, .unset, .unset, .unset, .unset, .unset, .unset, .unset, .unset, .unset, .unset, .unset, .unset, .unset, .unset, .unset, .unset, .unset, .unset] := ⟨_, rfl⟩
  refine own_step (fun t k => XS.lstore X14.here hx rfl (hb hby at_100) rfl (l' := Ls18) (by rw [hLs17, hLs18]; rfl) k) ?_
  show own_Fin _ _ _ _ _ _ _ _ (mkF m 102 Ls18 [])
  have hm1' := own_rm x1 m1 hx1 hm1
  have hs1' := own_ad m1 k1 s1 hs1 (by omega) (by omega) (by omega)
  have j120 : ∀ o1 : Int64, (o1.toInt = s1.toInt % 2251799813685248) → own_Fin p e below s (own_Q0 Z q1 q2 q3 q4 q5 h0 n0) 16 128 T14 (mkF m 120 #[.val (.long q1), .second, .val (.long q2), .second, .val (.long q3), .second, .val (.long q4), .second, .val (.long q5), .second, .val (.long x0), .second, .val (.long x1), .second, .val (.long x2), .second, .val (.long x3), .second, .val (.long x4), .second, .val (.ref b7), .val (.long (2251799813685248 : Int64)), .second, .val (.long k1), .second, .val (.long r0), .second, .val (.long s1), .second, .unset, .unset, .unset, .unset, .unset, .unset, .unset, .unset, .unset, .unset, .unset, .unset, .unset, .unset, .unset, .unset, .unset, .unset, .unset, .unset, .unset, .unset, .unset, .unset] [(.long o1)]) := by
    intro o1 hJ_o1
    obtain ⟨Ls19, hLs19⟩ : ∃ z : Array Slot, z = #[.val (.long q1), .second, .val (.long q2), .second, .val (.long q3), .second, .val (.long q4), .second, .val (.long q5), .second, .val (.long x0), .second, .val (.long x1), .second, .val (.long x2), .second, .val (.long x3), .second, .val (.long x4), .second, .val (.ref b7), .val (.long (2251799813685248 : Int64)), .second, .val (.long k1), .second, .val (.long r0), .second, .val (.long s1), .second, .unset, .unset, .unset, .unset, .unset, .unset, .unset, .unset, .unset, .unset, .unset, .unset, .unset, .unset, .unset, .unset, .unset, .unset, .unset, .unset, .unset, .unset, .unset, .unset] := ⟨_, rfl⟩
    rw [← hLs19]
    obtain ⟨Ls20, hLs20⟩ : ∃ z : Array Slot, z = #[.val (.long q1), .second, .val (.long q2), .second, .val (.long q3), .second, .val (.long q4), .second, .val (.long q5), .second, .val (.long x0), .second, .val (.long x1), .second, .val (.long x2), .second, .val (.long x3), .second, .val (.long x4), .second, .val (.ref b7), .val (.long (2251799813685248 : Int64)), .second, .val (.long k1), .second, .val (.long r0), .second, .val (.long s1), .second, .val (.long o1), .second, .unset, .unset, .unset, .unset, .unset, .unset, .unset, .unset, .unset, .unset, .unset, .unset, .unset, .unset, .unset, .unset, .unset, .unset, .unset, .unset, .unset, .unset] := ⟨_, rfl⟩
    refine own_step (fun t k => XS.lstore X14.here hx rfl (hb hby at_120) rfl (l' := Ls20) (by rw [hLs19, hLs20]; rfl) k) ?_
    show own_Fin _ _ _ _ _ _ _ _ (mkF m 122 Ls20 [])
    refine own_step (fun t k => XS.lload (v := x1) X14.here hx rfl (hb hby at_122) (by rw [hLs20]; rfl) k) ?_
    show own_Fin _ _ _ _ _ _ _ _ (mkF m 124 Ls20 [(.long x1)])
    refine own_step (fun t k => XS.lload (v := (2251799813685248 : Int64)) X14.here hx rfl (hb hby at_124) (by rw [hLs20]; rfl) k) ?_
    show own_Fin _ _ _ _ _ _ _ _ (mkF m 126 Ls20 [(.long (2251799813685248 : Int64)), (.long x1)])
    refine own_step (fun t k => XS.ldiv X14.here hx rfl (hb hby at_126) rfl (by decide) k) ?_
    show own_Fin _ _ _ _ _ _ _ _ (mkF m 127 Ls20 [(.long (x1 / (2251799813685248 : Int64)))])
    generalize hd1 : (x1 / (2251799813685248 : Int64)) = d1
    have hd1' := own_dv x1 d1 hx1 hd1
    have j140 : ∀ c1 : Int32, (c1.toInt = s1.toInt / 2251799813685248) → own_Fin p e below s (own_Q0 Z q1 q2 q3 q4 q5 h0 n0) 16 128 T14 (mkF m 140 #[.val (.long q1), .second, .val (.long q2), .second, .val (.long q3), .second, .val (.long q4), .second, .val (.long q5), .second, .val (.long x0), .second, .val (.long x1), .second, .val (.long x2), .second, .val (.long x3), .second, .val (.long x4), .second, .val (.ref b7), .val (.long (2251799813685248 : Int64)), .second, .val (.long k1), .second, .val (.long r0), .second, .val (.long s1), .second, .val (.long o1), .second, .unset, .unset, .unset, .unset, .unset, .unset, .unset, .unset, .unset, .unset, .unset, .unset, .unset, .unset, .unset, .unset, .unset, .unset, .unset, .unset, .unset, .unset] [(.int c1), (.long d1)]) := by
      intro c1 hJ_c1
      obtain ⟨Ls21, hLs21⟩ : ∃ z : Array Slot, z = #[.val (.long q1), .second, .val (.long q2), .second, .val (.long q3), .second, .val (.long q4), .second, .val (.long q5), .second, .val (.long x0), .second, .val (.long x1), .second, .val (.long x2), .second, .val (.long x3), .second, .val (.long x4), .second, .val (.ref b7), .val (.long (2251799813685248 : Int64)), .second, .val (.long k1), .second, .val (.long r0), .second, .val (.long s1), .second, .val (.long o1), .second, .unset, .unset, .unset, .unset, .unset, .unset, .unset, .unset, .unset, .unset, .unset, .unset, .unset, .unset, .unset, .unset, .unset, .unset, .unset, .unset, .unset, .unset] := ⟨_, rfl⟩
      rw [← hLs21]
      refine own_step (fun t k => XS.i2l X14.here hx rfl (hb hby at_140) rfl k) ?_
      show own_Fin _ _ _ _ _ _ _ _ (mkF m 141 Ls21 [(.long (c1.toInt64)), (.long d1)])
      refine own_step (fun t k => XS.ladd X14.here hx rfl (hb hby at_141) rfl k) ?_
      show own_Fin _ _ _ _ _ _ _ _ (mkF m 142 Ls21 [(.long (d1 + (c1.toInt64)))])
      generalize hk2 : (d1 + (c1.toInt64)) = k2
      obtain ⟨Ls22, hLs22⟩ : ∃ z : Array Slot, z = #[.val (.long q1), .second, .val (.long q2), .second, .val (.long q3), .second, .val (.long q4), .second, .val (.long q5), .second, .val (.long x0), .second, .val (.long x1), .second, .val (.long x2), .second, .val (.long x3), .second, .val (.long x4), .second, .val (.ref b7), .val (.long (2251799813685248 : Int64)), .second, .val (.long k1), .second, .val (.long r0), .second, .val (.long s1), .second, .val (.long o1), .second, .val (.long k2), .second, .unset, .unset, .unset, .unset, .unset, .unset, .unset, .unset, .unset, .unset, .unset, .unset, .unset, .unset, .unset, .unset, .unset, .unset, .unset, .unset] := ⟨_, rfl⟩
      refine own_step (fun t k => XS.lstore X14.here hx rfl (hb hby at_142) rfl (l' := Ls22) (by rw [hLs21, hLs22]; rfl) k) ?_
      show own_Fin _ _ _ _ _ _ _ _ (mkF m 144 Ls22 [])
      have hk2' := own_ad d1 c1.toInt64 k2 hk2 (by omega) (by rw [c_i2l]; omega) (by rw [c_i2l]; omega)
      rw [c_i2l] at hk2'
      refine own_step (fun t k => XS.lload (v := x2) X14.here hx rfl (hb hby at_144) (by rw [hLs22]; rfl) k) ?_
      show own_Fin _ _ _ _ _ _ _ _ (mkF m 146 Ls22 [(.long x2)])
      refine own_step (fun t k => XS.lload (v := (2251799813685248 : Int64)) X14.here hx rfl (hb hby at_146) (by rw [hLs22]; rfl) k) ?_
      show own_Fin _ _ _ _ _ _ _ _ (mkF m 148 Ls22 [(.long (2251799813685248 : Int64)), (.long x2)])
      refine own_step (fun t k => XS.lrem X14.here hx rfl (hb hby at_148) rfl (by decide) k) ?_
      show own_Fin _ _ _ _ _ _ _ _ (mkF m 149 Ls22 [(.long (x2 - (x2 / (2251799813685248 : Int64)) * (2251799813685248 : Int64)))])
      generalize hm2 : (x2 - (x2 / (2251799813685248 : Int64)) * (2251799813685248 : Int64)) = m2
      refine own_step (fun t k => XS.lload (v := k2) X14.here hx rfl (hb hby at_149) (by rw [hLs22]; rfl) k) ?_
      show own_Fin _ _ _ _ _ _ _ _ (mkF m 151 Ls22 [(.long k2), (.long m2)])
      refine own_step (fun t k => XS.ladd X14.here hx rfl (hb hby at_151) rfl k) ?_
      show own_Fin _ _ _ _ _ _ _ _ (mkF m 152 Ls22 [(.long (m2 + k2))])
      generalize hs2 : (m2 + k2) = s2
      obtain ⟨Ls23, hLs23⟩ : ∃ z : Array Slot, z = #[.val (.long q1), .second, .val (.long q2), .second, .val (.long q3), .second, .val (.long q4), .second, .val (.long q5), .second, .val (.long x0), .second, .val (.long x1), .second, .val (.long x2), .second, .val (.long x3), .second, .val (.long x4), .second, .val (.ref b7), .val (.long (2251799813685248 : Int64)), .second, .val (.long k1), .second, .val (.long r0), .second, .val (.long s1), .second, .val (.long o1), .second, .val (.long k2), .second, .val (.long s2), .second, .unset, .unset, .unset, .unset, .unset, .unset, .unset, .unset, .unset, .unset, .unset, .unset, .unset, .unset, .unset, .unset, .unset, .unset] := ⟨_, rfl⟩
      refine own_step (fun t k => XS.lstore X14.here hx rfl (hb hby at_152) rfl (l' := Ls23) (by rw [hLs22, hLs23]; rfl) k) ?_
      show own_Fin _ _ _ _ _ _ _ _ (mkF m 154 Ls23 [])
      have hm2' := own_rm x2 m2 hx2 hm2
      have hs2' := own_ad m2 k2 s2 hs2 (by omega) (by omega) (by omega)
      have j172 : ∀ o2 : Int64, (o2.toInt = s2.toInt % 2251799813685248) → own_Fin p e below s (own_Q0 Z q1 q2 q3 q4 q5 h0 n0) 16 128 T14 (mkF m 172 #[.val (.long q1), .second, .val (.long q2), .second, .val (.long q3), .second, .val (.long q4), .second, .val (.long q5), .second, .val (.long x0), .second, .val (.long x1), .second, .val (.long x2), .second, .val (.long x3), .second, .val (.long x4), .second, .val (.ref b7), .val (.long (2251799813685248 : Int64)), .second, .val (.long k1), .second, .val (.long r0), .second, .val (.long s1), .second, .val (.long o1), .second, .val (.long k2), .second, .val (.long s2), .second, .unset, .unset, .unset, .unset, .unset, .unset, .unset, .unset, .unset, .unset, .unset, .unset, .unset, .unset, .unset, .unset, .unset, .unset] [(.long o2)]) := by
        intro o2 hJ_o2
        obtain ⟨Ls24, hLs24⟩ : ∃ z : Array Slot, z = #[.val (.long q1), .second, .val (.long q2), .second, .val (.long q3), .second, .val (.long q4), .second, .val (.long q5), .second, .val (.long x0), .second, .val (.long x1), .second, .val (.long x2), .second, .val (.long x3), .second, .val (.long x4), .second, .val (.ref b7), .val (.long (2251799813685248 : Int64)), .second, .val (.long k1), .second, .val (.long r0), .second, .val (.long s1), .second, .val (.long o1), .second, .val (.long k2), .second, .val (.long s2), .second, .unset, .unset, .unset, .unset, .unset, .unset, .unset, .unset, .unset, .unset, .unset, .unset, .unset, .unset, .unset, .unset, .unset, .unset] := ⟨_, rfl⟩
        rw [← hLs24]
        obtain ⟨Ls25, hLs25⟩ : ∃ z : Array Slot, z = #[.val (.long q1), .second, .val (.long q2), .second, .val (.long q3), .second, .val (.long q4), .second, .val (.long q5), .second, .val (.long x0), .second, .val (.long x1), .second, .val (.long x2), .second, .val (.long x3), .second, .val (.long x4), .second, .val (.ref b7), .val (.long (2251799813685248 : Int64)), .second, .val (.long k1), .second, .val (.long r0), .second, .val (.long s1), .second, .val (.long o1), .second, .val (.long k2), .second, .val (.long s2), .second, .val (.long o2), .second, .unset, .unset, .unset, .unset, .unset, .unset, .unset, .unset, .unset, .unset, .unset, .unset, .unset, .unset, .unset, .unset] := ⟨_, rfl⟩
        refine own_step (fun t k => XS.lstore X14.here hx rfl (hb hby at_172) rfl (l' := Ls25) (by rw [hLs24, hLs25]; rfl) k) ?_
        show own_Fin _ _ _ _ _ _ _ _ (mkF m 174 Ls25 [])
        refine own_step (fun t k => XS.lload (v := x2) X14.here hx rfl (hb hby at_174) (by rw [hLs25]; rfl) k) ?_
        show own_Fin _ _ _ _ _ _ _ _ (mkF m 176 Ls25 [(.long x2)])
        refine own_step (fun t k => XS.lload (v := (2251799813685248 : Int64)) X14.here hx rfl (hb hby at_176) (by rw [hLs25]; rfl) k) ?_
        show own_Fin _ _ _ _ _ _ _ _ (mkF m 178 Ls25 [(.long (2251799813685248 : Int64)), (.long x2)])
        refine own_step (fun t k => XS.ldiv X14.here hx rfl (hb hby at_178) rfl (by decide) k) ?_
        show own_Fin _ _ _ _ _ _ _ _ (mkF m 179 Ls25 [(.long (x2 / (2251799813685248 : Int64)))])
        generalize hd2 : (x2 / (2251799813685248 : Int64)) = d2
        have hd2' := own_dv x2 d2 hx2 hd2
        have j192 : ∀ c2 : Int32, (c2.toInt = s2.toInt / 2251799813685248) → own_Fin p e below s (own_Q0 Z q1 q2 q3 q4 q5 h0 n0) 16 128 T14 (mkF m 192 #[.val (.long q1), .second, .val (.long q2), .second, .val (.long q3), .second, .val (.long q4), .second, .val (.long q5), .second, .val (.long x0), .second, .val (.long x1), .second, .val (.long x2), .second, .val (.long x3), .second, .val (.long x4), .second, .val (.ref b7), .val (.long (2251799813685248 : Int64)), .second, .val (.long k1), .second, .val (.long r0), .second, .val (.long s1), .second, .val (.long o1), .second, .val (.long k2), .second, .val (.long s2), .second, .val (.long o2), .second, .unset, .unset, .unset, .unset, .unset, .unset, .unset, .unset, .unset, .unset, .unset, .unset, .unset, .unset, .unset, .unset] [(.int c2), (.long d2)]) := by
          intro c2 hJ_c2
          obtain ⟨Ls26, hLs26⟩ : ∃ z : Array Slot, z = #[.val (.long q1), .second, .val (.long q2), .second, .val (.long q3), .second, .val (.long q4), .second, .val (.long q5), .second, .val (.long x0), .second, .val (.long x1), .second, .val (.long x2), .second, .val (.long x3), .second, .val (.long x4), .second, .val (.ref b7), .val (.long (2251799813685248 : Int64)), .second, .val (.long k1), .second, .val (.long r0), .second, .val (.long s1), .second, .val (.long o1), .second, .val (.long k2), .second, .val (.long s2), .second, .val (.long o2), .second, .unset, .unset, .unset, .unset, .unset, .unset, .unset, .unset, .unset, .unset, .unset, .unset, .unset, .unset, .unset, .unset] := ⟨_, rfl⟩
          rw [← hLs26]
          refine own_step (fun t k => XS.i2l X14.here hx rfl (hb hby at_192) rfl k) ?_
          show own_Fin _ _ _ _ _ _ _ _ (mkF m 193 Ls26 [(.long (c2.toInt64)), (.long d2)])
          refine own_step (fun t k => XS.ladd X14.here hx rfl (hb hby at_193) rfl k) ?_
          show own_Fin _ _ _ _ _ _ _ _ (mkF m 194 Ls26 [(.long (d2 + (c2.toInt64)))])
          generalize hk3 : (d2 + (c2.toInt64)) = k3
          obtain ⟨Ls27, hLs27⟩ : ∃ z : Array Slot, z = #[.val (.long q1), .second, .val (.long q2), .second, .val (.long q3), .second, .val (.long q4), .second, .val (.long q5), .second, .val (.long x0), .second, .val (.long x1), .second, .val (.long x2), .second, .val (.long x3), .second, .val (.long x4), .second, .val (.ref b7), .val (.long (2251799813685248 : Int64)), .second, .val (.long k1), .second, .val (.long r0), .second, .val (.long s1), .second, .val (.long o1), .second, .val (.long k2), .second, .val (.long s2), .second, .val (.long o2), .second, .val (.long k3), .second, .unset, .unset, .unset, .unset, .unset, .unset, .unset, .unset, .unset, .unset, .unset, .unset, .unset, .unset] := ⟨_, rfl⟩
          refine own_step (fun t k => XS.lstore X14.here hx rfl (hb hby at_194) rfl (l' := Ls27) (by rw [hLs26, hLs27]; rfl) k) ?_
          show own_Fin _ _ _ _ _ _ _ _ (mkF m 196 Ls27 [])
          have hk3' := own_ad d2 c2.toInt64 k3 hk3 (by omega) (by rw [c_i2l]; omega) (by rw [c_i2l]; omega)
          rw [c_i2l] at hk3'
          refine own_step (fun t k => XS.lload (v := x3) X14.here hx rfl (hb hby at_196) (by rw [hLs27]; rfl) k) ?_
          show own_Fin _ _ _ _ _ _ _ _ (mkF m 198 Ls27 [(.long x3)])
          refine own_step (fun t k => XS.lload (v := (2251799813685248 : Int64)) X14.here hx rfl (hb hby at_198) (by rw [hLs27]; rfl) k) ?_
          show own_Fin _ _ _ _ _ _ _ _ (mkF m 200 Ls27 [(.long (2251799813685248 : Int64)), (.long x3)])
          refine own_step (fun t k => XS.lrem X14.here hx rfl (hb hby at_200) rfl (by decide) k) ?_
          show own_Fin _ _ _ _ _ _ _ _ (mkF m 201 Ls27 [(.long (x3 - (x3 / (2251799813685248 : Int64)) * (2251799813685248 : Int64)))])
          generalize hm3 : (x3 - (x3 / (2251799813685248 : Int64)) * (2251799813685248 : Int64)) = m3
          refine own_step (fun t k => XS.lload (v := k3) X14.here hx rfl (hb hby at_201) (by rw [hLs27]; rfl) k) ?_
          show own_Fin _ _ _ _ _ _ _ _ (mkF m 203 Ls27 [(.long k3), (.long m3)])
          refine own_step (fun t k => XS.ladd X14.here hx rfl (hb hby at_203) rfl k) ?_
          show own_Fin _ _ _ _ _ _ _ _ (mkF m 204 Ls27 [(.long (m3 + k3))])
          generalize hs3 : (m3 + k3) = s3
          obtain ⟨Ls28, hLs28⟩ : ∃ z : Array Slot, z = #[.val (.long q1), .second, .val (.long q2), .second, .val (.long q3), .second, .val (.long q4), .second, .val (.long q5), .second, .val (.long x0), .second, .val (.long x1), .second, .val (.long x2), .second, .val (.long x3), .second, .val (.long x4), .second, .val (.ref b7), .val (.long (2251799813685248 : Int64)), .second, .val (.long k1), .second, .val (.long r0), .second, .val (.long s1), .second, .val (.long o1), .second, .val (.long k2), .second, .val (.long s2), .second, .val (.long o2), .second, .val (.long k3), .second, .val (.long s3), .second, .unset, .unset, .unset, .unset, .unset, .unset, .unset, .unset, .unset, .unset, .unset, .unset] := ⟨_, rfl⟩
          refine own_step (fun t k => XS.lstore X14.here hx rfl (hb hby at_204) rfl (l' := Ls28) (by rw [hLs27, hLs28]; rfl) k) ?_
          show own_Fin _ _ _ _ _ _ _ _ (mkF m 206 Ls28 [])
          have hm3' := own_rm x3 m3 hx3 hm3
          have hs3' := own_ad m3 k3 s3 hs3 (by omega) (by omega) (by omega)
          have j224 : ∀ o3 : Int64, (o3.toInt = s3.toInt % 2251799813685248) → own_Fin p e below s (own_Q0 Z q1 q2 q3 q4 q5 h0 n0) 16 128 T14 (mkF m 224 #[.val (.long q1), .second, .val (.long q2), .second, .val (.long q3), .second, .val (.long q4), .second, .val (.long q5), .second, .val (.long x0), .second, .val (.long x1), .second, .val (.long x2), .second, .val (.long x3), .second, .val (.long x4), .second, .val (.ref b7), .val (.long (2251799813685248 : Int64)), .second, .val (.long k1), .second, .val (.long r0), .second, .val (.long s1), .second, .val (.long o1), .second, .val (.long k2), .second, .val (.long s2), .second, .val (.long o2), .second, .val (.long k3), .second, .val (.long s3), .second, .unset, .unset, .unset, .unset, .unset, .unset, .unset, .unset, .unset, .unset, .unset, .unset] [(.long o3)]) := by
            intro o3 hJ_o3
            obtain ⟨Ls29, hLs29⟩ : ∃ z : Array Slot, z = #[.val (.long q1), .second, .val (.long q2), .second, .val (.long q3), .second, .val (.long q4), .second, .val (.long q5), .second, .val (.long x0), .second, .val (.long x1), .second, .val (.long x2), .second, .val (.long x3), .second, .val (.long x4), .second, .val (.ref b7), .val (.long (2251799813685248 : Int64)), .second, .val (.long k1), .second, .val (.long r0), .second, .val (.long s1), .second, .val (.long o1), .second, .val (.long k2), .second, .val (.long s2), .second, .val (.long o2), .second, .val (.long k3), .second, .val (.long s3), .second, .unset, .unset, .unset, .unset, .unset, .unset, .unset, .unset, .unset, .unset, .unset, .unset] := ⟨_, rfl⟩
            rw [← hLs29]
            obtain ⟨Ls30, hLs30⟩ : ∃ z : Array Slot, z = #[.val (.long q1), .second, .val (.long q2), .second, .val (.long q3), .second, .val (.long q4), .second, .val (.long q5), .second, .val (.long x0), .second, .val (.long x1), .second, .val (.long x2), .second, .val (.long x3), .second, .val (.long x4), .second, .val (.ref b7), .val (.long (2251799813685248 : Int64)), .second, .val (.long k1), .second, .val (.long r0), .second, .val (.long s1), .second, .val (.long o1), .second, .val (.long k2), .second, .val (.long s2), .second, .val (.long o2), .second, .val (.long k3), .second, .val (.long s3), .second, .val (.long o3), .second, .unset, .unset, .unset, .unset, .unset, .unset, .unset, .unset, .unset, .unset] := ⟨_, rfl⟩
            refine own_step (fun t k => XS.lstore X14.here hx rfl (hb hby at_224) rfl (l' := Ls30) (by rw [hLs29, hLs30]; rfl) k) ?_
            show own_Fin _ _ _ _ _ _ _ _ (mkF m 226 Ls30 [])
            refine own_step (fun t k => XS.lload (v := x3) X14.here hx rfl (hb hby at_226) (by rw [hLs30]; rfl) k) ?_
            show own_Fin _ _ _ _ _ _ _ _ (mkF m 228 Ls30 [(.long x3)])
            refine own_step (fun t k => XS.lload (v := (2251799813685248 : Int64)) X14.here hx rfl (hb hby at_228) (by rw [hLs30]; rfl) k) ?_
            show own_Fin _ _ _ _ _ _ _ _ (mkF m 230 Ls30 [(.long (2251799813685248 : Int64)), (.long x3)])
            refine own_step (fun t k => XS.ldiv X14.here hx rfl (hb hby at_230) rfl (by decide) k) ?_
            show own_Fin _ _ _ _ _ _ _ _ (mkF m 231 Ls30 [(.long (x3 / (2251799813685248 : Int64)))])
            generalize hd3 : (x3 / (2251799813685248 : Int64)) = d3
            have hd3' := own_dv x3 d3 hx3 hd3
            have j244 : ∀ c3 : Int32, (c3.toInt = s3.toInt / 2251799813685248) → own_Fin p e below s (own_Q0 Z q1 q2 q3 q4 q5 h0 n0) 16 128 T14 (mkF m 244 #[.val (.long q1), .second, .val (.long q2), .second, .val (.long q3), .second, .val (.long q4), .second, .val (.long q5), .second, .val (.long x0), .second, .val (.long x1), .second, .val (.long x2), .second, .val (.long x3), .second, .val (.long x4), .second, .val (.ref b7), .val (.long (2251799813685248 : Int64)), .second, .val (.long k1), .second, .val (.long r0), .second, .val (.long s1), .second, .val (.long o1), .second, .val (.long k2), .second, .val (.long s2), .second, .val (.long o2), .second, .val (.long k3), .second, .val (.long s3), .second, .val (.long o3), .second, .unset, .unset, .unset, .unset, .unset, .unset, .unset, .unset, .unset, .unset] [(.int c3), (.long d3)]) := by
              intro c3 hJ_c3
              obtain ⟨Ls31, hLs31⟩ : ∃ z : Array Slot, z = #[.val (.long q1), .second, .val (.long q2), .second, .val (.long q3), .second, .val (.long q4), .second, .val (.long q5), .second, .val (.long x0), .second, .val (.long x1), .second, .val (.long x2), .second, .val (.long x3), .second, .val (.long x4), .second, .val (.ref b7), .val (.long (2251799813685248 : Int64)), .second, .val (.long k1), .second, .val (.long r0), .second, .val (.long s1), .second, .val (.long o1), .second, .val (.long k2), .second, .val (.long s2), .second, .val (.long o2), .second, .val (.long k3), .second, .val (.long s3), .second, .val (.long o3), .second, .unset, .unset, .unset, .unset, .unset, .unset, .unset, .unset, .unset, .unset] := ⟨_, rfl⟩
              rw [← hLs31]
              refine own_step (fun t k => XS.i2l X14.here hx rfl (hb hby at_244) rfl k) ?_
              show own_Fin _ _ _ _ _ _ _ _ (mkF m 245 Ls31 [(.long (c3.toInt64)), (.long d3)])
              refine own_step (fun t k => XS.ladd X14.here hx rfl (hb hby at_245) rfl k) ?_
              show own_Fin _ _ _ _ _ _ _ _ (mkF m 246 Ls31 [(.long (d3 + (c3.toInt64)))])
              generalize hk4 : (d3 + (c3.toInt64)) = k4
              obtain ⟨Ls32, hLs32⟩ : ∃ z : Array Slot, z = #[.val (.long q1), .second, .val (.long q2), .second, .val (.long q3), .second, .val (.long q4), .second, .val (.long q5), .second, .val (.long x0), .second, .val (.long x1), .second, .val (.long x2), .second, .val (.long x3), .second, .val (.long x4), .second, .val (.ref b7), .val (.long (2251799813685248 : Int64)), .second, .val (.long k1), .second, .val (.long r0), .second, .val (.long s1), .second, .val (.long o1), .second, .val (.long k2), .second, .val (.long s2), .second, .val (.long o2), .second, .val (.long k3), .second, .val (.long s3), .second, .val (.long o3), .second, .val (.long k4), .second, .unset, .unset, .unset, .unset, .unset, .unset, .unset, .unset] := ⟨_, rfl⟩
              refine own_step (fun t k => XS.lstore X14.here hx rfl (hb hby at_246) rfl (l' := Ls32) (by rw [hLs31, hLs32]; rfl) k) ?_
              show own_Fin _ _ _ _ _ _ _ _ (mkF m 248 Ls32 [])
              have hk4' := own_ad d3 c3.toInt64 k4 hk4 (by omega) (by rw [c_i2l]; omega) (by rw [c_i2l]; omega)
              rw [c_i2l] at hk4'
              refine own_step (fun t k => XS.lload (v := x4) X14.here hx rfl (hb hby at_248) (by rw [hLs32]; rfl) k) ?_
              show own_Fin _ _ _ _ _ _ _ _ (mkF m 250 Ls32 [(.long x4)])
              refine own_step (fun t k => XS.lload (v := (2251799813685248 : Int64)) X14.here hx rfl (hb hby at_250) (by rw [hLs32]; rfl) k) ?_
              show own_Fin _ _ _ _ _ _ _ _ (mkF m 252 Ls32 [(.long (2251799813685248 : Int64)), (.long x4)])
              refine own_step (fun t k => XS.lrem X14.here hx rfl (hb hby at_252) rfl (by decide) k) ?_
              show own_Fin _ _ _ _ _ _ _ _ (mkF m 253 Ls32 [(.long (x4 - (x4 / (2251799813685248 : Int64)) * (2251799813685248 : Int64)))])
              generalize hm4 : (x4 - (x4 / (2251799813685248 : Int64)) * (2251799813685248 : Int64)) = m4
              refine own_step (fun t k => XS.lload (v := k4) X14.here hx rfl (hb hby at_253) (by rw [hLs32]; rfl) k) ?_
              show own_Fin _ _ _ _ _ _ _ _ (mkF m 255 Ls32 [(.long k4), (.long m4)])
              refine own_step (fun t k => XS.ladd X14.here hx rfl (hb hby at_255) rfl k) ?_
              show own_Fin _ _ _ _ _ _ _ _ (mkF m 256 Ls32 [(.long (m4 + k4))])
              generalize hs4 : (m4 + k4) = s4
              obtain ⟨Ls33, hLs33⟩ : ∃ z : Array Slot, z = #[.val (.long q1), .second, .val (.long q2), .second, .val (.long q3), .second, .val (.long q4), .second, .val (.long q5), .second, .val (.long x0), .second, .val (.long x1), .second, .val (.long x2), .second, .val (.long x3), .second, .val (.long x4), .second, .val (.ref b7), .val (.long (2251799813685248 : Int64)), .second, .val (.long k1), .second, .val (.long r0), .second, .val (.long s1), .second, .val (.long o1), .second, .val (.long k2), .second, .val (.long s2), .second, .val (.long o2), .second, .val (.long k3), .second, .val (.long s3), .second, .val (.long o3), .second, .val (.long k4), .second, .val (.long s4), .second, .unset, .unset, .unset, .unset, .unset, .unset] := ⟨_, rfl⟩
              refine own_step (fun t k => XS.lstore X14.here hx rfl (hb hby at_256) rfl (l' := Ls33) (by rw [hLs32, hLs33]; rfl) k) ?_
              show own_Fin _ _ _ _ _ _ _ _ (mkF m 258 Ls33 [])
              have hm4' := own_rm x4 m4 hx4 hm4
              have hs4' := own_ad m4 k4 s4 hs4 (by omega) (by omega) (by omega)
              have j276 : ∀ o4 : Int64, (o4.toInt = s4.toInt % 2251799813685248) → own_Fin p e below s (own_Q0 Z q1 q2 q3 q4 q5 h0 n0) 16 128 T14 (mkF m 276 #[.val (.long q1), .second, .val (.long q2), .second, .val (.long q3), .second, .val (.long q4), .second, .val (.long q5), .second, .val (.long x0), .second, .val (.long x1), .second, .val (.long x2), .second, .val (.long x3), .second, .val (.long x4), .second, .val (.ref b7), .val (.long (2251799813685248 : Int64)), .second, .val (.long k1), .second, .val (.long r0), .second, .val (.long s1), .second, .val (.long o1), .second, .val (.long k2), .second, .val (.long s2), .second, .val (.long o2), .second, .val (.long k3), .second, .val (.long s3), .second, .val (.long o3), .second, .val (.long k4), .second, .val (.long s4), .second, .unset, .unset, .unset, .unset, .unset, .unset] [(.long o4)]) := by
                intro o4 hJ_o4
                obtain ⟨Ls34, hLs34⟩ : ∃ z : Array Slot, z = #[.val (.long q1), .second, .val (.long q2), .second, .val (.long q3), .second, .val (.long q4), .second, .val (.long q5), .second, .val (.long x0), .second, .val (.long x1), .second, .val (.long x2), .second, .val (.long x3), .second, .val (.long x4), .second, .val (.ref b7), .val (.long (2251799813685248 : Int64)), .second, .val (.long k1), .second, .val (.long r0), .second, .val (.long s1), .second, .val (.long o1), .second, .val (.long k2), .second, .val (.long s2), .second, .val (.long o2), .second, .val (.long k3), .second, .val (.long s3), .second, .val (.long o3), .second, .val (.long k4), .second, .val (.long s4), .second, .unset, .unset, .unset, .unset, .unset, .unset] := ⟨_, rfl⟩
                rw [← hLs34]
                obtain ⟨Ls35, hLs35⟩ : ∃ z : Array Slot, z = #[.val (.long q1), .second, .val (.long q2), .second, .val (.long q3), .second, .val (.long q4), .second, .val (.long q5), .second, .val (.long x0), .second, .val (.long x1), .second, .val (.long x2), .second, .val (.long x3), .second, .val (.long x4), .second, .val (.ref b7), .val (.long (2251799813685248 : Int64)), .second, .val (.long k1), .second, .val (.long r0), .second, .val (.long s1), .second, .val (.long o1), .second, .val (.long k2), .second, .val (.long s2), .second, .val (.long o2), .second, .val (.long k3), .second, .val (.long s3), .second, .val (.long o3), .second, .val (.long k4), .second, .val (.long s4), .second, .val (.long o4), .second, .unset, .unset, .unset, .unset] := ⟨_, rfl⟩
                refine own_step (fun t k => XS.lstore X14.here hx rfl (hb hby at_276) rfl (l' := Ls35) (by rw [hLs34, hLs35]; rfl) k) ?_
                show own_Fin _ _ _ _ _ _ _ _ (mkF m 278 Ls35 [])
                refine own_step (fun t k => XS.lload (v := x4) X14.here hx rfl (hb hby at_278) (by rw [hLs35]; rfl) k) ?_
                show own_Fin _ _ _ _ _ _ _ _ (mkF m 280 Ls35 [(.long x4)])
                refine own_step (fun t k => XS.lload (v := (2251799813685248 : Int64)) X14.here hx rfl (hb hby at_280) (by rw [hLs35]; rfl) k) ?_
                show own_Fin _ _ _ _ _ _ _ _ (mkF m 282 Ls35 [(.long (2251799813685248 : Int64)), (.long x4)])
                refine own_step (fun t k => XS.ldiv X14.here hx rfl (hb hby at_282) rfl (by decide) k) ?_
                show own_Fin _ _ _ _ _ _ _ _ (mkF m 283 Ls35 [(.long (x4 / (2251799813685248 : Int64)))])
                generalize hd4 : (x4 / (2251799813685248 : Int64)) = d4
                have hd4' := own_dv x4 d4 hx4 hd4
                have j296 : ∀ c4 : Int32, (c4.toInt = s4.toInt / 2251799813685248) → own_Fin p e below s (own_Q0 Z q1 q2 q3 q4 q5 h0 n0) 16 128 T14 (mkF m 296 #[.val (.long q1), .second, .val (.long q2), .second, .val (.long q3), .second, .val (.long q4), .second, .val (.long q5), .second, .val (.long x0), .second, .val (.long x1), .second, .val (.long x2), .second, .val (.long x3), .second, .val (.long x4), .second, .val (.ref b7), .val (.long (2251799813685248 : Int64)), .second, .val (.long k1), .second, .val (.long r0), .second, .val (.long s1), .second, .val (.long o1), .second, .val (.long k2), .second, .val (.long s2), .second, .val (.long o2), .second, .val (.long k3), .second, .val (.long s3), .second, .val (.long o3), .second, .val (.long k4), .second, .val (.long s4), .second, .val (.long o4), .second, .unset, .unset, .unset, .unset] [(.int c4), (.long d4)]) := by
                  intro c4 hJ_c4
                  obtain ⟨Ls36, hLs36⟩ : ∃ z : Array Slot, z = #[.val (.long q1), .second, .val (.long q2), .second, .val (.long q3), .second, .val (.long q4), .second, .val (.long q5), .second, .val (.long x0), .second, .val (.long x1), .second, .val (.long x2), .second, .val (.long x3), .second, .val (.long x4), .second, .val (.ref b7), .val (.long (2251799813685248 : Int64)), .second, .val (.long k1), .second, .val (.long r0), .second, .val (.long s1), .second, .val (.long o1), .second, .val (.long k2), .second, .val (.long s2), .second, .val (.long o2), .second, .val (.long k3), .second, .val (.long s3), .second, .val (.long o3), .second, .val (.long k4), .second, .val (.long s4), .second, .val (.long o4), .second, .unset, .unset, .unset, .unset] := ⟨_, rfl⟩
                  rw [← hLs36]
                  refine own_step (fun t k => XS.i2l X14.here hx rfl (hb hby at_296) rfl k) ?_
                  show own_Fin _ _ _ _ _ _ _ _ (mkF m 297 Ls36 [(.long (c4.toInt64)), (.long d4)])
                  refine own_step (fun t k => XS.ladd X14.here hx rfl (hb hby at_297) rfl k) ?_
                  show own_Fin _ _ _ _ _ _ _ _ (mkF m 298 Ls36 [(.long (d4 + (c4.toInt64)))])
                  generalize hk5 : (d4 + (c4.toInt64)) = k5
                  obtain ⟨Ls37, hLs37⟩ : ∃ z : Array Slot, z = #[.val (.long q1), .second, .val (.long q2), .second, .val (.long q3), .second, .val (.long q4), .second, .val (.long q5), .second, .val (.long x0), .second, .val (.long x1), .second, .val (.long x2), .second, .val (.long x3), .second, .val (.long x4), .second, .val (.ref b7), .val (.long (2251799813685248 : Int64)), .second, .val (.long k1), .second, .val (.long r0), .second, .val (.long s1), .second, .val (.long o1), .second, .val (.long k2), .second, .val (.long s2), .second, .val (.long o2), .second, .val (.long k3), .second, .val (.long s3), .second, .val (.long o3), .second, .val (.long k4), .second, .val (.long s4), .second, .val (.long o4), .second, .val (.long k5), .second, .unset, .unset] := ⟨_, rfl⟩
                  refine own_step (fun t k => XS.lstore X14.here hx rfl (hb hby at_298) rfl (l' := Ls37) (by rw [hLs36, hLs37]; rfl) k) ?_
                  show own_Fin _ _ _ _ _ _ _ _ (mkF m 300 Ls37 [])
                  have hk5' := own_ad d4 c4.toInt64 k5 hk5 (by omega) (by rw [c_i2l]; omega) (by rw [c_i2l]; omega)
                  rw [c_i2l] at hk5'
                  refine own_step (fun t k => XS.lload (v := r0) X14.here hx rfl (hb hby at_300) (by rw [hLs37]; rfl) k) ?_
                  show own_Fin _ _ _ _ _ _ _ _ (mkF m 302 Ls37 [(.long r0)])
                  refine own_step (fun t k => X14.ldc2Long hx hown (mvT hZ (hw _ (List.mem_of_getElem? (i := 9) rfl))) (g := (mkF m 302 Ls37 [(.long r0)])) rfl (hb hby at_302) _ k) ?_
                  show own_Fin _ _ _ _ _ _ _ _ (mkF m 305 Ls37 [(.long (19 : Int64)), (.long r0)])
                  refine own_step (fun t k => XS.lload (v := k5) X14.here hx rfl (hb hby at_305) (by rw [hLs37]; rfl) k) ?_
                  show own_Fin _ _ _ _ _ _ _ _ (mkF m 307 Ls37 [(.long k5), (.long (19 : Int64)), (.long r0)])
                  refine own_step (fun t k => XS.lmul X14.here hx rfl (hb hby at_307) rfl k) ?_
                  show own_Fin _ _ _ _ _ _ _ _ (mkF m 308 Ls37 [(.long ((19 : Int64) * k5)), (.long r0)])
                  refine own_step (fun t k => XS.ladd X14.here hx rfl (hb hby at_308) rfl k) ?_
                  show own_Fin _ _ _ _ _ _ _ _ (mkF m 309 Ls37 [(.long (r0 + ((19 : Int64) * k5)))])
                  generalize ho0 : (r0 + ((19 : Int64) * k5)) = o0
                  have hoo : o0.toInt = r0.toInt + 19 * k5.toInt := by
                    have q1 := c_lmul 19 k5
                    have q2 := c_ladd r0 (19 * k5)
                    have q3 := rng64 (r0 + 19 * k5)
                    have e : (19 : Int64).toInt = 19 := by decide
                    rw [e] at q1
                    rw [ho0] at q2 q3
                    omega
                  obtain ⟨u1, u2, u3, u4, hu1, hu2, hu3, hu4, z0, z1, z2, z3, z4⟩ := hgE
                  rw [hfE_0, hfE_1] at hu1
                  rw [hfE_2] at hu2
                  rw [hfE_3] at hu3
                  rw [hfE_4] at hu4
                  rw [hfE_0] at z0
                  obtain ⟨Ls38, hLs38⟩ : ∃ z : Array Slot, z = #[.val (.long q1), .second, .val (.long q2), .second, .val (.long q3), .second, .val (.long q4), .second, .val (.long q5), .second, .val (.long x0), .second, .val (.long x1), .second, .val (.long x2), .second, .val (.long x3), .second, .val (.long x4), .second, .val (.ref b7), .val (.long (2251799813685248 : Int64)), .second, .val (.long k1), .second, .val (.long r0), .second, .val (.long s1), .second, .val (.long o1), .second, .val (.long k2), .second, .val (.long s2), .second, .val (.long o2), .second, .val (.long k3), .second, .val (.long s3), .second, .val (.long o3), .second, .val (.long k4), .second, .val (.long s4), .second, .val (.long o4), .second, .val (.long k5), .second, .val (.long o0), .second] := ⟨_, rfl⟩
                  refine own_step (fun t k => XS.lstore X14.here hx rfl (hb hby at_309) rfl (l' := Ls38) (by rw [hLs37, hLs38]; rfl) k) ?_
                  show own_Fin _ _ _ _ _ _ _ _ (mkF m 311 Ls38 [])
                  refine own_step (fun t k => XS.aload (v := (.ref b7)) X14.here hx rfl (hb hby at_311) (by rw [hLs38]; rfl) rfl k) ?_
                  show own_Fin _ _ _ _ _ _ _ _ (mkF m 313 Ls38 [(.ref b7)])
                  refine own_step (fun t k => XS.iconst X14.here hx rfl (hb hby at_313) k) ?_
                  show own_Fin _ _ _ _ _ _ _ _ (mkF m 314 Ls38 [(.int (0 : Int32)), (.ref b7)])
                  refine own_laload X14 hx hZ rfl V_b7 (k := 0) rfl (by decide) (v := (gE 0)) rfl (hb hby at_314) rfl ?_
                  show own_Fin _ _ _ _ _ _ _ _ (mkF m 315 Ls38 [(.long (gE 0))])
                  refine own_step (fun t k => XS.lload (v := o0) X14.here hx rfl (hb hby at_315) (by rw [hLs38]; rfl) k) ?_
                  show own_Fin _ _ _ _ _ _ _ _ (mkF m 317 Ls38 [(.long o0), (.long (gE 0))])
                  refine own_step (fun t k => XS.lcmp X14.here hx rfl (hb hby at_317) rfl k) ?_
                  show own_Fin _ _ _ _ _ _ _ _ (mkF m 318 Ls38 [(.int (lcmpW (gE 0) o0))])
                  have hc39 : ((gE 0)).toInt = (o0).toInt := by omega
                  refine own_step (fun t k => XS.ifNo X14.here hx rfl (hb hby at_318) rfl (own_le (x := (gE 0)) (y := o0) rfl rfl hc39).2 k) ?_
                  show own_Fin _ _ _ _ _ _ _ _ (mkF m 321 Ls38 [])
                  refine own_step (fun t k => XS.aload (v := (.ref b7)) X14.here hx rfl (hb hby at_321) (by rw [hLs38]; rfl) rfl k) ?_
                  show own_Fin _ _ _ _ _ _ _ _ (mkF m 323 Ls38 [(.ref b7)])
                  refine own_step (fun t k => XS.iconst X14.here hx rfl (hb hby at_323) k) ?_
                  show own_Fin _ _ _ _ _ _ _ _ (mkF m 324 Ls38 [(.int (1 : Int32)), (.ref b7)])
                  refine own_laload X14 hx hZ rfl V_b7 (k := 1) rfl (by decide) (v := (gE 1)) rfl (hb hby at_324) rfl ?_
                  show own_Fin _ _ _ _ _ _ _ _ (mkF m 325 Ls38 [(.long (gE 1))])
                  refine own_step (fun t k => XS.lload (v := o1) X14.here hx rfl (hb hby at_325) (by rw [hLs38]; rfl) k) ?_
                  show own_Fin _ _ _ _ _ _ _ _ (mkF m 327 Ls38 [(.long o1), (.long (gE 1))])
                  refine own_step (fun t k => XS.lcmp X14.here hx rfl (hb hby at_327) rfl k) ?_
                  show own_Fin _ _ _ _ _ _ _ _ (mkF m 328 Ls38 [(.int (lcmpW (gE 1) o1))])
                  have hc40 : ((gE 1)).toInt = (o1).toInt := by omega
                  refine own_step (fun t k => XS.ifNo X14.here hx rfl (hb hby at_328) rfl (own_le (x := (gE 1)) (y := o1) rfl rfl hc40).2 k) ?_
                  show own_Fin _ _ _ _ _ _ _ _ (mkF m 331 Ls38 [])
                  refine own_step (fun t k => XS.aload (v := (.ref b7)) X14.here hx rfl (hb hby at_331) (by rw [hLs38]; rfl) rfl k) ?_
                  show own_Fin _ _ _ _ _ _ _ _ (mkF m 333 Ls38 [(.ref b7)])
                  refine own_step (fun t k => XS.iconst X14.here hx rfl (hb hby at_333) k) ?_
                  show own_Fin _ _ _ _ _ _ _ _ (mkF m 334 Ls38 [(.int (2 : Int32)), (.ref b7)])
                  refine own_laload X14 hx hZ rfl V_b7 (k := 2) rfl (by decide) (v := (gE 2)) rfl (hb hby at_334) rfl ?_
                  show own_Fin _ _ _ _ _ _ _ _ (mkF m 335 Ls38 [(.long (gE 2))])
                  refine own_step (fun t k => XS.lload (v := o2) X14.here hx rfl (hb hby at_335) (by rw [hLs38]; rfl) k) ?_
                  show own_Fin _ _ _ _ _ _ _ _ (mkF m 337 Ls38 [(.long o2), (.long (gE 2))])
                  refine own_step (fun t k => XS.lcmp X14.here hx rfl (hb hby at_337) rfl k) ?_
                  show own_Fin _ _ _ _ _ _ _ _ (mkF m 338 Ls38 [(.int (lcmpW (gE 2) o2))])
                  have hc41 : ((gE 2)).toInt = (o2).toInt := by omega
                  refine own_step (fun t k => XS.ifNo X14.here hx rfl (hb hby at_338) rfl (own_le (x := (gE 2)) (y := o2) rfl rfl hc41).2 k) ?_
                  show own_Fin _ _ _ _ _ _ _ _ (mkF m 341 Ls38 [])
                  refine own_step (fun t k => XS.aload (v := (.ref b7)) X14.here hx rfl (hb hby at_341) (by rw [hLs38]; rfl) rfl k) ?_
                  show own_Fin _ _ _ _ _ _ _ _ (mkF m 343 Ls38 [(.ref b7)])
                  refine own_step (fun t k => XS.iconst X14.here hx rfl (hb hby at_343) k) ?_
                  show own_Fin _ _ _ _ _ _ _ _ (mkF m 344 Ls38 [(.int (3 : Int32)), (.ref b7)])
                  refine own_laload X14 hx hZ rfl V_b7 (k := 3) rfl (by decide) (v := (gE 3)) rfl (hb hby at_344) rfl ?_
                  show own_Fin _ _ _ _ _ _ _ _ (mkF m 345 Ls38 [(.long (gE 3))])
                  refine own_step (fun t k => XS.lload (v := o3) X14.here hx rfl (hb hby at_345) (by rw [hLs38]; rfl) k) ?_
                  show own_Fin _ _ _ _ _ _ _ _ (mkF m 347 Ls38 [(.long o3), (.long (gE 3))])
                  refine own_step (fun t k => XS.lcmp X14.here hx rfl (hb hby at_347) rfl k) ?_
                  show own_Fin _ _ _ _ _ _ _ _ (mkF m 348 Ls38 [(.int (lcmpW (gE 3) o3))])
                  have hc42 : ((gE 3)).toInt = (o3).toInt := by omega
                  refine own_step (fun t k => XS.ifNo X14.here hx rfl (hb hby at_348) rfl (own_le (x := (gE 3)) (y := o3) rfl rfl hc42).2 k) ?_
                  show own_Fin _ _ _ _ _ _ _ _ (mkF m 351 Ls38 [])
                  refine own_step (fun t k => XS.aload (v := (.ref b7)) X14.here hx rfl (hb hby at_351) (by rw [hLs38]; rfl) rfl k) ?_
                  show own_Fin _ _ _ _ _ _ _ _ (mkF m 353 Ls38 [(.ref b7)])
                  refine own_step (fun t k => XS.iconst X14.here hx rfl (hb hby at_353) k) ?_
                  show own_Fin _ _ _ _ _ _ _ _ (mkF m 354 Ls38 [(.int (4 : Int32)), (.ref b7)])
                  refine own_laload X14 hx hZ rfl V_b7 (k := 4) rfl (by decide) (v := (gE 4)) rfl (hb hby at_354) rfl ?_
                  show own_Fin _ _ _ _ _ _ _ _ (mkF m 355 Ls38 [(.long (gE 4))])
                  refine own_step (fun t k => XS.lload (v := o4) X14.here hx rfl (hb hby at_355) (by rw [hLs38]; rfl) k) ?_
                  show own_Fin _ _ _ _ _ _ _ _ (mkF m 357 Ls38 [(.long o4), (.long (gE 4))])
                  refine own_step (fun t k => XS.lcmp X14.here hx rfl (hb hby at_357) rfl k) ?_
                  show own_Fin _ _ _ _ _ _ _ _ (mkF m 358 Ls38 [(.int (lcmpW (gE 4) o4))])
                  have hc43 : ((gE 4)).toInt = (o4).toInt := by omega
                  refine own_step (fun t k => XS.ifNo X14.here hx rfl (hb hby at_358) rfl (own_le (x := (gE 4)) (y := o4) rfl rfl hc43).2 k) ?_
                  show own_Fin _ _ _ _ _ _ _ _ (mkF m 361 Ls38 [])
                  refine own_step (fun t k => XS.iconst X14.here hx rfl (hb hby at_361) k) ?_
                  show own_Fin _ _ _ _ _ _ _ _ (mkF m 362 Ls38 [(.int (1 : Int32))])
                  refine own_step (fun t k => XS.goto X14.here hx rfl (pc0 := 362) (pc' := 366) rfl (hb hby at_362) (by decide) (by decide) k) ?_
                  show own_Fin _ _ _ _ _ _ _ _ (mkF m 366 Ls38 [(.int (1 : Int32))])
                  refine own_retZ X14 hx hlk Bd.returns (hb hby at_366) (z' := (1 : Int32)) (by decide) (by decide) (by decide) rfl ?_
                  exact ⟨rfl, Nf⟩
                refine own_step (fun t k => XS.lload (v := s4) X14.here hx rfl (hb hby at_283) (by rw [hLs35]; rfl) k) ?_
                show own_Fin _ _ _ _ _ _ _ _ (mkF m 285 Ls35 [(.long s4), (.long d4)])
                refine own_step (fun t k => XS.lload (v := (2251799813685248 : Int64)) X14.here hx rfl (hb hby at_285) (by rw [hLs35]; rfl) k) ?_
                show own_Fin _ _ _ _ _ _ _ _ (mkF m 287 Ls35 [(.long (2251799813685248 : Int64)), (.long s4), (.long d4)])
                refine own_step (fun t k => XS.lcmp X14.here hx rfl (hb hby at_287) rfl k) ?_
                show own_Fin _ _ _ _ _ _ _ _ (mkF m 288 Ls35 [(.int (lcmpW s4 (2251799813685248 : Int64))), (.long d4)])
                by_cases hc44 : (s4).toInt < 2251799813685248
                · skip
                  refine own_step (fun t k => XS.ifYes X14.here hx rfl (pc0 := 288) (pc' := 295) rfl (hb hby at_288) rfl (own_ll (x := s4) (y := (2251799813685248 : Int64)) rfl rfl hc44).1 (by decide) (by decide) k) ?_
                  show own_Fin _ _ _ _ _ _ _ _ (mkF m 295 Ls35 [(.long d4)])
                  refine own_step (fun t k => XS.iconst X14.here hx rfl (hb hby at_295) k) ?_
                  show own_Fin _ _ _ _ _ _ _ _ (mkF m 296 Ls35 [(.int (0 : Int32)), (.long d4)])
                  subst hLs35; exact j296 _ (by show (0 : Int) = _; omega)
                · skip
                  refine own_step (fun t k => XS.ifNo X14.here hx rfl (hb hby at_288) rfl (own_ln (x := s4) (y := (2251799813685248 : Int64)) rfl rfl hc44).1 k) ?_
                  show own_Fin _ _ _ _ _ _ _ _ (mkF m 291 Ls35 [(.long d4)])
                  refine own_step (fun t k => XS.iconst X14.here hx rfl (hb hby at_291) k) ?_
                  show own_Fin _ _ _ _ _ _ _ _ (mkF m 292 Ls35 [(.int (1 : Int32)), (.long d4)])
                  refine own_step (fun t k => XS.goto X14.here hx rfl (pc0 := 292) (pc' := 296) rfl (hb hby at_292) (by decide) (by decide) k) ?_
                  show own_Fin _ _ _ _ _ _ _ _ (mkF m 296 Ls35 [(.int (1 : Int32)), (.long d4)])
                  subst hLs35; exact j296 _ (by show (1 : Int) = _; omega)
              refine own_step (fun t k => XS.lload (v := s4) X14.here hx rfl (hb hby at_258) (by rw [hLs33]; rfl) k) ?_
              show own_Fin _ _ _ _ _ _ _ _ (mkF m 260 Ls33 [(.long s4)])
              refine own_step (fun t k => XS.lload (v := (2251799813685248 : Int64)) X14.here hx rfl (hb hby at_260) (by rw [hLs33]; rfl) k) ?_
              show own_Fin _ _ _ _ _ _ _ _ (mkF m 262 Ls33 [(.long (2251799813685248 : Int64)), (.long s4)])
              refine own_step (fun t k => XS.lcmp X14.here hx rfl (hb hby at_262) rfl k) ?_
              show own_Fin _ _ _ _ _ _ _ _ (mkF m 263 Ls33 [(.int (lcmpW s4 (2251799813685248 : Int64)))])
              by_cases hc45 : (s4).toInt < 2251799813685248
              · skip
                refine own_step (fun t k => XS.ifYes X14.here hx rfl (pc0 := 263) (pc' := 274) rfl (hb hby at_263) rfl (own_ll (x := s4) (y := (2251799813685248 : Int64)) rfl rfl hc45).1 (by decide) (by decide) k) ?_
                show own_Fin _ _ _ _ _ _ _ _ (mkF m 274 Ls33 [])
                refine own_step (fun t k => XS.lload (v := s4) X14.here hx rfl (hb hby at_274) (by rw [hLs33]; rfl) k) ?_
                show own_Fin _ _ _ _ _ _ _ _ (mkF m 276 Ls33 [(.long s4)])
                subst hLs33; exact j276 _ (by omega)
              · skip
                refine own_step (fun t k => XS.ifNo X14.here hx rfl (hb hby at_263) rfl (own_ln (x := s4) (y := (2251799813685248 : Int64)) rfl rfl hc45).1 k) ?_
                show own_Fin _ _ _ _ _ _ _ _ (mkF m 266 Ls33 [])
                refine own_step (fun t k => XS.lload (v := s4) X14.here hx rfl (hb hby at_266) (by rw [hLs33]; rfl) k) ?_
                show own_Fin _ _ _ _ _ _ _ _ (mkF m 268 Ls33 [(.long s4)])
                refine own_step (fun t k => XS.lload (v := (2251799813685248 : Int64)) X14.here hx rfl (hb hby at_268) (by rw [hLs33]; rfl) k) ?_
                show own_Fin _ _ _ _ _ _ _ _ (mkF m 270 Ls33 [(.long (2251799813685248 : Int64)), (.long s4)])
                refine own_step (fun t k => XS.lsub X14.here hx rfl (hb hby at_270) rfl k) ?_
                show own_Fin _ _ _ _ _ _ _ _ (mkF m 271 Ls33 [(.long (s4 - (2251799813685248 : Int64)))])
                refine own_step (fun t k => XS.goto X14.here hx rfl (pc0 := 271) (pc' := 276) rfl (hb hby at_271) (by decide) (by decide) k) ?_
                show own_Fin _ _ _ _ _ _ _ _ (mkF m 276 Ls33 [(.long (s4 - (2251799813685248 : Int64)))])
                subst hLs33; exact j276 _ (by have q := c_lsub s4 2251799813685248; have r := rng64 (s4 - 2251799813685248); have e : (2251799813685248 : Int64).toInt = 2251799813685248 := (by decide); rw [e] at q; omega)
            refine own_step (fun t k => XS.lload (v := s3) X14.here hx rfl (hb hby at_231) (by rw [hLs30]; rfl) k) ?_
            show own_Fin _ _ _ _ _ _ _ _ (mkF m 233 Ls30 [(.long s3), (.long d3)])
            refine own_step (fun t k => XS.lload (v := (2251799813685248 : Int64)) X14.here hx rfl (hb hby at_233) (by rw [hLs30]; rfl) k) ?_
            show own_Fin _ _ _ _ _ _ _ _ (mkF m 235 Ls30 [(.long (2251799813685248 : Int64)), (.long s3), (.long d3)])
            refine own_step (fun t k => XS.lcmp X14.here hx rfl (hb hby at_235) rfl k) ?_
            show own_Fin _ _ _ _ _ _ _ _ (mkF m 236 Ls30 [(.int (lcmpW s3 (2251799813685248 : Int64))), (.long d3)])
            by_cases hc46 : (s3).toInt < 2251799813685248
            · skip
              refine own_step (fun t k => XS.ifYes X14.here hx rfl (pc0 := 236) (pc' := 243) rfl (hb hby at_236) rfl (own_ll (x := s3) (y := (2251799813685248 : Int64)) rfl rfl hc46).1 (by decide) (by decide) k) ?_
              show own_Fin _ _ _ _ _ _ _ _ (mkF m 243 Ls30 [(.long d3)])
              refine own_step (fun t k => XS.iconst X14.here hx rfl (hb hby at_243) k) ?_
              show own_Fin _ _ _ _ _ _ _ _ (mkF m 244 Ls30 [(.int (0 : Int32)), (.long d3)])
              subst hLs30; exact j244 _ (by show (0 : Int) = _; omega)
            · skip
              refine own_step (fun t k => XS.ifNo X14.here hx rfl (hb hby at_236) rfl (own_ln (x := s3) (y := (2251799813685248 : Int64)) rfl rfl hc46).1 k) ?_
              show own_Fin _ _ _ _ _ _ _ _ (mkF m 239 Ls30 [(.long d3)])
              refine own_step (fun t k => XS.iconst X14.here hx rfl (hb hby at_239) k) ?_
              show own_Fin _ _ _ _ _ _ _ _ (mkF m 240 Ls30 [(.int (1 : Int32)), (.long d3)])
              refine own_step (fun t k => XS.goto X14.here hx rfl (pc0 := 240) (pc' := 244) rfl (hb hby at_240) (by decide) (by decide) k) ?_
              show own_Fin _ _ _ _ _ _ _ _ (mkF m 244 Ls30 [(.int (1 : Int32)), (.long d3)])
              subst hLs30; exact j244 _ (by show (1 : Int) = _; omega)
          refine own_step (fun t k => XS.lload (v := s3) X14.here hx rfl (hb hby at_206) (by rw [hLs28]; rfl) k) ?_
          show own_Fin _ _ _ _ _ _ _ _ (mkF m 208 Ls28 [(.long s3)])
          refine own_step (fun t k => XS.lload (v := (2251799813685248 : Int64)) X14.here hx rfl (hb hby at_208) (by rw [hLs28]; rfl) k) ?_
          show own_Fin _ _ _ _ _ _ _ _ (mkF m 210 Ls28 [(.long (2251799813685248 : Int64)), (.long s3)])
          refine own_step (fun t k => XS.lcmp X14.here hx rfl (hb hby at_210) rfl k) ?_
          show own_Fin _ _ _ _ _ _ _ _ (mkF m 211 Ls28 [(.int (lcmpW s3 (2251799813685248 : Int64)))])
          by_cases hc47 : (s3).toInt < 2251799813685248
          · skip
            refine own_step (fun t k => XS.ifYes X14.here hx rfl (pc0 := 211) (pc' := 222) rfl (hb hby at_211) rfl (own_ll (x := s3) (y := (2251799813685248 : Int64)) rfl rfl hc47).1 (by decide) (by decide) k) ?_
            show own_Fin _ _ _ _ _ _ _ _ (mkF m 222 Ls28 [])
            refine own_step (fun t k => XS.lload (v := s3) X14.here hx rfl (hb hby at_222) (by rw [hLs28]; rfl) k) ?_
            show own_Fin _ _ _ _ _ _ _ _ (mkF m 224 Ls28 [(.long s3)])
            subst hLs28; exact j224 _ (by omega)
          · skip
            refine own_step (fun t k => XS.ifNo X14.here hx rfl (hb hby at_211) rfl (own_ln (x := s3) (y := (2251799813685248 : Int64)) rfl rfl hc47).1 k) ?_
            show own_Fin _ _ _ _ _ _ _ _ (mkF m 214 Ls28 [])
            refine own_step (fun t k => XS.lload (v := s3) X14.here hx rfl (hb hby at_214) (by rw [hLs28]; rfl) k) ?_
            show own_Fin _ _ _ _ _ _ _ _ (mkF m 216 Ls28 [(.long s3)])
            refine own_step (fun t k => XS.lload (v := (2251799813685248 : Int64)) X14.here hx rfl (hb hby at_216) (by rw [hLs28]; rfl) k) ?_
            show own_Fin _ _ _ _ _ _ _ _ (mkF m 218 Ls28 [(.long (2251799813685248 : Int64)), (.long s3)])
            refine own_step (fun t k => XS.lsub X14.here hx rfl (hb hby at_218) rfl k) ?_
            show own_Fin _ _ _ _ _ _ _ _ (mkF m 219 Ls28 [(.long (s3 - (2251799813685248 : Int64)))])
            refine own_step (fun t k => XS.goto X14.here hx rfl (pc0 := 219) (pc' := 224) rfl (hb hby at_219) (by decide) (by decide) k) ?_
            show own_Fin _ _ _ _ _ _ _ _ (mkF m 224 Ls28 [(.long (s3 - (2251799813685248 : Int64)))])
            subst hLs28; exact j224 _ (by have q := c_lsub s3 2251799813685248; have r := rng64 (s3 - 2251799813685248); have e : (2251799813685248 : Int64).toInt = 2251799813685248 := (by decide); rw [e] at q; omega)
        refine own_step (fun t k => XS.lload (v := s2) X14.here hx rfl (hb hby at_179) (by rw [hLs25]; rfl) k) ?_
        show own_Fin _ _ _ _ _ _ _ _ (mkF m 181 Ls25 [(.long s2), (.long d2)])
        refine own_step (fun t k => XS.lload (v := (2251799813685248 : Int64)) X14.here hx rfl (hb hby at_181) (by rw [hLs25]; rfl) k) ?_
        show own_Fin _ _ _ _ _ _ _ _ (mkF m 183 Ls25 [(.long (2251799813685248 : Int64)), (.long s2), (.long d2)])
        refine own_step (fun t k => XS.lcmp X14.here hx rfl (hb hby at_183) rfl k) ?_
        show own_Fin _ _ _ _ _ _ _ _ (mkF m 184 Ls25 [(.int (lcmpW s2 (2251799813685248 : Int64))), (.long d2)])
        by_cases hc48 : (s2).toInt < 2251799813685248
        · skip
          refine own_step (fun t k => XS.ifYes X14.here hx rfl (pc0 := 184) (pc' := 191) rfl (hb hby at_184) rfl (own_ll (x := s2) (y := (2251799813685248 : Int64)) rfl rfl hc48).1 (by decide) (by decide) k) ?_
          show own_Fin _ _ _ _ _ _ _ _ (mkF m 191 Ls25 [(.long d2)])
          refine own_step (fun t k => XS.iconst X14.here hx rfl (hb hby at_191) k) ?_
          show own_Fin _ _ _ _ _ _ _ _ (mkF m 192 Ls25 [(.int (0 : Int32)), (.long d2)])
          subst hLs25; exact j192 _ (by show (0 : Int) = _; omega)
        · skip
          refine own_step (fun t k => XS.ifNo X14.here hx rfl (hb hby at_184) rfl (own_ln (x := s2) (y := (2251799813685248 : Int64)) rfl rfl hc48).1 k) ?_
          show own_Fin _ _ _ _ _ _ _ _ (mkF m 187 Ls25 [(.long d2)])
          refine own_step (fun t k => XS.iconst X14.here hx rfl (hb hby at_187) k) ?_
          show own_Fin _ _ _ _ _ _ _ _ (mkF m 188 Ls25 [(.int (1 : Int32)), (.long d2)])
          refine own_step (fun t k => XS.goto X14.here hx rfl (pc0 := 188) (pc' := 192) rfl (hb hby at_188) (by decide) (by decide) k) ?_
          show own_Fin _ _ _ _ _ _ _ _ (mkF m 192 Ls25 [(.int (1 : Int32)), (.long d2)])
          subst hLs25; exact j192 _ (by show (1 : Int) = _; omega)
      refine own_step (fun t k => XS.lload (v := s2) X14.here hx rfl (hb hby at_154) (by rw [hLs23]; rfl) k) ?_
      show own_Fin _ _ _ _ _ _ _ _ (mkF m 156 Ls23 [(.long s2)])
      refine own_step (fun t k => XS.lload (v := (2251799813685248 : Int64)) X14.here hx rfl (hb hby at_156) (by rw [hLs23]; rfl) k) ?_
      show own_Fin _ _ _ _ _ _ _ _ (mkF m 158 Ls23 [(.long (2251799813685248 : Int64)), (.long s2)])
      refine own_step (fun t k => XS.lcmp X14.here hx rfl (hb hby at_158) rfl k) ?_
      show own_Fin _ _ _ _ _ _ _ _ (mkF m 159 Ls23 [(.int (lcmpW s2 (2251799813685248 : Int64)))])
      by_cases hc49 : (s2).toInt < 2251799813685248
      · skip
        refine own_step (fun t k => XS.ifYes X14.here hx rfl (pc0 := 159) (pc' := 170) rfl (hb hby at_159) rfl (own_ll (x := s2) (y := (2251799813685248 : Int64)) rfl rfl hc49).1 (by decide) (by decide) k) ?_
        show own_Fin _ _ _ _ _ _ _ _ (mkF m 170 Ls23 [])
        refine own_step (fun t k => XS.lload (v := s2) X14.here hx rfl (hb hby at_170) (by rw [hLs23]; rfl) k) ?_
        show own_Fin _ _ _ _ _ _ _ _ (mkF m 172 Ls23 [(.long s2)])
        subst hLs23; exact j172 _ (by omega)
      · skip
        refine own_step (fun t k => XS.ifNo X14.here hx rfl (hb hby at_159) rfl (own_ln (x := s2) (y := (2251799813685248 : Int64)) rfl rfl hc49).1 k) ?_
        show own_Fin _ _ _ _ _ _ _ _ (mkF m 162 Ls23 [])
        refine own_step (fun t k => XS.lload (v := s2) X14.here hx rfl (hb hby at_162) (by rw [hLs23]; rfl) k) ?_
        show own_Fin _ _ _ _ _ _ _ _ (mkF m 164 Ls23 [(.long s2)])
        refine own_step (fun t k => XS.lload (v := (2251799813685248 : Int64)) X14.here hx rfl (hb hby at_164) (by rw [hLs23]; rfl) k) ?_
        show own_Fin _ _ _ _ _ _ _ _ (mkF m 166 Ls23 [(.long (2251799813685248 : Int64)), (.long s2)])
        refine own_step (fun t k => XS.lsub X14.here hx rfl (hb hby at_166) rfl k) ?_
        show own_Fin _ _ _ _ _ _ _ _ (mkF m 167 Ls23 [(.long (s2 - (2251799813685248 : Int64)))])
        refine own_step (fun t k => XS.goto X14.here hx rfl (pc0 := 167) (pc' := 172) rfl (hb hby at_167) (by decide) (by decide) k) ?_
        show own_Fin _ _ _ _ _ _ _ _ (mkF m 172 Ls23 [(.long (s2 - (2251799813685248 : Int64)))])
        subst hLs23; exact j172 _ (by have q := c_lsub s2 2251799813685248; have r := rng64 (s2 - 2251799813685248); have e : (2251799813685248 : Int64).toInt = 2251799813685248 := (by decide); rw [e] at q; omega)
    refine own_step (fun t k => XS.lload (v := s1) X14.here hx rfl (hb hby at_127) (by rw [hLs20]; rfl) k) ?_
    show own_Fin _ _ _ _ _ _ _ _ (mkF m 129 Ls20 [(.long s1), (.long d1)])
    refine own_step (fun t k => XS.lload (v := (2251799813685248 : Int64)) X14.here hx rfl (hb hby at_129) (by rw [hLs20]; rfl) k) ?_
    show own_Fin _ _ _ _ _ _ _ _ (mkF m 131 Ls20 [(.long (2251799813685248 : Int64)), (.long s1), (.long d1)])
    refine own_step (fun t k => XS.lcmp X14.here hx rfl (hb hby at_131) rfl k) ?_
    show own_Fin _ _ _ _ _ _ _ _ (mkF m 132 Ls20 [(.int (lcmpW s1 (2251799813685248 : Int64))), (.long d1)])
    by_cases hc50 : (s1).toInt < 2251799813685248
    · skip
      refine own_step (fun t k => XS.ifYes X14.here hx rfl (pc0 := 132) (pc' := 139) rfl (hb hby at_132) rfl (own_ll (x := s1) (y := (2251799813685248 : Int64)) rfl rfl hc50).1 (by decide) (by decide) k) ?_
      show own_Fin _ _ _ _ _ _ _ _ (mkF m 139 Ls20 [(.long d1)])
      refine own_step (fun t k => XS.iconst X14.here hx rfl (hb hby at_139) k) ?_
      show own_Fin _ _ _ _ _ _ _ _ (mkF m 140 Ls20 [(.int (0 : Int32)), (.long d1)])
      subst hLs20; exact j140 _ (by show (0 : Int) = _; omega)
    · skip
      refine own_step (fun t k => XS.ifNo X14.here hx rfl (hb hby at_132) rfl (own_ln (x := s1) (y := (2251799813685248 : Int64)) rfl rfl hc50).1 k) ?_
      show own_Fin _ _ _ _ _ _ _ _ (mkF m 135 Ls20 [(.long d1)])
      refine own_step (fun t k => XS.iconst X14.here hx rfl (hb hby at_135) k) ?_
      show own_Fin _ _ _ _ _ _ _ _ (mkF m 136 Ls20 [(.int (1 : Int32)), (.long d1)])
      refine own_step (fun t k => XS.goto X14.here hx rfl (pc0 := 136) (pc' := 140) rfl (hb hby at_136) (by decide) (by decide) k) ?_
      show own_Fin _ _ _ _ _ _ _ _ (mkF m 140 Ls20 [(.int (1 : Int32)), (.long d1)])
      subst hLs20; exact j140 _ (by show (1 : Int) = _; omega)
  refine own_step (fun t k => XS.lload (v := s1) X14.here hx rfl (hb hby at_102) (by rw [hLs18]; rfl) k) ?_
  show own_Fin _ _ _ _ _ _ _ _ (mkF m 104 Ls18 [(.long s1)])
  refine own_step (fun t k => XS.lload (v := (2251799813685248 : Int64)) X14.here hx rfl (hb hby at_104) (by rw [hLs18]; rfl) k) ?_
  show own_Fin _ _ _ _ _ _ _ _ (mkF m 106 Ls18 [(.long (2251799813685248 : Int64)), (.long s1)])
  refine own_step (fun t k => XS.lcmp X14.here hx rfl (hb hby at_106) rfl k) ?_
  show own_Fin _ _ _ _ _ _ _ _ (mkF m 107 Ls18 [(.int (lcmpW s1 (2251799813685248 : Int64)))])
  by_cases hc51 : (s1).toInt < 2251799813685248
  · skip
    refine own_step (fun t k => XS.ifYes X14.here hx rfl (pc0 := 107) (pc' := 118) rfl (hb hby at_107) rfl (own_ll (x := s1) (y := (2251799813685248 : Int64)) rfl rfl hc51).1 (by decide) (by decide) k) ?_
    show own_Fin _ _ _ _ _ _ _ _ (mkF m 118 Ls18 [])
    refine own_step (fun t k => XS.lload (v := s1) X14.here hx rfl (hb hby at_118) (by rw [hLs18]; rfl) k) ?_
    show own_Fin _ _ _ _ _ _ _ _ (mkF m 120 Ls18 [(.long s1)])
    subst hLs18; exact j120 _ (by omega)
  · skip
    refine own_step (fun t k => XS.ifNo X14.here hx rfl (hb hby at_107) rfl (own_ln (x := s1) (y := (2251799813685248 : Int64)) rfl rfl hc51).1 k) ?_
    show own_Fin _ _ _ _ _ _ _ _ (mkF m 110 Ls18 [])
    refine own_step (fun t k => XS.lload (v := s1) X14.here hx rfl (hb hby at_110) (by rw [hLs18]; rfl) k) ?_
    show own_Fin _ _ _ _ _ _ _ _ (mkF m 112 Ls18 [(.long s1)])
    refine own_step (fun t k => XS.lload (v := (2251799813685248 : Int64)) X14.here hx rfl (hb hby at_112) (by rw [hLs18]; rfl) k) ?_
    show own_Fin _ _ _ _ _ _ _ _ (mkF m 114 Ls18 [(.long (2251799813685248 : Int64)), (.long s1)])
    refine own_step (fun t k => XS.lsub X14.here hx rfl (hb hby at_114) rfl k) ?_
    show own_Fin _ _ _ _ _ _ _ _ (mkF m 115 Ls18 [(.long (s1 - (2251799813685248 : Int64)))])
    refine own_step (fun t k => XS.goto X14.here hx rfl (pc0 := 115) (pc' := 120) rfl (hb hby at_115) (by decide) (by decide) k) ?_
    show own_Fin _ _ _ _ _ _ _ _ (mkF m 120 Ls18 [(.long (s1 - (2251799813685248 : Int64)))])
    subst hLs18; exact j120 _ (by have q := c_lsub s1 2251799813685248; have r := rng64 (s1 - 2251799813685248); have e : (2251799813685248 : Int64).toInt = 2251799813685248 := (by decide); rw [e] at q; omega)
set_option maxRecDepth 65536 in
set_option maxHeartbeats 40000000 in
theorem comes_1 {Post : Tables → Env → Array Value → State → Outcome → State → Prop} (hpost : ∀ tb e args s v u, (limb_1_1.after args s (.returned v) u = true ∧ limb_1_2.after args s (.returned v) u = true ∧ True) → FrameEnd s (.returned v) u (Jvm.fieldLocs frame_1_writes args s ++ Jvm.arrayLocs frame_1_arrays args s ++ Jvm.staticLocs frame_1_statics s) 16 128 → Post tb e args s (.returned v) u) :
    ArmFor flags0 classFile x code maxLocals ret World_1 tables_1 room_1 Calls_1 rest_1 Pre_1 Post := by
  intro l hfl _ _ p e ha hc hk s m args below hf hA hF happ hP
  obtain ⟨hcalls, hrest, hpre⟩ := hP
  obtain ⟨-, -, -, hnamed, -, -, -, hat⟩ := (Spec.applies_iff hf).mp happ
  obtain ⟨hg, hn⟩ := and_e (Cond.before_iff.mp (show (Jvm.Cond.and given_1 narrow_1).before args s = true from hpre))
  obtain ⟨g1, g2⟩ := and_e hg
  obtain ⟨g3, g4⟩ := and_e g2
  obtain ⟨g5, g6⟩ := and_e g4
  obtain ⟨g7, g8⟩ := and_e g6
  obtain ⟨g9, g10⟩ := and_e g8
  obtain ⟨w0, w1, w2, w3, w4, rfl⟩ : ∃ w0 w1 w2 w3 w4 : Value, args = #[w0, w1, w2, w3, w4] := by
    have hs : args.size = 5 := by simpa [Cond.value, given_1] using g1
    obtain ⟨L⟩ := args
    match L, hs with
    | [w0, w1, w2, w3, w4], _ => exact ⟨w0, w1, w2, w3, w4, rfl⟩
  have hw := fun d (hd : d ∈ tables_1) => atoms_spec (ws := Jvm.Cond.code x code maxLocals ret :: tables_1) hat d (List.mem_cons_of_mem _ hd)
  obtain ⟨i0, ei0⟩ := isL_v g3
  obtain rfl : w0 = (.long i0) := Option.some.inj ei0
  obtain ⟨i1, ei1⟩ := isL_v g5
  obtain rfl : w1 = (.long i1) := Option.some.inj ei1
  obtain ⟨i2, ei2⟩ := isL_v g7
  obtain rfl : w2 = (.long i2) := Option.some.inj ei2
  obtain ⟨i3, ei3⟩ := isL_v g9
  obtain rfl : w3 = (.long i3) := Option.some.inj ei3
  obtain ⟨i4, ei4⟩ := isL_v g10
  obtain rfl : w4 = (.long i4) := Option.some.inj ei4
  obtain ⟨n, o, h1, h2, h3, _, L, rfl, ⟨rfl, N⟩, hq⟩ := rm0 l s _ hw tables_1 i0 i1 i2 i3 i4 s.heap s.heap.size (Nat.le_refl _) p e ha hc hk s m _ below hf ((Spec.applies_iff_loose hf).mp happ).1 ⟨rfl, State.Warmed39.refl s, rfl⟩ trivial
  refine ⟨n, _, h1, h2, h3, hpost _ _ _ _ _ _ ⟨Cond.after_iff.mpr rfl, Cond.after_iff.mpr (eq_i res_at (Term.int_eval (1)) rfl), trivial⟩ ⟨hq.1, hq.2.1, (hq.2.2.sift fun y hy => Or.inr (N y hy)).mono (by decide) (by decide)⟩⟩
theorem main_1_1 : Claimed_1_1 := comes_1 fun _ _ _ _ _ _ h hF => ⟨h.1, hF⟩
theorem main_1_2 : Claimed_1_2 := comes_1 fun _ _ _ _ _ _ h hF => ⟨h.2.1, hF⟩
end Jvm.Pilot.@@N@@
namespace Jvm.Pilot.@@N@@
open Jvm Jvm.ClassFile Sem Op Lib Jvm.Free Jvm.Stand Jvm.Pilot.@@N@@.Jvm.D
/-! MADE BY PROGRAM (witnessworld.py) out of the Statement's table words and the real class files: 11 classes; the members and pool entries that the words name. The judged class is class 1, her method 1. -/
namespace start1
open Jvm.ClassFile
def u (s : String) : CpInfo := .utf8 (stringToUtf16 s)
/-- a pool by its gaps: so many unusable entries, then the entry; so many at the end -/
def gap : Nat → List CpInfo → List CpInfo
  | 0, r => r
  | n + 1, r => .unusable :: gap n r
def poolList (es : List (Nat × CpInfo)) (last : Nat) : List CpInfo := es.foldr (fun e r => gap e.1 (e.2 :: r)) (gap last [])
def pool (es : List (Nat × CpInfo)) (last : Nat) : Array CpInfo := ⟨poolList es last⟩
def fileOf (pool : Array CpInfo) (this : Nat) (attrs : Array Attribute := #[]) (ms : Array MethodInfo := #[]) (fl : Nat := 33) (sup : Nat := 0) (ifs : Array Nat := #[]) (fds : Array FieldInfo := #[]) : ClassFile where
  minorVersion := 0
  majorVersion := 65
  constantPool := pool
  accessFlags := fl
  thisClass := this
  superClass := sup
  interfaces := ifs
  fields := fds
  methods := ms
  attributes := attrs
def plain (name : String) (sup : Option ClassId) : Class where
  name := name
  kind := .ordinary
  loader := none
  accessFlags := 33
  super := sup
  interfaces := #[]
  cf := none
  fields := #[]
  methods := #[]
  instanceTypes := #[]
  staticTypes := #[]
  resolved := #[]
  callSites := []
  init := .initialized
  statics := none
  mirror := none

def pool0 : Array CpInfo := pool [(5, u "<init>"), (0, u "()V"), (1, .class_ 10), (1, u "java/lang/Object")] 113

def k0m0 : Method := { name := "<init>", desc := "()V", sig := { parameters := [], returnType := none }, accessFlags := 1, code := none }
/-- java/lang/Object -/
def k0 : Class := { plain "java/lang/Object" none with
  accessFlags := 33
  interfaces := #[]
  cf := some (fileOf pool0 8 #[] #[{ accessFlags := 1, nameIndex := 5, descriptorIndex := 6, attributes := #[] }] 33 0 #[] #[])
  fields := #[]
  methods := #[k0m0]
  instanceTypes := #[]
  staticTypes := #[]
  resolved := Array.replicate 124 none
  statics := none }

def pool1 : Array CpInfo := pool [(2, .class_ 4), (1, u "java/lang/Object"), (0, u "<init>"), (0, u "()V"), (0, .long 9223372036854775807), (1, .methodref 10 11), (0, .class_ 12), (0, .nameAndType 13 14), (0, u "com/example/quietwire/quietwire/Field25519"), (0, u "carry"), (0, u "([J)V"), (0, .long 2251799813685248), (1, .long 19), (1, .class_ 20), (0, u "com/example/quietwire/quietwire/Field25519CarryPinLaw"), (2, u "law"), (0, u "(JJJJJ)Z")] 5

def k1m0 : Method := { name := "<init>", desc := "()V", sig := { parameters := [], returnType := none }, accessFlags := 1, code := none }
def k1c1 : Code := { maxStack := 6, maxLocals := 53, code := code, exceptionTable := #[], attributes := #[] }
def k1m1 : Method := { name := "law", desc := "(JJJJJ)Z", sig := { parameters := [.long, .long, .long, .long, .long], returnType := some .boolean }, accessFlags := 9, code := some k1c1 }
/-- com/example/quietwire/quietwire/Field25519CarryPinLaw -/
def k1 : Class := { plain "com/example/quietwire/quietwire/Field25519CarryPinLaw" (some 0) with
  accessFlags := 49
  interfaces := #[]
  cf := some (fileOf pool1 19 #[] #[{ accessFlags := 1, nameIndex := 5, descriptorIndex := 6, attributes := #[] }, { accessFlags := 9, nameIndex := 23, descriptorIndex := 24, attributes := #[] }] 49 2 #[] #[])
  fields := #[]
  methods := #[k1m0, k1m1]
  instanceTypes := #[]
  staticTypes := #[]
  resolved := Array.replicate 30 none
  statics := none }

def pool2 : Array CpInfo := pool [(1, .class_ 2), (0, u "com/example/quietwire/quietwire/Field25519"), (1, .class_ 6), (1, u "java/lang/Object"), (0, u "<init>"), (0, u "()V"), (14, .long 19), (33, .long 2251799813685247), (9, u "carry"), (0, u "([J)V"), (22, u "LENGTH"), (0, u "I"), (2, u "MASK"), (0, u "J"), (0, u "FOUR_P_0"), (0, u "FOUR_P")] 27

def k2m0 : Method := { name := "<init>", desc := "()V", sig := { parameters := [], returnType := none }, accessFlags := 2, code := none }
def k2c1 : Code := { maxStack := 9, maxLocals := 2, code := prog_33_method_24_code, exceptionTable := #[], attributes := #[] }
def k2m1 : Method := { name := "carry", desc := "([J)V", sig := { parameters := [(.array .long)], returnType := none }, accessFlags := 8, code := some k2c1 }
/-- com/example/quietwire/quietwire/Field25519 -/
def k2 : Class := { plain "com/example/quietwire/quietwire/Field25519" (some 0) with
  accessFlags := 48
  interfaces := #[]
  cf := some (fileOf pool2 1 #[] #[{ accessFlags := 2, nameIndex := 7, descriptorIndex := 8, attributes := #[] }, { accessFlags := 8, nameIndex := 67, descriptorIndex := 68, attributes := #[] }] 48 4 #[] #[{ accessFlags := 24, nameIndex := 91, descriptorIndex := 92, attributes := #[] }, { accessFlags := 26, nameIndex := 95, descriptorIndex := 96, attributes := #[] }, { accessFlags := 26, nameIndex := 97, descriptorIndex := 96, attributes := #[] }, { accessFlags := 26, nameIndex := 98, descriptorIndex := 96, attributes := #[] }])
  fields := #[{ name := "LENGTH", type := .int, accessFlags := 24, slot := 0, constantValue := 0 }, { name := "MASK", type := .long, accessFlags := 26, slot := 1, constantValue := 0 }, { name := "FOUR_P_0", type := .long, accessFlags := 26, slot := 2, constantValue := 0 }, { name := "FOUR_P", type := .long, accessFlags := 26, slot := 3, constantValue := 0 }]
  methods := #[k2m0, k2m1]
  instanceTypes := #[]
  staticTypes := #[.int, .long, .long, .long]
  resolved := Array.replicate 126 none
  statics := none }

def pool3 : Array CpInfo := pool [(1, u "java/lang/Cloneable"), (0, .class_ 1), (0, u "java/lang/Object"), (0, .class_ 3)] 3

/-- java/lang/Cloneable -/
def k3 : Class := { plain "java/lang/Cloneable" (some 0) with
  accessFlags := 1537
  interfaces := #[]
  cf := some (fileOf pool3 2 #[] #[] 1537 4 #[] #[])
  fields := #[]
  methods := #[]
  instanceTypes := #[]
  staticTypes := #[]
  resolved := Array.replicate 8 none
  statics := none }

def pool4 : Array CpInfo := pool [(1, u "java/io/Serializable"), (0, .class_ 1), (0, u "java/lang/Object"), (0, .class_ 3)] 3

/-- java/io/Serializable -/
def k4 : Class := { plain "java/io/Serializable" (some 0) with
  accessFlags := 1537
  interfaces := #[]
  cf := some (fileOf pool4 2 #[] #[] 1537 4 #[] #[])
  fields := #[]
  methods := #[]
  instanceTypes := #[]
  staticTypes := #[]
  resolved := Array.replicate 8 none
  statics := none }

/-- the primitive byte -/
def k5 : Class := { plain "byte" none with kind := .primitive 'B', accessFlags := 0x411 }
/-- [B -/
def k6 : Class := { plain "[B" (some 0) with kind := .array 5 .byte, interfaces := #[3, 4], accessFlags := 1041 }

/-- the primitive int -/
def k7 : Class := { plain "int" none with kind := .primitive 'I', accessFlags := 0x411 }
/-- [I -/
def k8 : Class := { plain "[I" (some 0) with kind := .array 7 .int, interfaces := #[3, 4], accessFlags := 1041 }

/-- the primitive long -/
def k9 : Class := { plain "long" none with kind := .primitive 'J', accessFlags := 0x411 }
/-- [J -/
def k10 : Class := { plain "[J" (some 0) with kind := .array 9 .long, interfaces := #[3, 4], accessFlags := 1041 }

def heap : Heap := #[]
def classes : Array Class := #[k0, k1, k2, k3, k4, k5, k6, k7, k8, k9, k10]
def interned : List (Array UInt16 × Addr) := []
def slotsUsed : Nat := 0
def theMethod : MethodId := ⟨1, 1⟩
def args0 : Array Value := #[.long 7, .long 7, .long 7, .long 7, .long 7]
def aboutOver (below : List Frame) : State where
  vm := { classes := classes, interned := interned.toArray }
  heap := heap
  slotsUsed := slotsUsed
  threads := #[{ frames := .invoking theMethod args0 :: below }]
def below0 : List Frame := [.native { method := ⟨0, 0⟩, args := #[] }]
def about1 : State := aboutOver below0
def p0 : Program := .bare "" "" ""
def e0 : Env := launch0.env 0 0 0
theorem w_frames : about1.frames = Frame.invoking theMethod args0 :: below0 := rfl
set_option maxRecDepth 65536 in
theorem w_args : argsFit about1.vm theMethod args0 = true := by decide +kernel
set_option maxRecDepth 65536 in
theorem w_heap : heapFits about1 = true := by decide +kernel
set_option maxRecDepth 65536 in
theorem w_runnable : about1.curStatus? = some .runnable := by decide +kernel
set_option maxRecDepth 65536 in
theorem w_alone : about1.alone = true := by decide +kernel
set_option maxRecDepth 65536 in
theorem w_named : about1.methodNamed? x = some theMethod := by decide +kernel
set_option maxRecDepth 65536 in
theorem w_hears : about1.hears theMethod below0 = true := by decide +kernel
set_option maxRecDepth 65536 in
theorem w_ripe : about1.ripe theMethod args0 below0 = true := by decide +kernel
theorem w_running : about1.status = .running := rfl
set_option maxRecDepth 65536 in
theorem w_room : about1.hasRoom e0.platform room_1 = true :=
  launch0.hasRoom_least _ room_1 (by decide +kernel) (by decide +kernel) (by decide +kernel) (by decide +kernel) (by decide +kernel) (by decide +kernel)
theorem allAtoms_all (ts : List Jvm.Cond) (a : Array Jvm.Value) (st : Jvm.State) : (allAtoms ts).before a st = ts.all (fun c => c.before a st) := by
  induction ts with
  | nil => rfl
  | cons c t ih =>
    show (Jvm.Cond.and c (allAtoms t)).before a st = _
    rw [Jvm.Cond.before_and, ih, List.all_cons]
def words1 : List Jvm.Cond := Jvm.Cond.code x code maxLocals ret :: tables_1
/-- a 'code' word, met by the world's own term for the bytes: nothing is compared byte by byte -/
theorem code_word {y : MethodName} {bytes : ByteArray} {mx : Nat} {rt : Option FieldType} {a : Array Value} {s : State} {m : MethodId} {meth : Method} {c : Code} (h1 : s.methodNamed? y = some m) (h2 : s.vm.method? m = some meth) (h3 : meth.code = some c) (h4 : c.code = bytes)
    (h5 : (c.maxLocals == mx && c.exceptionTable.isEmpty && decide (c.maxStack ≤ mostOperands) && decide (meth.sig.returnType = rt) && !meth.locks && decide (parseMethodDescriptor y.desc = some meth.sig)) = true) : (Jvm.Cond.code y bytes mx rt).before a s = true := by
  simp only [Bool.and_eq_true, beq_iff_eq, Bool.not_eq_true', decide_eq_true_eq] at h5
  obtain ⟨⟨⟨⟨⟨g1, g2⟩, g3⟩, g4⟩, g5⟩, g6⟩ := h5
  simp [Cond.before, Cond.holds, Cond.value, h1, h2, h3, h4, g1, g2, g3, g4, g5, g6]
def isCode : Jvm.Cond → Bool
  | .code _ _ _ _ => true
  | _ => false
theorem all_split {L : List Jvm.Cond} {P : Jvm.Cond → Bool} (h1 : L.all (fun c => isCode c || P c) = true) (h2 : ∀ c ∈ L.filter isCode, P c = true) : L.all P = true := by
  refine List.all_eq_true.mpr fun c hc => ?_
  have h := List.all_eq_true.mp h1 c hc
  rcases Bool.eq_false_or_eq_true (isCode c) with hi | hi
  · exact h2 c (List.mem_filter.mpr ⟨hc, hi⟩)
  · simpa [hi] using h
set_option maxRecDepth 65536 in
theorem w_c0 : (Jvm.Cond.code x code maxLocals ret).before args0 about1 = true := code_word (m := ⟨1, 1⟩) (meth := k1m1) (c := k1c1) (by decide +kernel) rfl rfl rfl (by decide +kernel)
set_option maxRecDepth 65536 in
theorem w_c1 : (Jvm.Cond.code ({ cls := "com/example/quietwire/quietwire/Field25519", name := "carry", desc := "([J)V" } : Jvm.MethodName) prog_33_method_24_code (2 : Nat) (Option.none : Option Jvm.ClassFile.FieldType)).before args0 about1 = true := code_word (m := ⟨2, 1⟩) (meth := k2m1) (c := k2c1) (by decide +kernel) rfl rfl rfl (by decide +kernel)
def codes1 : List Jvm.Cond := [Jvm.Cond.code x code maxLocals ret, Jvm.Cond.code ({ cls := "com/example/quietwire/quietwire/Field25519", name := "carry", desc := "([J)V" } : Jvm.MethodName) prog_33_method_24_code (2 : Nat) (Option.none : Option Jvm.ClassFile.FieldType)]
set_option maxRecDepth 65536 in
theorem codes_eq : words1.filter isCode = codes1 := rfl
theorem w_codes : ∀ c ∈ words1.filter isCode, c.before args0 about1 = true := by
  rw [codes_eq]
  intro c hc
  simp only [codes1, List.mem_cons, List.not_mem_nil, or_false] at hc
  rcases hc with rfl | rfl
  · exact w_c0
  · exact w_c1
set_option maxRecDepth 65536 in
theorem w_t1 : words1.all (fun c => isCode c || c.before args0 about1) = true := by decide +kernel
theorem w_tables : (allAtoms (Jvm.Cond.code x code maxLocals ret :: tables_1)).before args0 about1 = true := by
  rw [allAtoms_all]
  show words1.all (fun c => c.before args0 about1) = true
  refine all_split ?_ w_codes
  rw [w_t1]
set_option maxRecDepth 65536 in
theorem w_case : (Jvm.Cond.and given_1 narrow_1).before args0 about1 = true := by decide +kernel
theorem w_applies : (headSpec (Jvm.Cond.code x code maxLocals ret :: tables_1) room_1).applies x e0.platform about1 = true :=
  (Spec.applies_iff w_frames).mpr ⟨w_running, w_runnable, w_alone, w_named, w_hears, w_ripe, w_room, w_tables⟩
theorem atStart : AtStart classFile x code maxLocals ret World_1 tables_1 room_1 Calls_1 rest_1 Pre_1 launch0 p0 e0 about1 theMethod args0 below0 :=
  ⟨lists_1, trivial, launch0.admits_env _ _ _, launch0.least_env, fairChoices_fair.cas, fairChoices_fair.clock, w_frames, w_args, w_heap, w_applies, trivial, trivial, w_case⟩
end start1
theorem witness_1 : WitnessClaimed_1 := ⟨start1.p0, start1.e0, start1.about1, start1.theMethod, start1.args0, start1.below0, start1.atStart⟩
end Jvm.Pilot.@@N@@
