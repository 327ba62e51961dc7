import JvmDerived
import JvmDerived.Pilot.@@N@@Statement
import JvmDerived.Pilot.@@N@@Code
set_option linter.unusedVariables false
set_option linter.unusedSimpArgs false
namespace Jvm.Pilot.@@N@@
open Jvm Jvm.ClassFile Sem Op Lib Jvm.Free Jvm.Stand Jvm.LawKit Jvm.RoadKit Bundle Jvm.Pilot.@@N@@.Jvm.D
/-! Own kit. own_Fin: from this frame the run comes to the method's end, and Q holds of what it leaves. -/
def own_Fin (p : Program) (e : Env) (below : List Frame) (s : State) (Q : Option Value → Heap → List Loc → Prop) (cl sl : Nat) (T : State) (f : JFrame) : Prop :=
  ∃ s₂ o, Steps p.tables e below (T.setTop f) s₂ ∧ s₂.status = .running ∧ Ended s₂ below o ∧ (∃ v L, o = .returned v ∧ Q v s₂.heap L ∧ FrameEnd s o s₂ L cl sl)
section OwnKit
variable {p : Program} {l : Launch} {e : Env} {R : Room} {s : State} {m : MethodId} {args : Array Value} {below : List Frame} {meth : Method} {c : Code} {T : State} {locs : List Loc} {cells slots : Nat} {Q : Option Value → Heap → List Loc → Prop} {cl sl : Nat} {Z : State} {a0 : Array Value} {h h' : Heap} {a b : Addr}
theorem own_step {T' : State} {f f' : JFrame} (k : ∀ t, Steps p.tables e below (T'.setTop f') t → Steps p.tables e below (T.setTop f) t) (r : own_Fin p e below s Q cl sl T' f') : own_Fin p e below s Q cl sl T f := by
  obtain ⟨s₂, o, h1, h2⟩ := r
  exact ⟨s₂, o, k _ h1, h2⟩
theorem own_stepT {T' : State} {f f' : JFrame} (k : Steps p.tables e below (T.setTop f) (T'.setTop f')) (r : own_Fin p e below s Q cl sl T' f') : own_Fin p e below s Q cl sl T f := by
  obtain ⟨s₂, o, h1, h2⟩ := r
  exact ⟨s₂, o, k.trans h1, h2⟩
theorem own_retZ (X : Stand p l e R s m args below meth c T locs cells slots) (hx : p.tables.exec = Jvm.exec) (hlocks : meth.locks = false) (hret : meth.sig.returnType = some .boolean) {pc : Nat} {Ls : Array Slot} {z z' : Int32} {rest : List Value} (hd : decode c.code pc = .ok (.ireturn, 1))
    (hn : nar .boolean z = z') (hc : cells ≤ cl) (hs : slots ≤ sl) (hT : T.heap = h) (hq : Q (some (.int z')) h locs) : own_Fin p e below s Q cl sl T (mkF m pc Ls (.int z :: rest)) := by
  subst hn hT
  obtain ⟨fs, hr, hrun, hended, hW, hsame⟩ := X.leave (v := some (.int (nar .boolean z))) (fun h => by rw [hret] at h; cases h)
  exact ⟨_, _, retN X hx hret (by simp) hd hr, hrun, hended, _, _, rfl, hq, ⟨_, rfl⟩, hW, hsame.mono hc hs⟩
theorem own_retI (X : Stand p l e R s m args below meth c T locs cells slots) (hx : p.tables.exec = Jvm.exec) (hlocks : meth.locks = false) (hret : meth.sig.returnType = some .int) {pc : Nat} {Ls : Array Slot} {z : Int32} {rest : List Value} (hd : decode c.code pc = .ok (.ireturn, 1))
    (hc : cells ≤ cl) (hs : slots ≤ sl) (hT : T.heap = h) (hq : Q (some (.int z)) h locs) : own_Fin p e below s Q cl sl T (mkF m pc Ls (.int z :: rest)) := by
  subst hT
  obtain ⟨fs, hr, hrun, hended, hW, hsame⟩ := X.leave (v := some (.int z)) (fun h => by rw [hret] at h; cases h)
  refine ⟨_, _, ?_, hrun, hended, _, _, rfl, hq, ⟨_, rfl⟩, hW, hsame.mono hc hs⟩
  have hm' : T.vm.method? m = some meth := X.method'
  have hn : narrow .int (.int z) = .int z := rfl
  show Steps p.tables e below (T.setTop { method := m, pc := pc, locals := Ls, stack := _ :: rest, locked := none }) _
  jvm_step X.here [X.here.top, hx, hd, hm', hret, hn]
  first | (intro acts; rw [hr _ acts rfl rfl rfl]) | rw [hr _ _ rfl rfl rfl]
  exact Steps.refl _
theorem own_retJ (X : Stand p l e R s m args below meth c T locs cells slots) (hx : p.tables.exec = Jvm.exec) (hlocks : meth.locks = false) (hret : meth.sig.returnType = some .long) {pc : Nat} {Ls : Array Slot} {z : Int64} (hd : decode c.code pc = .ok (.lreturn, 1))
    (hc : cells ≤ cl) (hs : slots ≤ sl) (hT : T.heap = h) (hq : Q (some (.long z)) h locs) : own_Fin p e below s Q cl sl T (mkF m pc Ls [.long z]) := by
  subst hT
  obtain ⟨fs, hr, hrun, hended, hW, hsame⟩ := X.leave (v := some (.long z)) (fun h => by rw [hret] at h; cases h)
  exact ⟨_, _, X.lreturnOut hx hret hd hr, hrun, hended, _, _, rfl, hq, ⟨_, rfl⟩, hW, hsame.mono hc hs⟩
theorem own_retV (X : Stand p l e R s m args below meth c T locs cells slots) (hx : p.tables.exec = Jvm.exec) (hlocks : meth.locks = false) (hret : meth.sig.returnType = none) {pc : Nat} {Ls : Array Slot} (hd : decode c.code pc = .ok (.return_, 1))
    (hc : cells ≤ cl) (hs : slots ≤ sl) (hT : T.heap = h) (hq : Q none h locs) : own_Fin p e below s Q cl sl T (mkF m pc Ls []) := by
  subst hT
  obtain ⟨fs, hr, hrun, hended, hW, hsame⟩ := X.leave (v := none) (fun _ => rfl)
  exact ⟨_, _, X.returnOut hx hret hd hr, hrun, hended, _, _, rfl, hq, ⟨_, rfl⟩, hW, hsame.mono hc hs⟩
theorem own_retR (X : Stand p l e R s m args below meth c T locs cells slots) (hx : p.tables.exec = Jvm.exec) (hlocks : meth.locks = false) {t : FieldType} (hret : meth.sig.returnType = some t) (ht : t.isReference = true) {pc : Nat} {Ls : Array Slot} {z : Value} (hz : z.isRef = true) (hd : decode c.code pc = .ok (.areturn, 1))
    (hc : cells ≤ cl) (hs : slots ≤ sl) (hT : T.heap = h) (hq : Q (some z) h locs) : own_Fin p e below s Q cl sl T (mkF m pc Ls [z]) := by
  subst hT
  obtain ⟨fs, hr, hrun, hended, hW, hsame⟩ := X.leave (v := some z) (fun h => by rw [hret] at h; cases h)
  refine ⟨_, _, ?_, hrun, hended, _, _, rfl, hq, ⟨_, rfl⟩, hW, hsame.mono hc hs⟩
  have hm' : T.vm.method? m = some meth := X.method'
  jvm_step X.here [X.here.top, hx, hd, hm', hret, ht, hz]
  first | (intro acts; rw [hr _ acts rfl rfl rfl]) | rw [hr _ _ rfl rfl rfl]
  exact Steps.refl _
/-! comparisons, said over Int -/
theorem own_cl {x y : Int32} {a b : Int} (ha : x.toInt = a) (hb : y.toInt = b) (h : a < b) : if_icmp.holds .lt x y = true ∧ if_icmp.holds .ge x y = false ∧ if_icmp.holds .gt y x = true ∧ if_icmp.holds .le y x = false := tlt (by rw [Int32.lt_iff_toInt_lt, ha, hb]; exact h)
theorem own_cn {x y : Int32} {a b : Int} (ha : x.toInt = a) (hb : y.toInt = b) (h : ¬ a < b) : if_icmp.holds .lt x y = false ∧ if_icmp.holds .ge x y = true ∧ if_icmp.holds .gt y x = false ∧ if_icmp.holds .le y x = true := flt (by rw [Int32.lt_iff_toInt_lt, ha, hb]; exact h)
theorem own_ce {x y : Int32} {a b : Int} (ha : x.toInt = a) (hb : y.toInt = b) (h : a = b) : if_icmp.holds .eq x y = true ∧ if_icmp.holds .ne x y = false := teq (by rw [← Int32.toInt_inj, ha, hb]; exact h)
theorem own_cu {x y : Int32} {a b : Int} (ha : x.toInt = a) (hb : y.toInt = b) (h : ¬ a = b) : if_icmp.holds .eq x y = false ∧ if_icmp.holds .ne x y = true := feq (by rw [← Int32.toInt_inj, ha, hb]; exact h)
theorem own_ll {x y : Int64} {a b : Int} (ha : x.toInt = a) (hb : y.toInt = b) (h : a < b) : ifCond.holds .lt (lcmpW x y) = true ∧ ifCond.holds .ge (lcmpW x y) = false ∧ ifCond.holds .gt (lcmpW y x) = true ∧ ifCond.holds .le (lcmpW y x) = false := by
  have q : x < y := by rw [Int64.lt_iff_toInt_lt, ha, hb]; exact h
  have h1 := tlt ((lw_lt x y).mpr q)
  have h2 := tlt ((lw_gt y x).mpr q)
  exact ⟨(if0 _ _).trans h1.1, (if0 _ _).trans h1.2.1, (if0 _ _).trans h2.2.2.1, (if0 _ _).trans h2.2.2.2⟩
theorem own_ln {x y : Int64} {a b : Int} (ha : x.toInt = a) (hb : y.toInt = b) (h : ¬ a < b) : ifCond.holds .lt (lcmpW x y) = false ∧ ifCond.holds .ge (lcmpW x y) = true ∧ ifCond.holds .gt (lcmpW y x) = false ∧ ifCond.holds .le (lcmpW y x) = true := by
  have q : ¬ x < y := by rw [Int64.lt_iff_toInt_lt, ha, hb]; exact h
  have h1 := flt (fun r => q ((lw_lt x y).mp r))
  have h2 := flt (fun r => q ((lw_gt y x).mp r))
  exact ⟨(if0 _ _).trans h1.1, (if0 _ _).trans h1.2.1, (if0 _ _).trans h2.2.2.1, (if0 _ _).trans h2.2.2.2⟩
theorem own_le {x y : Int64} {a b : Int} (ha : x.toInt = a) (hb : y.toInt = b) (h : a = b) : ifCond.holds .eq (lcmpW x y) = true ∧ ifCond.holds .ne (lcmpW x y) = false := by
  have q : x = y := by rw [← Int64.toInt_inj, ha, hb]; exact h
  have h1 := teq ((lw_eq x y).mpr q)
  exact ⟨(if0 _ _).trans h1.1, (if0 _ _).trans h1.2⟩
theorem own_lu {x y : Int64} {a b : Int} (ha : x.toInt = a) (hb : y.toInt = b) (h : ¬ a = b) : ifCond.holds .eq (lcmpW x y) = false ∧ ifCond.holds .ne (lcmpW x y) = true := by
  have q : ¬ x = y := by rw [← Int64.toInt_inj, ha, hb]; exact h
  have h1 := feq (fun r => q ((lw_eq x y).mp r))
  exact ⟨(if0 _ _).trans h1.1, (if0 _ _).trans h1.2⟩
/-! a boolean as an int -/
abbrev own_B (r : Int32) (P : Prop) : Prop := (r.toInt = 1 ∧ P) ∨ (r.toInt = 0 ∧ ¬ P)
theorem own_B1 {P : Prop} (h : P) : own_B 1 P := Or.inl ⟨rfl, h⟩
theorem own_B0 {P : Prop} (h : ¬ P) : own_B 0 P := Or.inr ⟨rfl, h⟩
theorem own_B.lit {r : Int32} {P : Prop} (H : own_B r P) : (r = 1 ∧ P) ∨ (r = 0 ∧ ¬ P) := by
  rcases H with ⟨q, h⟩ | ⟨q, h⟩
  · exact Or.inl ⟨Int32.toInt_inj.mp q, h⟩
  · exact Or.inr ⟨Int32.toInt_inj.mp q, h⟩
/-! arrays: their length and what each place holds -/
def own_A (Z : State) (h : Heap) (a : Addr) (ty : FieldType) (n : Nat) (f : Nat → Value) : Prop := ∃ c : Cell, Arr Z h a c ty ∧ c.slots.size = n ∧ ∀ i, i < n → c.slots[i]? = some (f i)
def own_AI (Z : State) (h : Heap) (a : Addr) (ty : FieldType) (n : Nat) (f : Nat → Int32) : Prop := own_A Z h a ty n (fun i => .int (f i))
def own_AJ (Z : State) (h : Heap) (a : Addr) (n : Nat) (f : Nat → Int64) : Prop := own_A Z h a .long n (fun i => .long (f i))
variable {ty : FieldType} {n : Nat} {fv : Nat → Value} {fi : Nat → Int32} {fj : Nat → Int64}
theorem own_A.lt (F : own_A Z h a ty n fv) : a < h.size := by obtain ⟨c, A, -⟩ := F; exact A.lt
theorem own_A.ext (F : own_A Z h a ty n fv) (E : Ext h h') : own_A Z h' a ty n fv := by obtain ⟨c, A, r⟩ := F; exact ⟨c, A.ext E, r⟩
theorem own_A.other {sl : Nat} {v : Value} (F : own_A Z h a ty n fv) (W : Wr h h' b sl v) (q : a ≠ b) : own_A Z h' a ty n fv := by obtain ⟨c, A, r⟩ := F; exact ⟨c, A.other W q, r⟩
theorem own_A.keep {ws : List Addr} (F : own_A Z h a ty n fv) (K : Keep h h' ws) (q : a ∉ ws) : own_A Z h' a ty n fv := by obtain ⟨c, A, r⟩ := F; exact ⟨c, ⟨K.2.1 a c A.1 q, A.2⟩, r⟩
theorem own_A.congr {gv : Nat → Value} (F : own_A Z h a ty n fv) (q : ∀ i, i < n → fv i = gv i) : own_A Z h a ty n gv := by obtain ⟨c, A, r, t⟩ := F; exact ⟨c, A, r, fun i hi => by rw [t i hi, q i hi]⟩
theorem own_A.set {j : Nat} {v : Value} (F : own_A Z h a ty n fv) (W : Wr h h' a j v) : own_A Z h' a ty n (fun i => if i = j then v else fv i) := by
  obtain ⟨c, A, r, t⟩ := F
  have W0 := W
  obtain ⟨c2, h1, -, h3, -⟩ := W0
  have ec : c2 = c := Option.some.inj (h1.symm.trans A.1)
  subst ec
  refine ⟨_, A.same W, by rw [sz_set]; exact r, fun i hi => ?_⟩
  by_cases q : i = j
  · subst q; simp [Cell.setSlot, h3]
  · simp only [q, if_false]; rw [← t i hi]; simp only [Cell.setSlot]; exact Array.getElem?_setIfInBounds_ne fun z => q z.symm
theorem own_A.new {k : ClassId} {z : Int32} (A : Arr Z h a (newA k ty z) ty) (q : z.toNatClampNeg = n) : own_A Z h a ty n (fun _ => defaultValue ty) := by
  subst q
  exact ⟨_, A, sz_new _ _ _, fun i hi => by simp [newA, hi]⟩
theorem own_AI.lt (F : own_AI Z h a ty n fi) : a < h.size := own_A.lt F
theorem own_AI.ext (F : own_AI Z h a ty n fi) (E : Ext h h') : own_AI Z h' a ty n fi := own_A.ext F E
theorem own_AI.other {sl : Nat} {v : Value} (F : own_AI Z h a ty n fi) (W : Wr h h' b sl v) (q : a ≠ b) : own_AI Z h' a ty n fi := own_A.other F W q
theorem own_AI.keep {ws : List Addr} (F : own_AI Z h a ty n fi) (K : Keep h h' ws) (q : a ∉ ws) : own_AI Z h' a ty n fi := own_A.keep F K q
theorem own_AI.congr {gi : Nat → Int32} (F : own_AI Z h a ty n fi) (q : ∀ i, i < n → fi i = gi i) : own_AI Z h a ty n gi := own_A.congr F fun i hi => by rw [q i hi]
theorem own_AI.set {j : Nat} {x : Int32} (F : own_AI Z h a ty n fi) (W : Wr h h' a j (.int x)) : own_AI Z h' a ty n (fun i => if i = j then x else fi i) := (own_A.set F W).congr fun i _ => by by_cases q : i = j <;> simp [q]
theorem own_AI.newI {k : ClassId} {z : Int32} (A : Arr Z h a (newA k .int z) .int) (q : z.toNatClampNeg = n) : own_AI Z h a .int n (fun _ => 0) := own_A.new A q
theorem own_AI.newB {k : ClassId} {z : Int32} (A : Arr Z h a (newA k .byte z) .byte) (q : z.toNatClampNeg = n) : own_AI Z h a .byte n (fun _ => 0) := own_A.new A q
theorem own_AJ.lt (F : own_AJ Z h a n fj) : a < h.size := own_A.lt F
theorem own_AJ.ext (F : own_AJ Z h a n fj) (E : Ext h h') : own_AJ Z h' a n fj := own_A.ext F E
theorem own_AJ.other {sl : Nat} {v : Value} (F : own_AJ Z h a n fj) (W : Wr h h' b sl v) (q : a ≠ b) : own_AJ Z h' a n fj := own_A.other F W q
theorem own_AJ.keep {ws : List Addr} (F : own_AJ Z h a n fj) (K : Keep h h' ws) (q : a ∉ ws) : own_AJ Z h' a n fj := own_A.keep F K q
theorem own_AJ.congr {gj : Nat → Int64} (F : own_AJ Z h a n fj) (q : ∀ i, i < n → fj i = gj i) : own_AJ Z h a n gj := own_A.congr F fun i hi => by rw [q i hi]
theorem own_AJ.set {j : Nat} {x : Int64} (F : own_AJ Z h a n fj) (W : Wr h h' a j (.long x)) : own_AJ Z h' a n (fun i => if i = j then x else fj i) := (own_A.set F W).congr fun i _ => by by_cases q : i = j <;> simp [q]
theorem own_AJ.new {k : ClassId} {z : Int32} (A : Arr Z h a (newA k .long z) .long) (q : z.toNatClampNeg = n) : own_AJ Z h a n (fun _ => 0) := own_A.new A q
theorem own_in {j : Int32} {k n : Nat} (hj : j.toInt = (k : Int)) (hk : k < n) : j.toNatClampNeg = k ∧ ¬ (j < 0 ∨ n ≤ j.toNatClampNeg) := by
  have q : j.toNatClampNeg = k := by simp only [Int32.toNatClampNeg, hj]; omega
  refine ⟨q, fun z => ?_⟩
  rcases z with z | z
  · rw [Int32.lt_iff_toInt_lt, hj] at z
    have : (0 : Int32).toInt = 0 := rfl
    omega
  · omega
theorem own_iaload (X : Stand p l e R s m args below meth c T locs cells slots) (hx : p.tables.exec = Jvm.exec) (hZ : Z.Warmed39 s.vm) (eT : T.heap = h) (F : own_AI Z h a .int n fi) {j : Int32} {k : Nat} (hj : j.toInt = (k : Int)) (hk : k < n) {v : Int32} (hv : fi k = v) {pc pc' : Nat} {Ls : Array Slot} {rest : List Value}
    (hd : decode c.code pc = .ok (.iaload, 1)) (hp : pc + 1 = pc') (r : own_Fin p e below s Q cl sl T (mkF m pc' Ls (.int v :: rest))) : own_Fin p e below s Q cl sl T (mkF m pc Ls (.int j :: .ref a :: rest)) := by
  obtain ⟨cc, A, h1, h2⟩ := F
  obtain ⟨q1, q2⟩ := own_in hj hk
  subst hp hv
  exact own_step (fun t k' => X.iaload hx (j := j) (v := .int (fi k)) (by rw [eT]; exact A.1) (State.isArrayOf_alike hZ.alike A.2.1) A.2.2 (by rw [h1]; exact q2) (by rw [q1]; exact h2 k hk) (g := mkF m pc Ls (.int j :: .ref a :: rest)) rfl rfl hd _ k') r
theorem own_baload (X : Stand p l e R s m args below meth c T locs cells slots) (hx : p.tables.exec = Jvm.exec) (hZ : Z.Warmed39 s.vm) (eT : T.heap = h) (F : own_AI Z h a .byte n fi) {j : Int32} {k : Nat} (hj : j.toInt = (k : Int)) (hk : k < n) {v : Int32} (hv : fi k = v) {pc pc' : Nat} {Ls : Array Slot} {rest : List Value}
    (hd : decode c.code pc = .ok (.baload, 1)) (hp : pc + 1 = pc') (r : own_Fin p e below s Q cl sl T (mkF m pc' Ls (.int v :: rest))) : own_Fin p e below s Q cl sl T (mkF m pc Ls (.int j :: .ref a :: rest)) := by
  obtain ⟨cc, A, h1, h2⟩ := F
  obtain ⟨q1, q2⟩ := own_in hj hk
  subst hp hv
  exact own_step (fun t k' => X.baloadBytes hx (j := j) (v := .int (fi k)) (by rw [eT]; exact A.1) (State.isArrayOf_alike hZ.alike A.2.1) A.2.2 (by rw [h1]; exact q2) (by rw [q1]; exact h2 k hk) (g := mkF m pc Ls (.int j :: .ref a :: rest)) rfl rfl hd _ k') r
theorem own_laload (X : Stand p l e R s m args below meth c T locs cells slots) (hx : p.tables.exec = Jvm.exec) (hZ : Z.Warmed39 s.vm) (eT : T.heap = h) (F : own_AJ Z h a n fj) {j : Int32} {k : Nat} (hj : j.toInt = (k : Int)) (hk : k < n) {v : Int64} (hv : fj k = v) {pc pc' : Nat} {Ls : Array Slot} {rest : List Value}
    (hd : decode c.code pc = .ok (.laload, 1)) (hp : pc + 1 = pc') (r : own_Fin p e below s Q cl sl T (mkF m pc' Ls (.long v :: rest))) : own_Fin p e below s Q cl sl T (mkF m pc Ls (.int j :: .ref a :: rest)) := by
  obtain ⟨cc, A, h1, h2⟩ := F
  obtain ⟨q1, q2⟩ := own_in hj hk
  subst hp hv
  exact own_step (fun t k' => X.laload hx (j := j) (v := .long (fj k)) (by rw [eT]; exact A.1) (State.isArrayOf_alike hZ.alike A.2.1) A.2.2 (by rw [h1]; exact q2) (by rw [q1]; exact h2 k hk) (g := mkF m pc Ls (.int j :: .ref a :: rest)) rfl rfl hd _ k') r
theorem own_arrlen (X : Stand p l e R s m args below meth c T locs cells slots) (hx : p.tables.exec = Jvm.exec) (hZ : Z.Warmed39 s.vm) (eT : T.heap = h) (F : own_A Z h a ty n fv) {z : Int32} (hz : n.toInt32 = z) {pc pc' : Nat} {Ls : Array Slot} {rest : List Value}
    (hd : decode c.code pc = .ok (.arraylength, 1)) (hp : pc + 1 = pc') (r : own_Fin p e below s Q cl sl T (mkF m pc' Ls (.int z :: rest))) : own_Fin p e below s Q cl sl T (mkF m pc Ls (.ref a :: rest)) := by
  obtain ⟨cc, A, h1, h2⟩ := F
  subst hp hz
  exact own_step (fun t k' => X.arraylength hx (by rw [eT]; exact A.1) (State.isArrayOf_alike hZ.alike A.2.1) (g := mkF m pc Ls (.ref a :: rest)) rfl rfl hd _ (by rw [h1]; exact k')) r
theorem own_iastore (X : Stand p l e R s m args below meth c T locs cells slots) (hx : p.tables.exec = Jvm.exec) (hZ : Z.Warmed39 s.vm) (eT : T.heap = h) (F : own_AI Z h a .int n fi) {j : Int32} {k : Nat} (hj : j.toInt = (k : Int)) (hk : k < n) {x : Int32} {pc pc' : Nat} {Ls : Array Slot} {rest : List Value}
    (hd : decode c.code pc = .ok (.iastore, 1)) (hp : pc + 1 = pc') :
    ∃ T' h', Stand p l e R s m args below meth c T' (locs ++ [⟨a, k⟩]) cells slots ∧ T'.heap = h' ∧ Wr h h' a k (.int x) ∧ own_AI Z h' a .int n (fun i => if i = k then x else fi i) ∧ ∀ t, Steps p.tables e below (T'.setTop (mkF m pc' Ls rest)) t → Steps p.tables e below (T.setTop (mkF m pc Ls (.int x :: .int j :: .ref a :: rest))) t := by
  obtain ⟨q1, q2⟩ := own_in hj hk
  have F' := F
  obtain ⟨cc, A, h1, h2⟩ := F
  subst hp q1
  obtain ⟨T', h', X', e', W', st⟩ := stI X hx hZ eT A (j := j) (x := x) (by rw [h1]; exact q2) (g := mkF m pc Ls (.int x :: .int j :: .ref a :: rest)) rfl rfl hd
  exact ⟨T', h', X', e', W', F'.set W', st⟩
theorem own_bastore (X : Stand p l e R s m args below meth c T locs cells slots) (hx : p.tables.exec = Jvm.exec) (hZ : Z.Warmed39 s.vm) (eT : T.heap = h) (F : own_AI Z h a .byte n fi) {j : Int32} {k : Nat} (hj : j.toInt = (k : Int)) (hk : k < n) {x y : Int32} (hn : nar .byte x = y) {pc pc' : Nat} {Ls : Array Slot} {rest : List Value}
    (hd : decode c.code pc = .ok (.bastore, 1)) (hp : pc + 1 = pc') :
    ∃ T' h', Stand p l e R s m args below meth c T' (locs ++ [⟨a, k⟩]) cells slots ∧ T'.heap = h' ∧ Wr h h' a k (.int y) ∧ own_AI Z h' a .byte n (fun i => if i = k then y else fi i) ∧ ∀ t, Steps p.tables e below (T'.setTop (mkF m pc' Ls rest)) t → Steps p.tables e below (T.setTop (mkF m pc Ls (.int x :: .int j :: .ref a :: rest))) t := by
  obtain ⟨q1, q2⟩ := own_in hj hk
  have F' := F
  obtain ⟨cc, A, h1, h2⟩ := F
  subst hp q1 hn
  obtain ⟨T', h', X', e', W', st⟩ := stB X hx hZ eT A (j := j) (x := x) (by rw [h1]; exact q2) (g := mkF m pc Ls (.int x :: .int j :: .ref a :: rest)) rfl rfl hd
  exact ⟨T', h', X', e', W', F'.set W', st⟩
theorem own_lastore (X : Stand p l e R s m args below meth c T locs cells slots) (hx : p.tables.exec = Jvm.exec) (hZ : Z.Warmed39 s.vm) (eT : T.heap = h) (F : own_AJ Z h a n fj) {j : Int32} {k : Nat} (hj : j.toInt = (k : Int)) (hk : k < n) {x : Int64} {pc pc' : Nat} {Ls : Array Slot} {rest : List Value}
    (hd : decode c.code pc = .ok (.lastore, 1)) (hp : pc + 1 = pc') :
    ∃ T' h', Stand p l e R s m args below meth c T' (locs ++ [⟨a, k⟩]) cells slots ∧ T'.heap = h' ∧ Wr h h' a k (.long x) ∧ own_AJ Z h' a n (fun i => if i = k then x else fj i) ∧ ∀ t, Steps p.tables e below (T'.setTop (mkF m pc' Ls rest)) t → Steps p.tables e below (T.setTop (mkF m pc Ls (.long x :: .int j :: .ref a :: rest))) t := by
  obtain ⟨q1, q2⟩ := own_in hj hk
  have F' := F
  obtain ⟨cc, A, h1, h2⟩ := F
  subst hp q1
  obtain ⟨T', h', X', e', W', st⟩ := stJ X hx hZ eT A (j := j) (x := x) (by rw [h1]; exact q2) (g := mkF m pc Ls (.long x :: .int j :: .ref a :: rest)) rfl rfl hd
  exact ⟨T', h', X', e', W', F'.set W', st⟩
theorem own_nar8 (x : Int32) : nar .byte x.toInt8.toInt32 = x.toInt8.toInt32 := by
  show (x.toInt8.toInt32).toInt8.toInt32 = x.toInt8.toInt32
  simp
end OwnKit
theorem own_five {i : Nat} (h : i < 5) : i = 0 ∨ i = 1 ∨ i = 2 ∨ i = 3 ∨ i = 4 := by omega
def own_swF (b : Int64) (f g : Nat → Int64) (i : Nat) : Int64 := f i ^^^ ((-b) &&& (f i ^^^ g i))
def own_swG (b : Int64) (f g : Nat → Int64) (i : Nat) : Int64 := g i ^^^ ((-b) &&& (f i ^^^ g i))
theorem own_one {b : Int64} (h : b.toInt = 1) (z : Int64) : (-b) &&& z = z := by
  have e : b = 1 := Int64.toInt_inj.mp h
  subst e
  apply Int64.toBitVec_inj.mp
  show (-(1#64)) &&& z.toBitVec = z.toBitVec
  rw [show (-(1#64)) = BitVec.allOnes 64 from by decide]
  exact BitVec.allOnes_and
theorem own_zero {b : Int64} (h : b.toInt = 0) (z : Int64) : (-b) &&& z = 0 := by
  have e : b = 0 := Int64.toInt_inj.mp h
  subst e
  apply Int64.toBitVec_inj.mp
  show (-(0#64)) &&& z.toBitVec = 0#64
  simp
theorem own_x1 (x y : Int64) : x ^^^ (x ^^^ y) = y := by rw [← Int64.xor_assoc, Int64.xor_self, Int64.zero_xor]
theorem own_x2 (x y : Int64) : y ^^^ (x ^^^ y) = x := by rw [Int64.xor_comm x y, ← Int64.xor_assoc, Int64.xor_self, Int64.zero_xor]
theorem own_F1 {b : Int64} (h : b.toInt = 1) (f g : Nat → Int64) (i : Nat) : own_swF b f g i = g i := by rw [own_swF, own_one h, own_x1]
theorem own_G1 {b : Int64} (h : b.toInt = 1) (f g : Nat → Int64) (i : Nat) : own_swG b f g i = f i := by rw [own_swG, own_one h, own_x2]
theorem own_F0 {b : Int64} (h : b.toInt = 0) (f g : Nat → Int64) (i : Nat) : own_swF b f g i = f i := by rw [own_swF, own_zero h, Int64.xor_zero]
theorem own_G0 {b : Int64} (h : b.toInt = 0) (f g : Nat → Int64) (i : Nat) : own_swG b f g i = g i := by rw [own_swG, own_zero h, Int64.xor_zero]
theorem own_bit (flag : Int32) (b : Int64) (h : (flag &&& (1 : Int32)).toInt64 = b) : b.toInt = 0 ∨ b.toInt = 1 := by
  have q := c_mask flag 1 1 (by decide) (by decide)
  rw [← h, c_i2l]
  omega
theorem d1_0 : decode prog_33_method_16_code 0 = .ok (.lload_n 2, 1) := by decide +kernel
theorem d1_1 : decode prog_33_method_16_code 1 = .ok (.lneg, 1) := by decide +kernel
theorem d1_2 : decode prog_33_method_16_code 2 = .ok (.lstore 4, 2) := by decide +kernel
theorem d1_4 : decode prog_33_method_16_code 4 = .ok (.iconst 0, 1) := by decide +kernel
theorem d1_5 : decode prog_33_method_16_code 5 = .ok (.istore 6, 2) := by decide +kernel
theorem d1_7 : decode prog_33_method_16_code 7 = .ok (.iload 6, 2) := by decide +kernel
theorem d1_9 : decode prog_33_method_16_code 9 = .ok (.iconst 5, 1) := by decide +kernel
theorem d1_10 : decode prog_33_method_16_code 10 = .ok (.if_icmp .ge 41, 3) := by decide +kernel
theorem d1_13 : decode prog_33_method_16_code 13 = .ok (.lload 4, 2) := by decide +kernel
theorem d1_15 : decode prog_33_method_16_code 15 = .ok (.aload_n 0, 1) := by decide +kernel
theorem d1_16 : decode prog_33_method_16_code 16 = .ok (.iload 6, 2) := by decide +kernel
theorem d1_18 : decode prog_33_method_16_code 18 = .ok (.laload, 1) := by decide +kernel
theorem d1_19 : decode prog_33_method_16_code 19 = .ok (.aload_n 1, 1) := by decide +kernel
theorem d1_20 : decode prog_33_method_16_code 20 = .ok (.iload 6, 2) := by decide +kernel
theorem d1_22 : decode prog_33_method_16_code 22 = .ok (.laload, 1) := by decide +kernel
theorem d1_23 : decode prog_33_method_16_code 23 = .ok (.lxor, 1) := by decide +kernel
theorem d1_24 : decode prog_33_method_16_code 24 = .ok (.land, 1) := by decide +kernel
theorem d1_25 : decode prog_33_method_16_code 25 = .ok (.lstore 7, 2) := by decide +kernel
theorem d1_27 : decode prog_33_method_16_code 27 = .ok (.aload_n 0, 1) := by decide +kernel
theorem d1_28 : decode prog_33_method_16_code 28 = .ok (.iload 6, 2) := by decide +kernel
theorem d1_30 : decode prog_33_method_16_code 30 = .ok (.dup2, 1) := by decide +kernel
theorem d1_31 : decode prog_33_method_16_code 31 = .ok (.laload, 1) := by decide +kernel
theorem d1_32 : decode prog_33_method_16_code 32 = .ok (.lload 7, 2) := by decide +kernel
theorem d1_34 : decode prog_33_method_16_code 34 = .ok (.lxor, 1) := by decide +kernel
theorem d1_35 : decode prog_33_method_16_code 35 = .ok (.lastore, 1) := by decide +kernel
theorem d1_36 : decode prog_33_method_16_code 36 = .ok (.aload_n 1, 1) := by decide +kernel
theorem d1_37 : decode prog_33_method_16_code 37 = .ok (.iload 6, 2) := by decide +kernel
theorem d1_39 : decode prog_33_method_16_code 39 = .ok (.dup2, 1) := by decide +kernel
theorem d1_40 : decode prog_33_method_16_code 40 = .ok (.laload, 1) := by decide +kernel
theorem d1_41 : decode prog_33_method_16_code 41 = .ok (.lload 7, 2) := by decide +kernel
theorem d1_43 : decode prog_33_method_16_code 43 = .ok (.lxor, 1) := by decide +kernel
theorem d1_44 : decode prog_33_method_16_code 44 = .ok (.lastore, 1) := by decide +kernel
theorem d1_45 : decode prog_33_method_16_code 45 = .ok (.iinc 6 1, 3) := by decide +kernel
theorem d1_48 : decode prog_33_method_16_code 48 = .ok (.goto (-41), 3) := by decide +kernel
theorem d1_51 : decode prog_33_method_16_code 51 = .ok (.return_, 1) := by decide +kernel
theorem own_pn_1 : plainName "com/example/quietwire/quietwire/Field25519" = true := by first | (simp [plainName, overriddenIn]; done) | decide +kernel
theorem own_ef_1 (m : MethodId) (a1 : Addr) (a2 : Addr) (q3 : Int64) : entryFrame m #[(.ref a1), (.ref a2), (.long q3)] 9 = mkF m 0 #[.val (.ref a1), .val (.ref a2), .val (.long q3), .second, .unset, .unset, .unset, .unset, .unset] [] := by first | (simp [entryFrame, mkF, argsToLocals, Value.category]; done) | rfl
abbrev own_R1 : Room := { frames := 0, cells := 0, slots := 0, locals := 0 }
def own_Q1 (Z : State) (a1 : Addr) (a2 : Addr) (q3 : Int64) (f1 : Nat → Int64) (f2 : Nat → Int64) (h0 : Heap) (n0 : Nat) (v : Option Value) (h : Heap) (L : List Loc) : Prop := v = none ∧ Fr n0 L ∧ Keep h0 h [a1, a2] ∧ own_AJ Z h a1 5 (own_swF q3 f1 f2) ∧ own_AJ Z h a2 5 (own_swG q3 f1 f2)
set_option maxRecDepth 65536 in
set_option maxHeartbeats 40000000 in
theorem rm1 (l : Launch) (Z : State) (a0 : Array Value) (hw : ∀ d ∈ tables_1, d.before a0 Z = true) (ws : List Jvm.Cond) (a1 : Addr) (a2 : Addr) (q3 : Int64) (f1 : Nat → Int64) (f2 : Nat → Int64) (h0 : Heap) (n0 : Nat) (Z0 : n0 ≤ h0.size) (V_a1 : own_AJ Z h0 a1 5 f1) (V_a2 : own_AJ Z h0 a2 5 f2) (g_a1 : n0 ≤ a1) (g_a2 : n0 ≤ a2) (hne : a1 ≠ a2) :
    MetFree l (⟨"com/example/quietwire/quietwire/Field25519", "swap", "([J[JJ)V"⟩ : MethodName) (head1 (Jvm.Cond.code (⟨"com/example/quietwire/quietwire/Field25519", "swap", "([J[JJ)V"⟩ : MethodName) prog_33_method_16_code 9 none :: ws) own_R1) (fun a U => a = #[(.ref a1), (.ref a2), (.long q3)] ∧ Z.Warmed39 U.vm ∧ U.heap = h0) (fun _ _ _ _ _ => True) (fun _ U o U' => ∃ v L, o = .returned v ∧ own_Q1 Z a1 a2 q3 f1 f2 h0 n0 v U'.heap L ∧ FrameEnd U o U' L own_R1.cells own_R1.slots) := by
  refine MetFree.of_bodySF (plainFor_of_name own_pn_1) hisR ?_
  intro p e s m args below meth c s₁ Bd hml0 hP hK
  obtain ⟨rfl, hZ, hh⟩ := hP
  have hx := Bd.exec
  have hby := Bd.bytes
  have hlk := BodyLoose.notSynchronized Bd
  have hml : c.maxLocals = 9 := hml0
  have hown : s.vm.findClass "com/example/quietwire/quietwire/Field25519" = some m.cls := (findClass_of_methodNamed Bd.named : s.vm.findClass (⟨"com/example/quietwire/quietwire/Field25519", "swap", "([J[JJ)V"⟩ : MethodName).cls = some m.cls)
  have hnm := (name_of_methodNamed Bd.named Bd.method).1
  have X0 : Stand p l e own_R1 s m #[(.ref a1), (.ref a2), (.long q3)] below meth c s₁ [] 0 0 := Stand.of_body Bd
  have e0 : s₁.heap = h0 := by rw [← hh, Bd.state]; rfl
  have Nf := Fr.nil n0
  have Zs := Z0
  have K : Keep h0 h0 [a1, a2] := Keep.refl _ _
  show own_Fin p e below s (own_Q1 Z a1 a2 q3 f1 f2 h0 n0) 0 0 s₁ (entryFrame m #[(.ref a1), (.ref a2), (.long q3)] 9)
  rw [own_ef_1 m a1 a2 q3]
  show own_Fin _ _ _ _ _ _ _ _ (mkF m 0 #[.val (.ref a1), .val (.ref a2), .val (.long q3), .second, .unset, .unset, .unset, .unset, .unset] [])
  refine own_step (fun t k => XS.lloadN X0.here hx rfl (hb hby d1_0) rfl k) ?_
  show own_Fin _ _ _ _ _ _ _ _ (mkF m 1 #[.val (.ref a1), .val (.ref a2), .val (.long q3), .second, .unset, .unset, .unset, .unset, .unset] [(.long q3)])
  refine own_step (fun t k => XS.lneg X0.here hx rfl (hb hby d1_1) rfl k) ?_
  show own_Fin _ _ _ _ _ _ _ _ (mkF m 2 #[.val (.ref a1), .val (.ref a2), .val (.long q3), .second, .unset, .unset, .unset, .unset, .unset] [(.long (-q3))])
  refine own_step (fun t k => XS.lstore X0.here hx rfl (hb hby d1_2) rfl (l' := #[.val (.ref a1), .val (.ref a2), .val (.long q3), .second, .val (.long (-q3)), .second, .unset, .unset, .unset]) rfl k) ?_
  show own_Fin _ _ _ _ _ _ _ _ (mkF m 4 #[.val (.ref a1), .val (.ref a2), .val (.long q3), .second, .val (.long (-q3)), .second, .unset, .unset, .unset] [])
  refine own_step (fun t k => XS.iconst X0.here hx rfl (hb hby d1_4) k) ?_
  show own_Fin _ _ _ _ _ _ _ _ (mkF m 5 #[.val (.ref a1), .val (.ref a2), .val (.long q3), .second, .val (.long (-q3)), .second, .unset, .unset, .unset] [(.int (0 : Int32))])
  refine own_step (fun t k => XS.istore X0.here hx rfl (hb hby d1_5) rfl (l' := #[.val (.ref a1), .val (.ref a2), .val (.long q3), .second, .val (.long (-q3)), .second, .val (.int (0 : Int32)), .unset, .unset]) rfl k) ?_
  show own_Fin _ _ _ _ _ _ _ _ (mkF m 7 #[.val (.ref a1), .val (.ref a2), .val (.long q3), .second, .val (.long (-q3)), .second, .val (.int (0 : Int32)), .unset, .unset] [])
  refine own_step (fun t k => XS.iload X0.here hx rfl (hb hby d1_7) rfl k) ?_
  show own_Fin _ _ _ _ _ _ _ _ (mkF m 9 #[.val (.ref a1), .val (.ref a2), .val (.long q3), .second, .val (.long (-q3)), .second, .val (.int (0 : Int32)), .unset, .unset] [(.int (0 : Int32))])
  refine own_step (fun t k => XS.iconst X0.here hx rfl (hb hby d1_9) k) ?_
  show own_Fin _ _ _ _ _ _ _ _ (mkF m 10 #[.val (.ref a1), .val (.ref a2), .val (.long q3), .second, .val (.long (-q3)), .second, .val (.int (0 : Int32)), .unset, .unset] [(.int (5 : Int32)), (.int (0 : Int32))])
  refine own_step (fun t k => XS.icmpNo X0.here hx rfl (hb hby d1_10) rfl (by decide) k) ?_
  show own_Fin _ _ _ _ _ _ _ _ (mkF m 13 #[.val (.ref a1), .val (.ref a2), .val (.long q3), .second, .val (.long (-q3)), .second, .val (.int (0 : Int32)), .unset, .unset] [])
  refine own_step (fun t k => XS.lload X0.here hx rfl (hb hby d1_13) rfl k) ?_
  show own_Fin _ _ _ _ _ _ _ _ (mkF m 15 #[.val (.ref a1), .val (.ref a2), .val (.long q3), .second, .val (.long (-q3)), .second, .val (.int (0 : Int32)), .unset, .unset] [(.long (-q3))])
  refine own_step (fun t k => XS.aloadN X0.here hx rfl (hb hby d1_15) rfl rfl k) ?_
  show own_Fin _ _ _ _ _ _ _ _ (mkF m 16 #[.val (.ref a1), .val (.ref a2), .val (.long q3), .second, .val (.long (-q3)), .second, .val (.int (0 : Int32)), .unset, .unset] [(.ref a1), (.long (-q3))])
  refine own_step (fun t k => XS.iload X0.here hx rfl (hb hby d1_16) rfl k) ?_
  show own_Fin _ _ _ _ _ _ _ _ (mkF m 18 #[.val (.ref a1), .val (.ref a2), .val (.long q3), .second, .val (.long (-q3)), .second, .val (.int (0 : Int32)), .unset, .unset] [(.int (0 : Int32)), (.ref a1), (.long (-q3))])
  refine own_laload X0 hx hZ e0 V_a1 (k := 0) rfl (by decide) (v := (f1 0)) rfl (hb hby d1_18) rfl ?_
  show own_Fin _ _ _ _ _ _ _ _ (mkF m 19 #[.val (.ref a1), .val (.ref a2), .val (.long q3), .second, .val (.long (-q3)), .second, .val (.int (0 : Int32)), .unset, .unset] [(.long (f1 0)), (.long (-q3))])
  refine own_step (fun t k => XS.aloadN X0.here hx rfl (hb hby d1_19) rfl rfl k) ?_
  show own_Fin _ _ _ _ _ _ _ _ (mkF m 20 #[.val (.ref a1), .val (.ref a2), .val (.long q3), .second, .val (.long (-q3)), .second, .val (.int (0 : Int32)), .unset, .unset] [(.ref a2), (.long (f1 0)), (.long (-q3))])
  refine own_step (fun t k => XS.iload X0.here hx rfl (hb hby d1_20) rfl k) ?_
  show own_Fin _ _ _ _ _ _ _ _ (mkF m 22 #[.val (.ref a1), .val (.ref a2), .val (.long q3), .second, .val (.long (-q3)), .second, .val (.int (0 : Int32)), .unset, .unset] [(.int (0 : Int32)), (.ref a2), (.long (f1 0)), (.long (-q3))])
  refine own_laload X0 hx hZ e0 V_a2 (k := 0) rfl (by decide) (v := (f2 0)) rfl (hb hby d1_22) rfl ?_
  show own_Fin _ _ _ _ _ _ _ _ (mkF m 23 #[.val (.ref a1), .val (.ref a2), .val (.long q3), .second, .val (.long (-q3)), .second, .val (.int (0 : Int32)), .unset, .unset] [(.long (f2 0)), (.long (f1 0)), (.long (-q3))])
  refine own_step (fun t k => XS.lxor X0.here hx rfl (hb hby d1_23) rfl k) ?_
  show own_Fin _ _ _ _ _ _ _ _ (mkF m 24 #[.val (.ref a1), .val (.ref a2), .val (.long q3), .second, .val (.long (-q3)), .second, .val (.int (0 : Int32)), .unset, .unset] [(.long ((f1 0) ^^^ (f2 0))), (.long (-q3))])
  refine own_step (fun t k => XS.land X0.here hx rfl (hb hby d1_24) rfl k) ?_
  show own_Fin _ _ _ _ _ _ _ _ (mkF m 25 #[.val (.ref a1), .val (.ref a2), .val (.long q3), .second, .val (.long (-q3)), .second, .val (.int (0 : Int32)), .unset, .unset] [(.long ((-q3) &&& ((f1 0) ^^^ (f2 0))))])
  refine own_step (fun t k => XS.lstore X0.here hx rfl (hb hby d1_25) rfl (l' := #[.val (.ref a1), .val (.ref a2), .val (.long q3), .second, .val (.long (-q3)), .second, .val (.int (0 : Int32)), .val (.long ((-q3) &&& ((f1 0) ^^^ (f2 0)))), .second]) rfl k) ?_
  show own_Fin _ _ _ _ _ _ _ _ (mkF m 27 #[.val (.ref a1), .val (.ref a2), .val (.long q3), .second, .val (.long (-q3)), .second, .val (.int (0 : Int32)), .val (.long ((-q3) &&& ((f1 0) ^^^ (f2 0)))), .second] [])
  refine own_step (fun t k => XS.aloadN X0.here hx rfl (hb hby d1_27) rfl rfl k) ?_
  show own_Fin _ _ _ _ _ _ _ _ (mkF m 28 #[.val (.ref a1), .val (.ref a2), .val (.long q3), .second, .val (.long (-q3)), .second, .val (.int (0 : Int32)), .val (.long ((-q3) &&& ((f1 0) ^^^ (f2 0)))), .second] [(.ref a1)])
  refine own_step (fun t k => XS.iload X0.here hx rfl (hb hby d1_28) rfl k) ?_
  show own_Fin _ _ _ _ _ _ _ _ (mkF m 30 #[.val (.ref a1), .val (.ref a2), .val (.long q3), .second, .val (.long (-q3)), .second, .val (.int (0 : Int32)), .val (.long ((-q3) &&& ((f1 0) ^^^ (f2 0)))), .second] [(.int (0 : Int32)), (.ref a1)])
  refine own_step (fun t k => XT.dup2 X0.here hx rfl (hb hby d1_30) rfl rfl rfl k) ?_
  show own_Fin _ _ _ _ _ _ _ _ (mkF m 31 #[.val (.ref a1), .val (.ref a2), .val (.long q3), .second, .val (.long (-q3)), .second, .val (.int (0 : Int32)), .val (.long ((-q3) &&& ((f1 0) ^^^ (f2 0)))), .second] [(.int (0 : Int32)), (.ref a1), (.int (0 : Int32)), (.ref a1)])
  refine own_laload X0 hx hZ e0 V_a1 (k := 0) rfl (by decide) (v := (f1 0)) rfl (hb hby d1_31) rfl ?_
  show own_Fin _ _ _ _ _ _ _ _ (mkF m 32 #[.val (.ref a1), .val (.ref a2), .val (.long q3), .second, .val (.long (-q3)), .second, .val (.int (0 : Int32)), .val (.long ((-q3) &&& ((f1 0) ^^^ (f2 0)))), .second] [(.long (f1 0)), (.int (0 : Int32)), (.ref a1)])
  refine own_step (fun t k => XS.lload X0.here hx rfl (hb hby d1_32) rfl k) ?_
  show own_Fin _ _ _ _ _ _ _ _ (mkF m 34 #[.val (.ref a1), .val (.ref a2), .val (.long q3), .second, .val (.long (-q3)), .second, .val (.int (0 : Int32)), .val (.long ((-q3) &&& ((f1 0) ^^^ (f2 0)))), .second] [(.long ((-q3) &&& ((f1 0) ^^^ (f2 0)))), (.long (f1 0)), (.int (0 : Int32)), (.ref a1)])
  refine own_step (fun t k => XS.lxor X0.here hx rfl (hb hby d1_34) rfl k) ?_
  show own_Fin _ _ _ _ _ _ _ _ (mkF m 35 #[.val (.ref a1), .val (.ref a2), .val (.long q3), .second, .val (.long (-q3)), .second, .val (.int (0 : Int32)), .val (.long ((-q3) &&& ((f1 0) ^^^ (f2 0)))), .second] [(.long ((f1 0) ^^^ ((-q3) &&& ((f1 0) ^^^ (f2 0))))), (.int (0 : Int32)), (.ref a1)])
  obtain ⟨T1, h1, X1, e1, W1, B1, st1⟩ := own_lastore X0 hx hZ e0 V_a1 (j := (0 : Int32)) (k := 0) rfl (by decide) (x := ((f1 0) ^^^ ((-q3) &&& ((f1 0) ^^^ (f2 0))))) (pc := 35) (Ls := #[.val (.ref a1), .val (.ref a2), .val (.long q3), .second, .val (.long (-q3)), .second, .val (.int (0 : Int32)), .val (.long ((-q3) &&& ((f1 0) ^^^ (f2 0)))), .second]) (rest := []) (hb hby d1_35) rfl
  refine own_step st1 ?_
  replace V_a2 := V_a2.other W1 (Ne.symm hne)
  replace Zs : n0 ≤ h1.size := by rw [W1.size]; exact Zs
  replace K := K.wr W1 (Or.inl (by simp))
  replace V_a1 := B1
  replace Nf := Fr.snoc X1 Nf g_a1
  show own_Fin _ _ _ _ _ _ _ _ (mkF m 36 #[.val (.ref a1), .val (.ref a2), .val (.long q3), .second, .val (.long (-q3)), .second, .val (.int (0 : Int32)), .val (.long ((-q3) &&& ((f1 0) ^^^ (f2 0)))), .second] [])
  refine own_step (fun t k => XS.aloadN X1.here hx rfl (hb hby d1_36) rfl rfl k) ?_
  show own_Fin _ _ _ _ _ _ _ _ (mkF m 37 #[.val (.ref a1), .val (.ref a2), .val (.long q3), .second, .val (.long (-q3)), .second, .val (.int (0 : Int32)), .val (.long ((-q3) &&& ((f1 0) ^^^ (f2 0)))), .second] [(.ref a2)])
  refine own_step (fun t k => XS.iload X1.here hx rfl (hb hby d1_37) rfl k) ?_
  show own_Fin _ _ _ _ _ _ _ _ (mkF m 39 #[.val (.ref a1), .val (.ref a2), .val (.long q3), .second, .val (.long (-q3)), .second, .val (.int (0 : Int32)), .val (.long ((-q3) &&& ((f1 0) ^^^ (f2 0)))), .second] [(.int (0 : Int32)), (.ref a2)])
  refine own_step (fun t k => XT.dup2 X1.here hx rfl (hb hby d1_39) rfl rfl rfl k) ?_
  show own_Fin _ _ _ _ _ _ _ _ (mkF m 40 #[.val (.ref a1), .val (.ref a2), .val (.long q3), .second, .val (.long (-q3)), .second, .val (.int (0 : Int32)), .val (.long ((-q3) &&& ((f1 0) ^^^ (f2 0)))), .second] [(.int (0 : Int32)), (.ref a2), (.int (0 : Int32)), (.ref a2)])
  refine own_laload X1 hx hZ e1 V_a2 (k := 0) rfl (by decide) (v := (f2 0)) rfl (hb hby d1_40) rfl ?_
  show own_Fin _ _ _ _ _ _ _ _ (mkF m 41 #[.val (.ref a1), .val (.ref a2), .val (.long q3), .second, .val (.long (-q3)), .second, .val (.int (0 : Int32)), .val (.long ((-q3) &&& ((f1 0) ^^^ (f2 0)))), .second] [(.long (f2 0)), (.int (0 : Int32)), (.ref a2)])
  refine own_step (fun t k => XS.lload X1.here hx rfl (hb hby d1_41) rfl k) ?_
  show own_Fin _ _ _ _ _ _ _ _ (mkF m 43 #[.val (.ref a1), .val (.ref a2), .val (.long q3), .second, .val (.long (-q3)), .second, .val (.int (0 : Int32)), .val (.long ((-q3) &&& ((f1 0) ^^^ (f2 0)))), .second] [(.long ((-q3) &&& ((f1 0) ^^^ (f2 0)))), (.long (f2 0)), (.int (0 : Int32)), (.ref a2)])
  refine own_step (fun t k => XS.lxor X1.here hx rfl (hb hby d1_43) rfl k) ?_
  show own_Fin _ _ _ _ _ _ _ _ (mkF m 44 #[.val (.ref a1), .val (.ref a2), .val (.long q3), .second, .val (.long (-q3)), .second, .val (.int (0 : Int32)), .val (.long ((-q3) &&& ((f1 0) ^^^ (f2 0)))), .second] [(.long ((f2 0) ^^^ ((-q3) &&& ((f1 0) ^^^ (f2 0))))), (.int (0 : Int32)), (.ref a2)])
  obtain ⟨T2, h2, X2, e2, W2, B2, st2⟩ := own_lastore X1 hx hZ e1 V_a2 (j := (0 : Int32)) (k := 0) rfl (by decide) (x := ((f2 0) ^^^ ((-q3) &&& ((f1 0) ^^^ (f2 0))))) (pc := 44) (Ls := #[.val (.ref a1), .val (.ref a2), .val (.long q3), .second, .val (.long (-q3)), .second, .val (.int (0 : Int32)), .val (.long ((-q3) &&& ((f1 0) ^^^ (f2 0)))), .second]) (rest := []) (hb hby d1_44) rfl
  refine own_step st2 ?_
  replace V_a1 := V_a1.other W2 hne
  replace Zs : n0 ≤ h2.size := by rw [W2.size]; exact Zs
  replace K := K.wr W2 (Or.inl (by simp))
  replace V_a2 := B2
  replace Nf := Fr.snoc X2 Nf g_a2
  show own_Fin _ _ _ _ _ _ _ _ (mkF m 45 #[.val (.ref a1), .val (.ref a2), .val (.long q3), .second, .val (.long (-q3)), .second, .val (.int (0 : Int32)), .val (.long ((-q3) &&& ((f1 0) ^^^ (f2 0)))), .second] [])
  refine own_step (fun t k => XS.iinc X2.here hx rfl (hb hby d1_45) rfl (l' := #[.val (.ref a1), .val (.ref a2), .val (.long q3), .second, .val (.long (-q3)), .second, .val (.int (1 : Int32)), .val (.long ((-q3) &&& ((f1 0) ^^^ (f2 0)))), .second]) rfl k) ?_
  show own_Fin _ _ _ _ _ _ _ _ (mkF m 48 #[.val (.ref a1), .val (.ref a2), .val (.long q3), .second, .val (.long (-q3)), .second, .val (.int (1 : Int32)), .val (.long ((-q3) &&& ((f1 0) ^^^ (f2 0)))), .second] [])
  refine own_step (fun t k => XS.goto X2.here hx rfl (pc0 := 48) (pc' := 7) rfl (hb hby d1_48) (by decide) (by decide) k) ?_
  show own_Fin _ _ _ _ _ _ _ _ (mkF m 7 #[.val (.ref a1), .val (.ref a2), .val (.long q3), .second, .val (.long (-q3)), .second, .val (.int (1 : Int32)), .val (.long ((-q3) &&& ((f1 0) ^^^ (f2 0)))), .second] [])
  refine own_step (fun t k => XS.iload X2.here hx rfl (hb hby d1_7) rfl k) ?_
  show own_Fin _ _ _ _ _ _ _ _ (mkF m 9 #[.val (.ref a1), .val (.ref a2), .val (.long q3), .second, .val (.long (-q3)), .second, .val (.int (1 : Int32)), .val (.long ((-q3) &&& ((f1 0) ^^^ (f2 0)))), .second] [(.int (1 : Int32))])
  refine own_step (fun t k => XS.iconst X2.here hx rfl (hb hby d1_9) k) ?_
  show own_Fin _ _ _ _ _ _ _ _ (mkF m 10 #[.val (.ref a1), .val (.ref a2), .val (.long q3), .second, .val (.long (-q3)), .second, .val (.int (1 : Int32)), .val (.long ((-q3) &&& ((f1 0) ^^^ (f2 0)))), .second] [(.int (5 : Int32)), (.int (1 : Int32))])
  refine own_step (fun t k => XS.icmpNo X2.here hx rfl (hb hby d1_10) rfl (by decide) k) ?_
  show own_Fin _ _ _ _ _ _ _ _ (mkF m 13 #[.val (.ref a1), .val (.ref a2), .val (.long q3), .second, .val (.long (-q3)), .second, .val (.int (1 : Int32)), .val (.long ((-q3) &&& ((f1 0) ^^^ (f2 0)))), .second] [])
  refine own_step (fun t k => XS.lload X2.here hx rfl (hb hby d1_13) rfl k) ?_
  show own_Fin _ _ _ _ _ _ _ _ (mkF m 15 #[.val (.ref a1), .val (.ref a2), .val (.long q3), .second, .val (.long (-q3)), .second, .val (.int (1 : Int32)), .val (.long ((-q3) &&& ((f1 0) ^^^ (f2 0)))), .second] [(.long (-q3))])
  refine own_step (fun t k => XS.aloadN X2.here hx rfl (hb hby d1_15) rfl rfl k) ?_
  show own_Fin _ _ _ _ _ _ _ _ (mkF m 16 #[.val (.ref a1), .val (.ref a2), .val (.long q3), .second, .val (.long (-q3)), .second, .val (.int (1 : Int32)), .val (.long ((-q3) &&& ((f1 0) ^^^ (f2 0)))), .second] [(.ref a1), (.long (-q3))])
  refine own_step (fun t k => XS.iload X2.here hx rfl (hb hby d1_16) rfl k) ?_
  show own_Fin _ _ _ _ _ _ _ _ (mkF m 18 #[.val (.ref a1), .val (.ref a2), .val (.long q3), .second, .val (.long (-q3)), .second, .val (.int (1 : Int32)), .val (.long ((-q3) &&& ((f1 0) ^^^ (f2 0)))), .second] [(.int (1 : Int32)), (.ref a1), (.long (-q3))])
  refine own_laload X2 hx hZ e2 V_a1 (k := 1) rfl (by decide) (v := (f1 1)) rfl (hb hby d1_18) rfl ?_
  show own_Fin _ _ _ _ _ _ _ _ (mkF m 19 #[.val (.ref a1), .val (.ref a2), .val (.long q3), .second, .val (.long (-q3)), .second, .val (.int (1 : Int32)), .val (.long ((-q3) &&& ((f1 0) ^^^ (f2 0)))), .second] [(.long (f1 1)), (.long (-q3))])
  refine own_step (fun t k => XS.aloadN X2.here hx rfl (hb hby d1_19) rfl rfl k) ?_
  show own_Fin _ _ _ _ _ _ _ _ (mkF m 20 #[.val (.ref a1), .val (.ref a2), .val (.long q3), .second, .val (.long (-q3)), .second, .val (.int (1 : Int32)), .val (.long ((-q3) &&& ((f1 0) ^^^ (f2 0)))), .second] [(.ref a2), (.long (f1 1)), (.long (-q3))])
  refine own_step (fun t k => XS.iload X2.here hx rfl (hb hby d1_20) rfl k) ?_
  show own_Fin _ _ _ _ _ _ _ _ (mkF m 22 #[.val (.ref a1), .val (.ref a2), .val (.long q3), .second, .val (.long (-q3)), .second, .val (.int (1 : Int32)), .val (.long ((-q3) &&& ((f1 0) ^^^ (f2 0)))), .second] [(.int (1 : Int32)), (.ref a2), (.long (f1 1)), (.long (-q3))])
  refine own_laload X2 hx hZ e2 V_a2 (k := 1) rfl (by decide) (v := (f2 1)) rfl (hb hby d1_22) rfl ?_
  show own_Fin _ _ _ _ _ _ _ _ (mkF m 23 #[.val (.ref a1), .val (.ref a2), .val (.long q3), .second, .val (.long (-q3)), .second, .val (.int (1 : Int32)), .val (.long ((-q3) &&& ((f1 0) ^^^ (f2 0)))), .second] [(.long (f2 1)), (.long (f1 1)), (.long (-q3))])
  refine own_step (fun t k => XS.lxor X2.here hx rfl (hb hby d1_23) rfl k) ?_
  show own_Fin _ _ _ _ _ _ _ _ (mkF m 24 #[.val (.ref a1), .val (.ref a2), .val (.long q3), .second, .val (.long (-q3)), .second, .val (.int (1 : Int32)), .val (.long ((-q3) &&& ((f1 0) ^^^ (f2 0)))), .second] [(.long ((f1 1) ^^^ (f2 1))), (.long (-q3))])
  refine own_step (fun t k => XS.land X2.here hx rfl (hb hby d1_24) rfl k) ?_
  show own_Fin _ _ _ _ _ _ _ _ (mkF m 25 #[.val (.ref a1), .val (.ref a2), .val (.long q3), .second, .val (.long (-q3)), .second, .val (.int (1 : Int32)), .val (.long ((-q3) &&& ((f1 0) ^^^ (f2 0)))), .second] [(.long ((-q3) &&& ((f1 1) ^^^ (f2 1))))])
  refine own_step (fun t k => XS.lstore X2.here hx rfl (hb hby d1_25) rfl (l' := #[.val (.ref a1), .val (.ref a2), .val (.long q3), .second, .val (.long (-q3)), .second, .val (.int (1 : Int32)), .val (.long ((-q3) &&& ((f1 1) ^^^ (f2 1)))), .second]) rfl k) ?_
  show own_Fin _ _ _ _ _ _ _ _ (mkF m 27 #[.val (.ref a1), .val (.ref a2), .val (.long q3), .second, .val (.long (-q3)), .second, .val (.int (1 : Int32)), .val (.long ((-q3) &&& ((f1 1) ^^^ (f2 1)))), .second] [])
  refine own_step (fun t k => XS.aloadN X2.here hx rfl (hb hby d1_27) rfl rfl k) ?_
  show own_Fin _ _ _ _ _ _ _ _ (mkF m 28 #[.val (.ref a1), .val (.ref a2), .val (.long q3), .second, .val (.long (-q3)), .second, .val (.int (1 : Int32)), .val (.long ((-q3) &&& ((f1 1) ^^^ (f2 1)))), .second] [(.ref a1)])
  refine own_step (fun t k => XS.iload X2.here hx rfl (hb hby d1_28) rfl k) ?_
  show own_Fin _ _ _ _ _ _ _ _ (mkF m 30 #[.val (.ref a1), .val (.ref a2), .val (.long q3), .second, .val (.long (-q3)), .second, .val (.int (1 : Int32)), .val (.long ((-q3) &&& ((f1 1) ^^^ (f2 1)))), .second] [(.int (1 : Int32)), (.ref a1)])
  refine own_step (fun t k => XT.dup2 X2.here hx rfl (hb hby d1_30) rfl rfl rfl k) ?_
  show own_Fin _ _ _ _ _ _ _ _ (mkF m 31 #[.val (.ref a1), .val (.ref a2), .val (.long q3), .second, .val (.long (-q3)), .second, .val (.int (1 : Int32)), .val (.long ((-q3) &&& ((f1 1) ^^^ (f2 1)))), .second] [(.int (1 : Int32)), (.ref a1), (.int (1 : Int32)), (.ref a1)])
  refine own_laload X2 hx hZ e2 V_a1 (k := 1) rfl (by decide) (v := (f1 1)) rfl (hb hby d1_31) rfl ?_
  show own_Fin _ _ _ _ _ _ _ _ (mkF m 32 #[.val (.ref a1), .val (.ref a2), .val (.long q3), .second, .val (.long (-q3)), .second, .val (.int (1 : Int32)), .val (.long ((-q3) &&& ((f1 1) ^^^ (f2 1)))), .second] [(.long (f1 1)), (.int (1 : Int32)), (.ref a1)])
  refine own_step (fun t k => XS.lload X2.here hx rfl (hb hby d1_32) rfl k) ?_
  show own_Fin _ _ _ _ _ _ _ _ (mkF m 34 #[.val (.ref a1), .val (.ref a2), .val (.long q3), .second, .val (.long (-q3)), .second, .val (.int (1 : Int32)), .val (.long ((-q3) &&& ((f1 1) ^^^ (f2 1)))), .second] [(.long ((-q3) &&& ((f1 1) ^^^ (f2 1)))), (.long (f1 1)), (.int (1 : Int32)), (.ref a1)])
  refine own_step (fun t k => XS.lxor X2.here hx rfl (hb hby d1_34) rfl k) ?_
  show own_Fin _ _ _ _ _ _ _ _ (mkF m 35 #[.val (.ref a1), .val (.ref a2), .val (.long q3), .second, .val (.long (-q3)), .second, .val (.int (1 : Int32)), .val (.long ((-q3) &&& ((f1 1) ^^^ (f2 1)))), .second] [(.long ((f1 1) ^^^ ((-q3) &&& ((f1 1) ^^^ (f2 1))))), (.int (1 : Int32)), (.ref a1)])
  obtain ⟨T3, h3, X3, e3, W3, B3, st3⟩ := own_lastore X2 hx hZ e2 V_a1 (j := (1 : Int32)) (k := 1) rfl (by decide) (x := ((f1 1) ^^^ ((-q3) &&& ((f1 1) ^^^ (f2 1))))) (pc := 35) (Ls := #[.val (.ref a1), .val (.ref a2), .val (.long q3), .second, .val (.long (-q3)), .second, .val (.int (1 : Int32)), .val (.long ((-q3) &&& ((f1 1) ^^^ (f2 1)))), .second]) (rest := []) (hb hby d1_35) rfl
  refine own_step st3 ?_
  replace V_a2 := V_a2.other W3 (Ne.symm hne)
  replace Zs : n0 ≤ h3.size := by rw [W3.size]; exact Zs
  replace K := K.wr W3 (Or.inl (by simp))
  replace V_a1 := B3
  replace Nf := Fr.snoc X3 Nf g_a1
  show own_Fin _ _ _ _ _ _ _ _ (mkF m 36 #[.val (.ref a1), .val (.ref a2), .val (.long q3), .second, .val (.long (-q3)), .second, .val (.int (1 : Int32)), .val (.long ((-q3) &&& ((f1 1) ^^^ (f2 1)))), .second] [])
  refine own_step (fun t k => XS.aloadN X3.here hx rfl (hb hby d1_36) rfl rfl k) ?_
  show own_Fin _ _ _ _ _ _ _ _ (mkF m 37 #[.val (.ref a1), .val (.ref a2), .val (.long q3), .second, .val (.long (-q3)), .second, .val (.int (1 : Int32)), .val (.long ((-q3) &&& ((f1 1) ^^^ (f2 1)))), .second] [(.ref a2)])
  refine own_step (fun t k => XS.iload X3.here hx rfl (hb hby d1_37) rfl k) ?_
  show own_Fin _ _ _ _ _ _ _ _ (mkF m 39 #[.val (.ref a1), .val (.ref a2), .val (.long q3), .second, .val (.long (-q3)), .second, .val (.int (1 : Int32)), .val (.long ((-q3) &&& ((f1 1) ^^^ (f2 1)))), .second] [(.int (1 : Int32)), (.ref a2)])
  refine own_step (fun t k => XT.dup2 X3.here hx rfl (hb hby d1_39) rfl rfl rfl k) ?_
  show own_Fin _ _ _ _ _ _ _ _ (mkF m 40 #[.val (.ref a1), .val (.ref a2), .val (.long q3), .second, .val (.long (-q3)), .second, .val (.int (1 : Int32)), .val (.long ((-q3) &&& ((f1 1) ^^^ (f2 1)))), .second] [(.int (1 : Int32)), (.ref a2), (.int (1 : Int32)), (.ref a2)])
  refine own_laload X3 hx hZ e3 V_a2 (k := 1) rfl (by decide) (v := (f2 1)) rfl (hb hby d1_40) rfl ?_
  show own_Fin _ _ _ _ _ _ _ _ (mkF m 41 #[.val (.ref a1), .val (.ref a2), .val (.long q3), .second, .val (.long (-q3)), .second, .val (.int (1 : Int32)), .val (.long ((-q3) &&& ((f1 1) ^^^ (f2 1)))), .second] [(.long (f2 1)), (.int (1 : Int32)), (.ref a2)])
  refine own_step (fun t k => XS.lload X3.here hx rfl (hb hby d1_41) rfl k) ?_
  show own_Fin _ _ _ _ _ _ _ _ (mkF m 43 #[.val (.ref a1), .val (.ref a2), .val (.long q3), .second, .val (.long (-q3)), .second, .val (.int (1 : Int32)), .val (.long ((-q3) &&& ((f1 1) ^^^ (f2 1)))), .second] [(.long ((-q3) &&& ((f1 1) ^^^ (f2 1)))), (.long (f2 1)), (.int (1 : Int32)), (.ref a2)])
  refine own_step (fun t k => XS.lxor X3.here hx rfl (hb hby d1_43) rfl k) ?_
  show own_Fin _ _ _ _ _ _ _ _ (mkF m 44 #[.val (.ref a1), .val (.ref a2), .val (.long q3), .second, .val (.long (-q3)), .second, .val (.int (1 : Int32)), .val (.long ((-q3) &&& ((f1 1) ^^^ (f2 1)))), .second] [(.long ((f2 1) ^^^ ((-q3) &&& ((f1 1) ^^^ (f2 1))))), (.int (1 : Int32)), (.ref a2)])
  obtain ⟨T4, h4, X4, e4, W4, B4, st4⟩ := own_lastore X3 hx hZ e3 V_a2 (j := (1 : Int32)) (k := 1) rfl (by decide) (x := ((f2 1) ^^^ ((-q3) &&& ((f1 1) ^^^ (f2 1))))) (pc := 44) (Ls := #[.val (.ref a1), .val (.ref a2), .val (.long q3), .second, .val (.long (-q3)), .second, .val (.int (1 : Int32)), .val (.long ((-q3) &&& ((f1 1) ^^^ (f2 1)))), .second]) (rest := []) (hb hby d1_44) rfl
  refine own_step st4 ?_
  replace V_a1 := V_a1.other W4 hne
  replace Zs : n0 ≤ h4.size := by rw [W4.size]; exact Zs
  replace K := K.wr W4 (Or.inl (by simp))
  replace V_a2 := B4
  replace Nf := Fr.snoc X4 Nf g_a2
  show own_Fin _ _ _ _ _ _ _ _ (mkF m 45 #[.val (.ref a1), .val (.ref a2), .val (.long q3), .second, .val (.long (-q3)), .second, .val (.int (1 : Int32)), .val (.long ((-q3) &&& ((f1 1) ^^^ (f2 1)))), .second] [])
  refine own_step (fun t k => XS.iinc X4.here hx rfl (hb hby d1_45) rfl (l' := #[.val (.ref a1), .val (.ref a2), .val (.long q3), .second, .val (.long (-q3)), .second, .val (.int (2 : Int32)), .val (.long ((-q3) &&& ((f1 1) ^^^ (f2 1)))), .second]) rfl k) ?_
  show own_Fin _ _ _ _ _ _ _ _ (mkF m 48 #[.val (.ref a1), .val (.ref a2), .val (.long q3), .second, .val (.long (-q3)), .second, .val (.int (2 : Int32)), .val (.long ((-q3) &&& ((f1 1) ^^^ (f2 1)))), .second] [])
  refine own_step (fun t k => XS.goto X4.here hx rfl (pc0 := 48) (pc' := 7) rfl (hb hby d1_48) (by decide) (by decide) k) ?_
  show own_Fin _ _ _ _ _ _ _ _ (mkF m 7 #[.val (.ref a1), .val (.ref a2), .val (.long q3), .second, .val (.long (-q3)), .second, .val (.int (2 : Int32)), .val (.long ((-q3) &&& ((f1 1) ^^^ (f2 1)))), .second] [])
  refine own_step (fun t k => XS.iload X4.here hx rfl (hb hby d1_7) rfl k) ?_
  show own_Fin _ _ _ _ _ _ _ _ (mkF m 9 #[.val (.ref a1), .val (.ref a2), .val (.long q3), .second, .val (.long (-q3)), .second, .val (.int (2 : Int32)), .val (.long ((-q3) &&& ((f1 1) ^^^ (f2 1)))), .second] [(.int (2 : Int32))])
  refine own_step (fun t k => XS.iconst X4.here hx rfl (hb hby d1_9) k) ?_
  show own_Fin _ _ _ _ _ _ _ _ (mkF m 10 #[.val (.ref a1), .val (.ref a2), .val (.long q3), .second, .val (.long (-q3)), .second, .val (.int (2 : Int32)), .val (.long ((-q3) &&& ((f1 1) ^^^ (f2 1)))), .second] [(.int (5 : Int32)), (.int (2 : Int32))])
  refine own_step (fun t k => XS.icmpNo X4.here hx rfl (hb hby d1_10) rfl (by decide) k) ?_
  show own_Fin _ _ _ _ _ _ _ _ (mkF m 13 #[.val (.ref a1), .val (.ref a2), .val (.long q3), .second, .val (.long (-q3)), .second, .val (.int (2 : Int32)), .val (.long ((-q3) &&& ((f1 1) ^^^ (f2 1)))), .second] [])
  refine own_step (fun t k => XS.lload X4.here hx rfl (hb hby d1_13) rfl k) ?_
  show own_Fin _ _ _ _ _ _ _ _ (mkF m 15 #[.val (.ref a1), .val (.ref a2), .val (.long q3), .second, .val (.long (-q3)), .second, .val (.int (2 : Int32)), .val (.long ((-q3) &&& ((f1 1) ^^^ (f2 1)))), .second] [(.long (-q3))])
  refine own_step (fun t k => XS.aloadN X4.here hx rfl (hb hby d1_15) rfl rfl k) ?_
  show own_Fin _ _ _ _ _ _ _ _ (mkF m 16 #[.val (.ref a1), .val (.ref a2), .val (.long q3), .second, .val (.long (-q3)), .second, .val (.int (2 : Int32)), .val (.long ((-q3) &&& ((f1 1) ^^^ (f2 1)))), .second] [(.ref a1), (.long (-q3))])
  refine own_step (fun t k => XS.iload X4.here hx rfl (hb hby d1_16) rfl k) ?_
  show own_Fin _ _ _ _ _ _ _ _ (mkF m 18 #[.val (.ref a1), .val (.ref a2), .val (.long q3), .second, .val (.long (-q3)), .second, .val (.int (2 : Int32)), .val (.long ((-q3) &&& ((f1 1) ^^^ (f2 1)))), .second] [(.int (2 : Int32)), (.ref a1), (.long (-q3))])
  refine own_laload X4 hx hZ e4 V_a1 (k := 2) rfl (by decide) (v := (f1 2)) rfl (hb hby d1_18) rfl ?_
  show own_Fin _ _ _ _ _ _ _ _ (mkF m 19 #[.val (.ref a1), .val (.ref a2), .val (.long q3), .second, .val (.long (-q3)), .second, .val (.int (2 : Int32)), .val (.long ((-q3) &&& ((f1 1) ^^^ (f2 1)))), .second] [(.long (f1 2)), (.long (-q3))])
  refine own_step (fun t k => XS.aloadN X4.here hx rfl (hb hby d1_19) rfl rfl k) ?_
  show own_Fin _ _ _ _ _ _ _ _ (mkF m 20 #[.val (.ref a1), .val (.ref a2), .val (.long q3), .second, .val (.long (-q3)), .second, .val (.int (2 : Int32)), .val (.long ((-q3) &&& ((f1 1) ^^^ (f2 1)))), .second] [(.ref a2), (.long (f1 2)), (.long (-q3))])
  refine own_step (fun t k => XS.iload X4.here hx rfl (hb hby d1_20) rfl k) ?_
  show own_Fin _ _ _ _ _ _ _ _ (mkF m 22 #[.val (.ref a1), .val (.ref a2), .val (.long q3), .second, .val (.long (-q3)), .second, .val (.int (2 : Int32)), .val (.long ((-q3) &&& ((f1 1) ^^^ (f2 1)))), .second] [(.int (2 : Int32)), (.ref a2), (.long (f1 2)), (.long (-q3))])
  refine own_laload X4 hx hZ e4 V_a2 (k := 2) rfl (by decide) (v := (f2 2)) rfl (hb hby d1_22) rfl ?_
  show own_Fin _ _ _ _ _ _ _ _ (mkF m 23 #[.val (.ref a1), .val (.ref a2), .val (.long q3), .second, .val (.long (-q3)), .second, .val (.int (2 : Int32)), .val (.long ((-q3) &&& ((f1 1) ^^^ (f2 1)))), .second] [(.long (f2 2)), (.long (f1 2)), (.long (-q3))])
  refine own_step (fun t k => XS.lxor X4.here hx rfl (hb hby d1_23) rfl k) ?_
  show own_Fin _ _ _ _ _ _ _ _ (mkF m 24 #[.val (.ref a1), .val (.ref a2), .val (.long q3), .second, .val (.long (-q3)), .second, .val (.int (2 : Int32)), .val (.long ((-q3) &&& ((f1 1) ^^^ (f2 1)))), .second] [(.long ((f1 2) ^^^ (f2 2))), (.long (-q3))])
  refine own_step (fun t k => XS.land X4.here hx rfl (hb hby d1_24) rfl k) ?_
  show own_Fin _ _ _ _ _ _ _ _ (mkF m 25 #[.val (.ref a1), .val (.ref a2), .val (.long q3), .second, .val (.long (-q3)), .second, .val (.int (2 : Int32)), .val (.long ((-q3) &&& ((f1 1) ^^^ (f2 1)))), .second] [(.long ((-q3) &&& ((f1 2) ^^^ (f2 2))))])
  refine own_step (fun t k => XS.lstore X4.here hx rfl (hb hby d1_25) rfl (l' := #[.val (.ref a1), .val (.ref a2), .val (.long q3), .second, .val (.long (-q3)), .second, .val (.int (2 : Int32)), .val (.long ((-q3) &&& ((f1 2) ^^^ (f2 2)))), .second]) rfl k) ?_
  show own_Fin _ _ _ _ _ _ _ _ (mkF m 27 #[.val (.ref a1), .val (.ref a2), .val (.long q3), .second, .val (.long (-q3)), .second, .val (.int (2 : Int32)), .val (.long ((-q3) &&& ((f1 2) ^^^ (f2 2)))), .second] [])
  refine own_step (fun t k => XS.aloadN X4.here hx rfl (hb hby d1_27) rfl rfl k) ?_
  show own_Fin _ _ _ _ _ _ _ _ (mkF m 28 #[.val (.ref a1), .val (.ref a2), .val (.long q3), .second, .val (.long (-q3)), .second, .val (.int (2 : Int32)), .val (.long ((-q3) &&& ((f1 2) ^^^ (f2 2)))), .second] [(.ref a1)])
  refine own_step (fun t k => XS.iload X4.here hx rfl (hb hby d1_28) rfl k) ?_
  show own_Fin _ _ _ _ _ _ _ _ (mkF m 30 #[.val (.ref a1), .val (.ref a2), .val (.long q3), .second, .val (.long (-q3)), .second, .val (.int (2 : Int32)), .val (.long ((-q3) &&& ((f1 2) ^^^ (f2 2)))), .second] [(.int (2 : Int32)), (.ref a1)])
  refine own_step (fun t k => XT.dup2 X4.here hx rfl (hb hby d1_30) rfl rfl rfl k) ?_
  show own_Fin _ _ _ _ _ _ _ _ (mkF m 31 #[.val (.ref a1), .val (.ref a2), .val (.long q3), .second, .val (.long (-q3)), .second, .val (.int (2 : Int32)), .val (.long ((-q3) &&& ((f1 2) ^^^ (f2 2)))), .second] [(.int (2 : Int32)), (.ref a1), (.int (2 : Int32)), (.ref a1)])
  refine own_laload X4 hx hZ e4 V_a1 (k := 2) rfl (by decide) (v := (f1 2)) rfl (hb hby d1_31) rfl ?_
  show own_Fin _ _ _ _ _ _ _ _ (mkF m 32 #[.val (.ref a1), .val (.ref a2), .val (.long q3), .second, .val (.long (-q3)), .second, .val (.int (2 : Int32)), .val (.long ((-q3) &&& ((f1 2) ^^^ (f2 2)))), .second] [(.long (f1 2)), (.int (2 : Int32)), (.ref a1)])
  refine own_step (fun t k => XS.lload X4.here hx rfl (hb hby d1_32) rfl k) ?_
  show own_Fin _ _ _ _ _ _ _ _ (mkF m 34 #[.val (.ref a1), .val (.ref a2), .val (.long q3), .second, .val (.long (-q3)), .second, .val (.int (2 : Int32)), .val (.long ((-q3) &&& ((f1 2) ^^^ (f2 2)))), .second] [(.long ((-q3) &&& ((f1 2) ^^^ (f2 2)))), (.long (f1 2)), (.int (2 : Int32)), (.ref a1)])
  refine own_step (fun t k => XS.lxor X4.here hx rfl (hb hby d1_34) rfl k) ?_
  show own_Fin _ _ _ _ _ _ _ _ (mkF m 35 #[.val (.ref a1), .val (.ref a2), .val (.long q3), .second, .val (.long (-q3)), .second, .val (.int (2 : Int32)), .val (.long ((-q3) &&& ((f1 2) ^^^ (f2 2)))), .second] [(.long ((f1 2) ^^^ ((-q3) &&& ((f1 2) ^^^ (f2 2))))), (.int (2 : Int32)), (.ref a1)])
  obtain ⟨T5, h5, X5, e5, W5, B5, st5⟩ := own_lastore X4 hx hZ e4 V_a1 (j := (2 : Int32)) (k := 2) rfl (by decide) (x := ((f1 2) ^^^ ((-q3) &&& ((f1 2) ^^^ (f2 2))))) (pc := 35) (Ls := #[.val (.ref a1), .val (.ref a2), .val (.long q3), .second, .val (.long (-q3)), .second, .val (.int (2 : Int32)), .val (.long ((-q3) &&& ((f1 2) ^^^ (f2 2)))), .second]) (rest := []) (hb hby d1_35) rfl
  refine own_step st5 ?_
  replace V_a2 := V_a2.other W5 (Ne.symm hne)
  replace Zs : n0 ≤ h5.size := by rw [W5.size]; exact Zs
  replace K := K.wr W5 (Or.inl (by simp))
  replace V_a1 := B5
  replace Nf := Fr.snoc X5 Nf g_a1
  show own_Fin _ _ _ _ _ _ _ _ (mkF m 36 #[.val (.ref a1), .val (.ref a2), .val (.long q3), .second, .val (.long (-q3)), .second, .val (.int (2 : Int32)), .val (.long ((-q3) &&& ((f1 2) ^^^ (f2 2)))), .second] [])
  refine own_step (fun t k => XS.aloadN X5.here hx rfl (hb hby d1_36) rfl rfl k) ?_
  show own_Fin _ _ _ _ _ _ _ _ (mkF m 37 #[.val (.ref a1), .val (.ref a2), .val (.long q3), .second, .val (.long (-q3)), .second, .val (.int (2 : Int32)), .val (.long ((-q3) &&& ((f1 2) ^^^ (f2 2)))), .second] [(.ref a2)])
  refine own_step (fun t k => XS.iload X5.here hx rfl (hb hby d1_37) rfl k) ?_
  show own_Fin _ _ _ _ _ _ _ _ (mkF m 39 #[.val (.ref a1), .val (.ref a2), .val (.long q3), .second, .val (.long (-q3)), .second, .val (.int (2 : Int32)), .val (.long ((-q3) &&& ((f1 2) ^^^ (f2 2)))), .second] [(.int (2 : Int32)), (.ref a2)])
  refine own_step (fun t k => XT.dup2 X5.here hx rfl (hb hby d1_39) rfl rfl rfl k) ?_
  show own_Fin _ _ _ _ _ _ _ _ (mkF m 40 #[.val (.ref a1), .val (.ref a2), .val (.long q3), .second, .val (.long (-q3)), .second, .val (.int (2 : Int32)), .val (.long ((-q3) &&& ((f1 2) ^^^ (f2 2)))), .second] [(.int (2 : Int32)), (.ref a2), (.int (2 : Int32)), (.ref a2)])
  refine own_laload X5 hx hZ e5 V_a2 (k := 2) rfl (by decide) (v := (f2 2)) rfl (hb hby d1_40) rfl ?_
  show own_Fin _ _ _ _ _ _ _ _ (mkF m 41 #[.val (.ref a1), .val (.ref a2), .val (.long q3), .second, .val (.long (-q3)), .second, .val (.int (2 : Int32)), .val (.long ((-q3) &&& ((f1 2) ^^^ (f2 2)))), .second] [(.long (f2 2)), (.int (2 : Int32)), (.ref a2)])
  refine own_step (fun t k => XS.lload X5.here hx rfl (hb hby d1_41) rfl k) ?_
  show own_Fin _ _ _ _ _ _ _ _ (mkF m 43 #[.val (.ref a1), .val (.ref a2), .val (.long q3), .second, .val (.long (-q3)), .second, .val (.int (2 : Int32)), .val (.long ((-q3) &&& ((f1 2) ^^^ (f2 2)))), .second] [(.long ((-q3) &&& ((f1 2) ^^^ (f2 2)))), (.long (f2 2)), (.int (2 : Int32)), (.ref a2)])
  refine own_step (fun t k => XS.lxor X5.here hx rfl (hb hby d1_43) rfl k) ?_
  show own_Fin _ _ _ _ _ _ _ _ (mkF m 44 #[.val (.ref a1), .val (.ref a2), .val (.long q3), .second, .val (.long (-q3)), .second, .val (.int (2 : Int32)), .val (.long ((-q3) &&& ((f1 2) ^^^ (f2 2)))), .second] [(.long ((f2 2) ^^^ ((-q3) &&& ((f1 2) ^^^ (f2 2))))), (.int (2 : Int32)), (.ref a2)])
  obtain ⟨T6, h6, X6, e6, W6, B6, st6⟩ := own_lastore X5 hx hZ e5 V_a2 (j := (2 : Int32)) (k := 2) rfl (by decide) (x := ((f2 2) ^^^ ((-q3) &&& ((f1 2) ^^^ (f2 2))))) (pc := 44) (Ls := #[.val (.ref a1), .val (.ref a2), .val (.long q3), .second, .val (.long (-q3)), .second, .val (.int (2 : Int32)), .val (.long ((-q3) &&& ((f1 2) ^^^ (f2 2)))), .second]) (rest := []) (hb hby d1_44) rfl
  refine own_step st6 ?_
  replace V_a1 := V_a1.other W6 hne
  replace Zs : n0 ≤ h6.size := by rw [W6.size]; exact Zs
  replace K := K.wr W6 (Or.inl (by simp))
  replace V_a2 := B6
  replace Nf := Fr.snoc X6 Nf g_a2
  show own_Fin _ _ _ _ _ _ _ _ (mkF m 45 #[.val (.ref a1), .val (.ref a2), .val (.long q3), .second, .val (.long (-q3)), .second, .val (.int (2 : Int32)), .val (.long ((-q3) &&& ((f1 2) ^^^ (f2 2)))), .second] [])
  refine own_step (fun t k => XS.iinc X6.here hx rfl (hb hby d1_45) rfl (l' := #[.val (.ref a1), .val (.ref a2), .val (.long q3), .second, .val (.long (-q3)), .second, .val (.int (3 : Int32)), .val (.long ((-q3) &&& ((f1 2) ^^^ (f2 2)))), .second]) rfl k) ?_
  show own_Fin _ _ _ _ _ _ _ _ (mkF m 48 #[.val (.ref a1), .val (.ref a2), .val (.long q3), .second, .val (.long (-q3)), .second, .val (.int (3 : Int32)), .val (.long ((-q3) &&& ((f1 2) ^^^ (f2 2)))), .second] [])
  refine own_step (fun t k => XS.goto X6.here hx rfl (pc0 := 48) (pc' := 7) rfl (hb hby d1_48) (by decide) (by decide) k) ?_
  show own_Fin _ _ _ _ _ _ _ _ (mkF m 7 #[.val (.ref a1), .val (.ref a2), .val (.long q3), .second, .val (.long (-q3)), .second, .val (.int (3 : Int32)), .val (.long ((-q3) &&& ((f1 2) ^^^ (f2 2)))), .second] [])
  refine own_step (fun t k => XS.iload X6.here hx rfl (hb hby d1_7) rfl k) ?_
  show own_Fin _ _ _ _ _ _ _ _ (mkF m 9 #[.val (.ref a1), .val (.ref a2), .val (.long q3), .second, .val (.long (-q3)), .second, .val (.int (3 : Int32)), .val (.long ((-q3) &&& ((f1 2) ^^^ (f2 2)))), .second] [(.int (3 : Int32))])
  refine own_step (fun t k => XS.iconst X6.here hx rfl (hb hby d1_9) k) ?_
  show own_Fin _ _ _ _ _ _ _ _ (mkF m 10 #[.val (.ref a1), .val (.ref a2), .val (.long q3), .second, .val (.long (-q3)), .second, .val (.int (3 : Int32)), .val (.long ((-q3) &&& ((f1 2) ^^^ (f2 2)))), .second] [(.int (5 : Int32)), (.int (3 : Int32))])
  refine own_step (fun t k => XS.icmpNo X6.here hx rfl (hb hby d1_10) rfl (by decide) k) ?_
  show own_Fin _ _ _ _ _ _ _ _ (mkF m 13 #[.val (.ref a1), .val (.ref a2), .val (.long q3), .second, .val (.long (-q3)), .second, .val (.int (3 : Int32)), .val (.long ((-q3) &&& ((f1 2) ^^^ (f2 2)))), .second] [])
  refine own_step (fun t k => XS.lload X6.here hx rfl (hb hby d1_13) rfl k) ?_
  show own_Fin _ _ _ _ _ _ _ _ (mkF m 15 #[.val (.ref a1), .val (.ref a2), .val (.long q3), .second, .val (.long (-q3)), .second, .val (.int (3 : Int32)), .val (.long ((-q3) &&& ((f1 2) ^^^ (f2 2)))), .second] [(.long (-q3))])
  refine own_step (fun t k => XS.aloadN X6.here hx rfl (hb hby d1_15) rfl rfl k) ?_
  show own_Fin _ _ _ _ _ _ _ _ (mkF m 16 #[.val (.ref a1), .val (.ref a2), .val (.long q3), .second, .val (.long (-q3)), .second, .val (.int (3 : Int32)), .val (.long ((-q3) &&& ((f1 2) ^^^ (f2 2)))), .second] [(.ref a1), (.long (-q3))])
  refine own_step (fun t k => XS.iload X6.here hx rfl (hb hby d1_16) rfl k) ?_
  show own_Fin _ _ _ _ _ _ _ _ (mkF m 18 #[.val (.ref a1), .val (.ref a2), .val (.long q3), .second, .val (.long (-q3)), .second, .val (.int (3 : Int32)), .val (.long ((-q3) &&& ((f1 2) ^^^ (f2 2)))), .second] [(.int (3 : Int32)), (.ref a1), (.long (-q3))])
  refine own_laload X6 hx hZ e6 V_a1 (k := 3) rfl (by decide) (v := (f1 3)) rfl (hb hby d1_18) rfl ?_
  show own_Fin _ _ _ _ _ _ _ _ (mkF m 19 #[.val (.ref a1), .val (.ref a2), .val (.long q3), .second, .val (.long (-q3)), .second, .val (.int (3 : Int32)), .val (.long ((-q3) &&& ((f1 2) ^^^ (f2 2)))), .second] [(.long (f1 3)), (.long (-q3))])
  refine own_step (fun t k => XS.aloadN X6.here hx rfl (hb hby d1_19) rfl rfl k) ?_
  show own_Fin _ _ _ _ _ _ _ _ (mkF m 20 #[.val (.ref a1), .val (.ref a2), .val (.long q3), .second, .val (.long (-q3)), .second, .val (.int (3 : Int32)), .val (.long ((-q3) &&& ((f1 2) ^^^ (f2 2)))), .second] [(.ref a2), (.long (f1 3)), (.long (-q3))])
  refine own_step (fun t k => XS.iload X6.here hx rfl (hb hby d1_20) rfl k) ?_
  show own_Fin _ _ _ _ _ _ _ _ (mkF m 22 #[.val (.ref a1), .val (.ref a2), .val (.long q3), .second, .val (.long (-q3)), .second, .val (.int (3 : Int32)), .val (.long ((-q3) &&& ((f1 2) ^^^ (f2 2)))), .second] [(.int (3 : Int32)), (.ref a2), (.long (f1 3)), (.long (-q3))])
  refine own_laload X6 hx hZ e6 V_a2 (k := 3) rfl (by decide) (v := (f2 3)) rfl (hb hby d1_22) rfl ?_
  show own_Fin _ _ _ _ _ _ _ _ (mkF m 23 #[.val (.ref a1), .val (.ref a2), .val (.long q3), .second, .val (.long (-q3)), .second, .val (.int (3 : Int32)), .val (.long ((-q3) &&& ((f1 2) ^^^ (f2 2)))), .second] [(.long (f2 3)), (.long (f1 3)), (.long (-q3))])
  refine own_step (fun t k => XS.lxor X6.here hx rfl (hb hby d1_23) rfl k) ?_
  show own_Fin _ _ _ _ _ _ _ _ (mkF m 24 #[.val (.ref a1), .val (.ref a2), .val (.long q3), .second, .val (.long (-q3)), .second, .val (.int (3 : Int32)), .val (.long ((-q3) &&& ((f1 2) ^^^ (f2 2)))), .second] [(.long ((f1 3) ^^^ (f2 3))), (.long (-q3))])
  refine own_step (fun t k => XS.land X6.here hx rfl (hb hby d1_24) rfl k) ?_
  show own_Fin _ _ _ _ _ _ _ _ (mkF m 25 #[.val (.ref a1), .val (.ref a2), .val (.long q3), .second, .val (.long (-q3)), .second, .val (.int (3 : Int32)), .val (.long ((-q3) &&& ((f1 2) ^^^ (f2 2)))), .second] [(.long ((-q3) &&& ((f1 3) ^^^ (f2 3))))])
  refine own_step (fun t k => XS.lstore X6.here hx rfl (hb hby d1_25) rfl (l' := #[.val (.ref a1), .val (.ref a2), .val (.long q3), .second, .val (.long (-q3)), .second, .val (.int (3 : Int32)), .val (.long ((-q3) &&& ((f1 3) ^^^ (f2 3)))), .second]) rfl k) ?_
  show own_Fin _ _ _ _ _ _ _ _ (mkF m 27 #[.val (.ref a1), .val (.ref a2), .val (.long q3), .second, .val (.long (-q3)), .second, .val (.int (3 : Int32)), .val (.long ((-q3) &&& ((f1 3) ^^^ (f2 3)))), .second] [])
  refine own_step (fun t k => XS.aloadN X6.here hx rfl (hb hby d1_27) rfl rfl k) ?_
  show own_Fin _ _ _ _ _ _ _ _ (mkF m 28 #[.val (.ref a1), .val (.ref a2), .val (.long q3), .second, .val (.long (-q3)), .second, .val (.int (3 : Int32)), .val (.long ((-q3) &&& ((f1 3) ^^^ (f2 3)))), .second] [(.ref a1)])
  refine own_step (fun t k => XS.iload X6.here hx rfl (hb hby d1_28) rfl k) ?_
  show own_Fin _ _ _ _ _ _ _ _ (mkF m 30 #[.val (.ref a1), .val (.ref a2), .val (.long q3), .second, .val (.long (-q3)), .second, .val (.int (3 : Int32)), .val (.long ((-q3) &&& ((f1 3) ^^^ (f2 3)))), .second] [(.int (3 : Int32)), (.ref a1)])
  refine own_step (fun t k => XT.dup2 X6.here hx rfl (hb hby d1_30) rfl rfl rfl k) ?_
  show own_Fin _ _ _ _ _ _ _ _ (mkF m 31 #[.val (.ref a1), .val (.ref a2), .val (.long q3), .second, .val (.long (-q3)), .second, .val (.int (3 : Int32)), .val (.long ((-q3) &&& ((f1 3) ^^^ (f2 3)))), .second] [(.int (3 : Int32)), (.ref a1), (.int (3 : Int32)), (.ref a1)])
  refine own_laload X6 hx hZ e6 V_a1 (k := 3) rfl (by decide) (v := (f1 3)) rfl (hb hby d1_31) rfl ?_
  show own_Fin _ _ _ _ _ _ _ _ (mkF m 32 #[.val (.ref a1), .val (.ref a2), .val (.long q3), .second, .val (.long (-q3)), .second, .val (.int (3 : Int32)), .val (.long ((-q3) &&& ((f1 3) ^^^ (f2 3)))), .second] [(.long (f1 3)), (.int (3 : Int32)), (.ref a1)])
  refine own_step (fun t k => XS.lload X6.here hx rfl (hb hby d1_32) rfl k) ?_
  show own_Fin _ _ _ _ _ _ _ _ (mkF m 34 #[.val (.ref a1), .val (.ref a2), .val (.long q3), .second, .val (.long (-q3)), .second, .val (.int (3 : Int32)), .val (.long ((-q3) &&& ((f1 3) ^^^ (f2 3)))), .second] [(.long ((-q3) &&& ((f1 3) ^^^ (f2 3)))), (.long (f1 3)), (.int (3 : Int32)), (.ref a1)])
  refine own_step (fun t k => XS.lxor X6.here hx rfl (hb hby d1_34) rfl k) ?_
  show own_Fin _ _ _ _ _ _ _ _ (mkF m 35 #[.val (.ref a1), .val (.ref a2), .val (.long q3), .second, .val (.long (-q3)), .second, .val (.int (3 : Int32)), .val (.long ((-q3) &&& ((f1 3) ^^^ (f2 3)))), .second] [(.long ((f1 3) ^^^ ((-q3) &&& ((f1 3) ^^^ (f2 3))))), (.int (3 : Int32)), (.ref a1)])
  obtain ⟨T7, h7, X7, e7, W7, B7, st7⟩ := own_lastore X6 hx hZ e6 V_a1 (j := (3 : Int32)) (k := 3) rfl (by decide) (x := ((f1 3) ^^^ ((-q3) &&& ((f1 3) ^^^ (f2 3))))) (pc := 35) (Ls := #[.val (.ref a1), .val (.ref a2), .val (.long q3), .second, .val (.long (-q3)), .second, .val (.int (3 : Int32)), .val (.long ((-q3) &&& ((f1 3) ^^^ (f2 3)))), .second]) (rest := []) (hb hby d1_35) rfl
  refine own_step st7 ?_
  replace V_a2 := V_a2.other W7 (Ne.symm hne)
  replace Zs : n0 ≤ h7.size := by rw [W7.size]; exact Zs
  replace K := K.wr W7 (Or.inl (by simp))
  replace V_a1 := B7
  replace Nf := Fr.snoc X7 Nf g_a1
  show own_Fin _ _ _ _ _ _ _ _ (mkF m 36 #[.val (.ref a1), .val (.ref a2), .val (.long q3), .second, .val (.long (-q3)), .second, .val (.int (3 : Int32)), .val (.long ((-q3) &&& ((f1 3) ^^^ (f2 3)))), .second] [])
  refine own_step (fun t k => XS.aloadN X7.here hx rfl (hb hby d1_36) rfl rfl k) ?_
  show own_Fin _ _ _ _ _ _ _ _ (mkF m 37 #[.val (.ref a1), .val (.ref a2), .val (.long q3), .second, .val (.long (-q3)), .second, .val (.int (3 : Int32)), .val (.long ((-q3) &&& ((f1 3) ^^^ (f2 3)))), .second] [(.ref a2)])
  refine own_step (fun t k => XS.iload X7.here hx rfl (hb hby d1_37) rfl k) ?_
  show own_Fin _ _ _ _ _ _ _ _ (mkF m 39 #[.val (.ref a1), .val (.ref a2), .val (.long q3), .second, .val (.long (-q3)), .second, .val (.int (3 : Int32)), .val (.long ((-q3) &&& ((f1 3) ^^^ (f2 3)))), .second] [(.int (3 : Int32)), (.ref a2)])
  refine own_step (fun t k => XT.dup2 X7.here hx rfl (hb hby d1_39) rfl rfl rfl k) ?_
  show own_Fin _ _ _ _ _ _ _ _ (mkF m 40 #[.val (.ref a1), .val (.ref a2), .val (.long q3), .second, .val (.long (-q3)), .second, .val (.int (3 : Int32)), .val (.long ((-q3) &&& ((f1 3) ^^^ (f2 3)))), .second] [(.int (3 : Int32)), (.ref a2), (.int (3 : Int32)), (.ref a2)])
  refine own_laload X7 hx hZ e7 V_a2 (k := 3) rfl (by decide) (v := (f2 3)) rfl (hb hby d1_40) rfl ?_
  show own_Fin _ _ _ _ _ _ _ _ (mkF m 41 #[.val (.ref a1), .val (.ref a2), .val (.long q3), .second, .val (.long (-q3)), .second, .val (.int (3 : Int32)), .val (.long ((-q3) &&& ((f1 3) ^^^ (f2 3)))), .second] [(.long (f2 3)), (.int (3 : Int32)), (.ref a2)])
  refine own_step (fun t k => XS.lload X7.here hx rfl (hb hby d1_41) rfl k) ?_
  show own_Fin _ _ _ _ _ _ _ _ (mkF m 43 #[.val (.ref a1), .val (.ref a2), .val (.long q3), .second, .val (.long (-q3)), .second, .val (.int (3 : Int32)), .val (.long ((-q3) &&& ((f1 3) ^^^ (f2 3)))), .second] [(.long ((-q3) &&& ((f1 3) ^^^ (f2 3)))), (.long (f2 3)), (.int (3 : Int32)), (.ref a2)])
  refine own_step (fun t k => XS.lxor X7.here hx rfl (hb hby d1_43) rfl k) ?_
  show own_Fin _ _ _ _ _ _ _ _ (mkF m 44 #[.val (.ref a1), .val (.ref a2), .val (.long q3), .second, .val (.long (-q3)), .second, .val (.int (3 : Int32)), .val (.long ((-q3) &&& ((f1 3) ^^^ (f2 3)))), .second] [(.long ((f2 3) ^^^ ((-q3) &&& ((f1 3) ^^^ (f2 3))))), (.int (3 : Int32)), (.ref a2)])
  obtain ⟨T8, h8, X8, e8, W8, B8, st8⟩ := own_lastore X7 hx hZ e7 V_a2 (j := (3 : Int32)) (k := 3) rfl (by decide) (x := ((f2 3) ^^^ ((-q3) &&& ((f1 3) ^^^ (f2 3))))) (pc := 44) (Ls := #[.val (.ref a1), .val (.ref a2), .val (.long q3), .second, .val (.long (-q3)), .second, .val (.int (3 : Int32)), .val (.long ((-q3) &&& ((f1 3) ^^^ (f2 3)))), .second]) (rest := []) (hb hby d1_44) rfl
  refine own_step st8 ?_
  replace V_a1 := V_a1.other W8 hne
  replace Zs : n0 ≤ h8.size := by rw [W8.size]; exact Zs
  replace K := K.wr W8 (Or.inl (by simp))
  replace V_a2 := B8
  replace Nf := Fr.snoc X8 Nf g_a2
  show own_Fin _ _ _ _ _ _ _ _ (mkF m 45 #[.val (.ref a1), .val (.ref a2), .val (.long q3), .second, .val (.long (-q3)), .second, .val (.int (3 : Int32)), .val (.long ((-q3) &&& ((f1 3) ^^^ (f2 3)))), .second] [])
  refine own_step (fun t k => XS.iinc X8.here hx rfl (hb hby d1_45) rfl (l' := #[.val (.ref a1), .val (.ref a2), .val (.long q3), .second, .val (.long (-q3)), .second, .val (.int (4 : Int32)), .val (.long ((-q3) &&& ((f1 3) ^^^ (f2 3)))), .second]) rfl k) ?_
  show own_Fin _ _ _ _ _ _ _ _ (mkF m 48 #[.val (.ref a1), .val (.ref a2), .val (.long q3), .second, .val (.long (-q3)), .second, .val (.int (4 : Int32)), .val (.long ((-q3) &&& ((f1 3) ^^^ (f2 3)))), .second] [])
  refine own_step (fun t k => XS.goto X8.here hx rfl (pc0 := 48) (pc' := 7) rfl (hb hby d1_48) (by decide) (by decide) k) ?_
  show own_Fin _ _ _ _ _ _ _ _ (mkF m 7 #[.val (.ref a1), .val (.ref a2), .val (.long q3), .second, .val (.long (-q3)), .second, .val (.int (4 : Int32)), .val (.long ((-q3) &&& ((f1 3) ^^^ (f2 3)))), .second] [])
  refine own_step (fun t k => XS.iload X8.here hx rfl (hb hby d1_7) rfl k) ?_
  show own_Fin _ _ _ _ _ _ _ _ (mkF m 9 #[.val (.ref a1), .val (.ref a2), .val (.long q3), .second, .val (.long (-q3)), .second, .val (.int (4 : Int32)), .val (.long ((-q3) &&& ((f1 3) ^^^ (f2 3)))), .second] [(.int (4 : Int32))])
  refine own_step (fun t k => XS.iconst X8.here hx rfl (hb hby d1_9) k) ?_
  show own_Fin _ _ _ _ _ _ _ _ (mkF m 10 #[.val (.ref a1), .val (.ref a2), .val (.long q3), .second, .val (.long (-q3)), .second, .val (.int (4 : Int32)), .val (.long ((-q3) &&& ((f1 3) ^^^ (f2 3)))), .second] [(.int (5 : Int32)), (.int (4 : Int32))])
  refine own_step (fun t k => XS.icmpNo X8.here hx rfl (hb hby d1_10) rfl (by decide) k) ?_
  show own_Fin _ _ _ _ _ _ _ _ (mkF m 13 #[.val (.ref a1), .val (.ref a2), .val (.long q3), .second, .val (.long (-q3)), .second, .val (.int (4 : Int32)), .val (.long ((-q3) &&& ((f1 3) ^^^ (f2 3)))), .second] [])
  refine own_step (fun t k => XS.lload X8.here hx rfl (hb hby d1_13) rfl k) ?_
  show own_Fin _ _ _ _ _ _ _ _ (mkF m 15 #[.val (.ref a1), .val (.ref a2), .val (.long q3), .second, .val (.long (-q3)), .second, .val (.int (4 : Int32)), .val (.long ((-q3) &&& ((f1 3) ^^^ (f2 3)))), .second] [(.long (-q3))])
  refine own_step (fun t k => XS.aloadN X8.here hx rfl (hb hby d1_15) rfl rfl k) ?_
  show own_Fin _ _ _ _ _ _ _ _ (mkF m 16 #[.val (.ref a1), .val (.ref a2), .val (.long q3), .second, .val (.long (-q3)), .second, .val (.int (4 : Int32)), .val (.long ((-q3) &&& ((f1 3) ^^^ (f2 3)))), .second] [(.ref a1), (.long (-q3))])
  refine own_step (fun t k => XS.iload X8.here hx rfl (hb hby d1_16) rfl k) ?_
  show own_Fin _ _ _ _ _ _ _ _ (mkF m 18 #[.val (.ref a1), .val (.ref a2), .val (.long q3), .second, .val (.long (-q3)), .second, .val (.int (4 : Int32)), .val (.long ((-q3) &&& ((f1 3) ^^^ (f2 3)))), .second] [(.int (4 : Int32)), (.ref a1), (.long (-q3))])
  refine own_laload X8 hx hZ e8 V_a1 (k := 4) rfl (by decide) (v := (f1 4)) rfl (hb hby d1_18) rfl ?_
  show own_Fin _ _ _ _ _ _ _ _ (mkF m 19 #[.val (.ref a1), .val (.ref a2), .val (.long q3), .second, .val (.long (-q3)), .second, .val (.int (4 : Int32)), .val (.long ((-q3) &&& ((f1 3) ^^^ (f2 3)))), .second] [(.long (f1 4)), (.long (-q3))])
  refine own_step (fun t k => XS.aloadN X8.here hx rfl (hb hby d1_19) rfl rfl k) ?_
  show own_Fin _ _ _ _ _ _ _ _ (mkF m 20 #[.val (.ref a1), .val (.ref a2), .val (.long q3), .second, .val (.long (-q3)), .second, .val (.int (4 : Int32)), .val (.long ((-q3) &&& ((f1 3) ^^^ (f2 3)))), .second] [(.ref a2), (.long (f1 4)), (.long (-q3))])
  refine own_step (fun t k => XS.iload X8.here hx rfl (hb hby d1_20) rfl k) ?_
  show own_Fin _ _ _ _ _ _ _ _ (mkF m 22 #[.val (.ref a1), .val (.ref a2), .val (.long q3), .second, .val (.long (-q3)), .second, .val (.int (4 : Int32)), .val (.long ((-q3) &&& ((f1 3) ^^^ (f2 3)))), .second] [(.int (4 : Int32)), (.ref a2), (.long (f1 4)), (.long (-q3))])
  refine own_laload X8 hx hZ e8 V_a2 (k := 4) rfl (by decide) (v := (f2 4)) rfl (hb hby d1_22) rfl ?_
  show own_Fin _ _ _ _ _ _ _ _ (mkF m 23 #[.val (.ref a1), .val (.ref a2), .val (.long q3), .second, .val (.long (-q3)), .second, .val (.int (4 : Int32)), .val (.long ((-q3) &&& ((f1 3) ^^^ (f2 3)))), .second] [(.long (f2 4)), (.long (f1 4)), (.long (-q3))])
  refine own_step (fun t k => XS.lxor X8.here hx rfl (hb hby d1_23) rfl k) ?_
  show own_Fin _ _ _ _ _ _ _ _ (mkF m 24 #[.val (.ref a1), .val (.ref a2), .val (.long q3), .second, .val (.long (-q3)), .second, .val (.int (4 : Int32)), .val (.long ((-q3) &&& ((f1 3) ^^^ (f2 3)))), .second] [(.long ((f1 4) ^^^ (f2 4))), (.long (-q3))])
  refine own_step (fun t k => XS.land X8.here hx rfl (hb hby d1_24) rfl k) ?_
  show own_Fin _ _ _ _ _ _ _ _ (mkF m 25 #[.val (.ref a1), .val (.ref a2), .val (.long q3), .second, .val (.long (-q3)), .second, .val (.int (4 : Int32)), .val (.long ((-q3) &&& ((f1 3) ^^^ (f2 3)))), .second] [(.long ((-q3) &&& ((f1 4) ^^^ (f2 4))))])
  refine own_step (fun t k => XS.lstore X8.here hx rfl (hb hby d1_25) rfl (l' := #[.val (.ref a1), .val (.ref a2), .val (.long q3), .second, .val (.long (-q3)), .second, .val (.int (4 : Int32)), .val (.long ((-q3) &&& ((f1 4) ^^^ (f2 4)))), .second]) rfl k) ?_
  show own_Fin _ _ _ _ _ _ _ _ (mkF m 27 #[.val (.ref a1), .val (.ref a2), .val (.long q3), .second, .val (.long (-q3)), .second, .val (.int (4 : Int32)), .val (.long ((-q3) &&& ((f1 4) ^^^ (f2 4)))), .second] [])
  refine own_step (fun t k => XS.aloadN X8.here hx rfl (hb hby d1_27) rfl rfl k) ?_
  show own_Fin _ _ _ _ _ _ _ _ (mkF m 28 #[.val (.ref a1), .val (.ref a2), .val (.long q3), .second, .val (.long (-q3)), .second, .val (.int (4 : Int32)), .val (.long ((-q3) &&& ((f1 4) ^^^ (f2 4)))), .second] [(.ref a1)])
  refine own_step (fun t k => XS.iload X8.here hx rfl (hb hby d1_28) rfl k) ?_
  show own_Fin _ _ _ _ _ _ _ _ (mkF m 30 #[.val (.ref a1), .val (.ref a2), .val (.long q3), .second, .val (.long (-q3)), .second, .val (.int (4 : Int32)), .val (.long ((-q3) &&& ((f1 4) ^^^ (f2 4)))), .second] [(.int (4 : Int32)), (.ref a1)])
  refine own_step (fun t k => XT.dup2 X8.here hx rfl (hb hby d1_30) rfl rfl rfl k) ?_
  show own_Fin _ _ _ _ _ _ _ _ (mkF m 31 #[.val (.ref a1), .val (.ref a2), .val (.long q3), .second, .val (.long (-q3)), .second, .val (.int (4 : Int32)), .val (.long ((-q3) &&& ((f1 4) ^^^ (f2 4)))), .second] [(.int (4 : Int32)), (.ref a1), (.int (4 : Int32)), (.ref a1)])
  refine own_laload X8 hx hZ e8 V_a1 (k := 4) rfl (by decide) (v := (f1 4)) rfl (hb hby d1_31) rfl ?_
  show own_Fin _ _ _ _ _ _ _ _ (mkF m 32 #[.val (.ref a1), .val (.ref a2), .val (.long q3), .second, .val (.long (-q3)), .second, .val (.int (4 : Int32)), .val (.long ((-q3) &&& ((f1 4) ^^^ (f2 4)))), .second] [(.long (f1 4)), (.int (4 : Int32)), (.ref a1)])
  refine own_step (fun t k => XS.lload X8.here hx rfl (hb hby d1_32) rfl k) ?_
  show own_Fin _ _ _ _ _ _ _ _ (mkF m 34 #[.val (.ref a1), .val (.ref a2), .val (.long q3), .second, .val (.long (-q3)), .second, .val (.int (4 : Int32)), .val (.long ((-q3) &&& ((f1 4) ^^^ (f2 4)))), .second] [(.long ((-q3) &&& ((f1 4) ^^^ (f2 4)))), (.long (f1 4)), (.int (4 : Int32)), (.ref a1)])
  refine own_step (fun t k => XS.lxor X8.here hx rfl (hb hby d1_34) rfl k) ?_
  show own_Fin _ _ _ _ _ _ _ _ (mkF m 35 #[.val (.ref a1), .val (.ref a2), .val (.long q3), .second, .val (.long (-q3)), .second, .val (.int (4 : Int32)), .val (.long ((-q3) &&& ((f1 4) ^^^ (f2 4)))), .second] [(.long ((f1 4) ^^^ ((-q3) &&& ((f1 4) ^^^ (f2 4))))), (.int (4 : Int32)), (.ref a1)])
  obtain ⟨T9, h9, X9, e9, W9, B9, st9⟩ := own_lastore X8 hx hZ e8 V_a1 (j := (4 : Int32)) (k := 4) rfl (by decide) (x := ((f1 4) ^^^ ((-q3) &&& ((f1 4) ^^^ (f2 4))))) (pc := 35) (Ls := #[.val (.ref a1), .val (.ref a2), .val (.long q3), .second, .val (.long (-q3)), .second, .val (.int (4 : Int32)), .val (.long ((-q3) &&& ((f1 4) ^^^ (f2 4)))), .second]) (rest := []) (hb hby d1_35) rfl
  refine own_step st9 ?_
  replace V_a2 := V_a2.other W9 (Ne.symm hne)
  replace Zs : n0 ≤ h9.size := by rw [W9.size]; exact Zs
  replace K := K.wr W9 (Or.inl (by simp))
  replace V_a1 := B9
  replace Nf := Fr.snoc X9 Nf g_a1
  show own_Fin _ _ _ _ _ _ _ _ (mkF m 36 #[.val (.ref a1), .val (.ref a2), .val (.long q3), .second, .val (.long (-q3)), .second, .val (.int (4 : Int32)), .val (.long ((-q3) &&& ((f1 4) ^^^ (f2 4)))), .second] [])
  refine own_step (fun t k => XS.aloadN X9.here hx rfl (hb hby d1_36) rfl rfl k) ?_
  show own_Fin _ _ _ _ _ _ _ _ (mkF m 37 #[.val (.ref a1), .val (.ref a2), .val (.long q3), .second, .val (.long (-q3)), .second, .val (.int (4 : Int32)), .val (.long ((-q3) &&& ((f1 4) ^^^ (f2 4)))), .second] [(.ref a2)])
  refine own_step (fun t k => XS.iload X9.here hx rfl (hb hby d1_37) rfl k) ?_
  show own_Fin _ _ _ _ _ _ _ _ (mkF m 39 #[.val (.ref a1), .val (.ref a2), .val (.long q3), .second, .val (.long (-q3)), .second, .val (.int (4 : Int32)), .val (.long ((-q3) &&& ((f1 4) ^^^ (f2 4)))), .second] [(.int (4 : Int32)), (.ref a2)])
  refine own_step (fun t k => XT.dup2 X9.here hx rfl (hb hby d1_39) rfl rfl rfl k) ?_
  show own_Fin _ _ _ _ _ _ _ _ (mkF m 40 #[.val (.ref a1), .val (.ref a2), .val (.long q3), .second, .val (.long (-q3)), .second, .val (.int (4 : Int32)), .val (.long ((-q3) &&& ((f1 4) ^^^ (f2 4)))), .second] [(.int (4 : Int32)), (.ref a2), (.int (4 : Int32)), (.ref a2)])
  refine own_laload X9 hx hZ e9 V_a2 (k := 4) rfl (by decide) (v := (f2 4)) rfl (hb hby d1_40) rfl ?_
  show own_Fin _ _ _ _ _ _ _ _ (mkF m 41 #[.val (.ref a1), .val (.ref a2), .val (.long q3), .second, .val (.long (-q3)), .second, .val (.int (4 : Int32)), .val (.long ((-q3) &&& ((f1 4) ^^^ (f2 4)))), .second] [(.long (f2 4)), (.int (4 : Int32)), (.ref a2)])
  refine own_step (fun t k => XS.lload X9.here hx rfl (hb hby d1_41) rfl k) ?_
  show own_Fin _ _ _ _ _ _ _ _ (mkF m 43 #[.val (.ref a1), .val (.ref a2), .val (.long q3), .second, .val (.long (-q3)), .second, .val (.int (4 : Int32)), .val (.long ((-q3) &&& ((f1 4) ^^^ (f2 4)))), .second] [(.long ((-q3) &&& ((f1 4) ^^^ (f2 4)))), (.long (f2 4)), (.int (4 : Int32)), (.ref a2)])
  refine own_step (fun t k => XS.lxor X9.here hx rfl (hb hby d1_43) rfl k) ?_
  show own_Fin _ _ _ _ _ _ _ _ (mkF m 44 #[.val (.ref a1), .val (.ref a2), .val (.long q3), .second, .val (.long (-q3)), .second, .val (.int (4 : Int32)), .val (.long ((-q3) &&& ((f1 4) ^^^ (f2 4)))), .second] [(.long ((f2 4) ^^^ ((-q3) &&& ((f1 4) ^^^ (f2 4))))), (.int (4 : Int32)), (.ref a2)])
  obtain ⟨T10, h10, X10, e10, W10, B10, st10⟩ := own_lastore X9 hx hZ e9 V_a2 (j := (4 : Int32)) (k := 4) rfl (by decide) (x := ((f2 4) ^^^ ((-q3) &&& ((f1 4) ^^^ (f2 4))))) (pc := 44) (Ls := #[.val (.ref a1), .val (.ref a2), .val (.long q3), .second, .val (.long (-q3)), .second, .val (.int (4 : Int32)), .val (.long ((-q3) &&& ((f1 4) ^^^ (f2 4)))), .second]) (rest := []) (hb hby d1_44) rfl
  refine own_step st10 ?_
  replace V_a1 := V_a1.other W10 hne
  replace Zs : n0 ≤ h10.size := by rw [W10.size]; exact Zs
  replace K := K.wr W10 (Or.inl (by simp))
  replace V_a2 := B10
  replace Nf := Fr.snoc X10 Nf g_a2
  show own_Fin _ _ _ _ _ _ _ _ (mkF m 45 #[.val (.ref a1), .val (.ref a2), .val (.long q3), .second, .val (.long (-q3)), .second, .val (.int (4 : Int32)), .val (.long ((-q3) &&& ((f1 4) ^^^ (f2 4)))), .second] [])
  refine own_step (fun t k => XS.iinc X10.here hx rfl (hb hby d1_45) rfl (l' := #[.val (.ref a1), .val (.ref a2), .val (.long q3), .second, .val (.long (-q3)), .second, .val (.int (5 : Int32)), .val (.long ((-q3) &&& ((f1 4) ^^^ (f2 4)))), .second]) rfl k) ?_
  show own_Fin _ _ _ _ _ _ _ _ (mkF m 48 #[.val (.ref a1), .val (.ref a2), .val (.long q3), .second, .val (.long (-q3)), .second, .val (.int (5 : Int32)), .val (.long ((-q3) &&& ((f1 4) ^^^ (f2 4)))), .second] [])
  refine own_step (fun t k => XS.goto X10.here hx rfl (pc0 := 48) (pc' := 7) rfl (hb hby d1_48) (by decide) (by decide) k) ?_
  show own_Fin _ _ _ _ _ _ _ _ (mkF m 7 #[.val (.ref a1), .val (.ref a2), .val (.long q3), .second, .val (.long (-q3)), .second, .val (.int (5 : Int32)), .val (.long ((-q3) &&& ((f1 4) ^^^ (f2 4)))), .second] [])
  refine own_step (fun t k => XS.iload X10.here hx rfl (hb hby d1_7) rfl k) ?_
  show own_Fin _ _ _ _ _ _ _ _ (mkF m 9 #[.val (.ref a1), .val (.ref a2), .val (.long q3), .second, .val (.long (-q3)), .second, .val (.int (5 : Int32)), .val (.long ((-q3) &&& ((f1 4) ^^^ (f2 4)))), .second] [(.int (5 : Int32))])
  refine own_step (fun t k => XS.iconst X10.here hx rfl (hb hby d1_9) k) ?_
  show own_Fin _ _ _ _ _ _ _ _ (mkF m 10 #[.val (.ref a1), .val (.ref a2), .val (.long q3), .second, .val (.long (-q3)), .second, .val (.int (5 : Int32)), .val (.long ((-q3) &&& ((f1 4) ^^^ (f2 4)))), .second] [(.int (5 : Int32)), (.int (5 : Int32))])
  refine own_step (fun t k => XS.icmpYes X10.here hx rfl (pc0 := 10) (pc' := 51) rfl (hb hby d1_10) rfl (by decide) (by decide) (by decide) k) ?_
  show own_Fin _ _ _ _ _ _ _ _ (mkF m 51 #[.val (.ref a1), .val (.ref a2), .val (.long q3), .second, .val (.long (-q3)), .second, .val (.int (5 : Int32)), .val (.long ((-q3) &&& ((f1 4) ^^^ (f2 4)))), .second] [])
  refine own_retV X10 hx hlk Bd.returns (hb hby d1_51) (by decide) (by decide) e10 ?_
  exact ⟨rfl, Nf, K, V_a1.congr (by intro i hi; rcases own_five hi with rfl | rfl | rfl | rfl | rfl <;> rfl), V_a2.congr (by intro i hi; rcases own_five hi with rfl | rfl | rfl | rfl | rfl <;> rfl)⟩
theorem own_pd_0 : parseMethodDescriptor "([J[JJ)V" = some ⟨[(.array .long), (.array .long), .long], none⟩ := by decide +kernel
theorem own_pn_0 : plainName "com/example/quietwire/quietwire/Field25519SwapPinLaw" = true := by first | (simp [plainName, overriddenIn]; done) | decide +kernel
theorem own_ef_0 (m : MethodId) (q1 : Int64) (q2 : Int64) (q3 : Int64) (q4 : Int64) (q5 : Int64) (p6 : Int32) : entryFrame m #[(.long q1), (.long q2), (.long q3), (.long q4), (.long q5), (.int p6)] maxLocals = mkF m 0 #[.val (.long q1), .second, .val (.long q2), .second, .val (.long q3), .second, .val (.long q4), .second, .val (.long q5), .second, .val (.int p6), .unset, .unset, .unset, .unset, .unset, .unset, .unset, .unset, .unset, .unset, .unset, .unset, .unset, .unset, .unset, .unset, .unset, .unset, .unset, .unset, .unset, .unset, .unset, .unset, .unset, .unset] [] := by first | (simp [entryFrame, mkF, argsToLocals, Value.category, maxLocals]; done) | rfl
def own_Q0 (Z : State) (q1 : Int64) (q2 : Int64) (q3 : Int64) (q4 : Int64) (q5 : Int64) (p6 : Int32) (h0 : Heap) (n0 : Nat) (v : Option Value) (h : Heap) (L : List Loc) : Prop := v = some (.int 1) ∧ Fr n0 L
set_option maxRecDepth 65536 in
set_option maxHeartbeats 40000000 in
theorem rm0 (l : Launch) (Z : State) (a0 : Array Value) (hw : ∀ d ∈ tables_1, d.before a0 Z = true) (ws : List Jvm.Cond) (q1 : Int64) (q2 : Int64) (q3 : Int64) (q4 : Int64) (q5 : Int64) (p6 : Int32) (h0 : Heap) (n0 : Nat) (Z0 : n0 ≤ h0.size) :
    MetFree l x (head1 (Jvm.Cond.code x code maxLocals ret :: ws) room_1) (fun a U => a = #[(.long q1), (.long q2), (.long q3), (.long q4), (.long q5), (.int p6)] ∧ Z.Warmed39 U.vm ∧ U.heap = h0) (fun _ _ _ _ _ => True) (fun _ U o U' => ∃ v L, o = .returned v ∧ own_Q0 Z q1 q2 q3 q4 q5 p6 h0 n0 v U'.heap L ∧ FrameEnd U o U' L 16 128) := by
  refine MetFree.of_bodySF (plainFor_of_name own_pn_0) hisR ?_
  intro p e s m args below meth c s₁ Bd hml0 hP hK
  obtain ⟨rfl, hZ, hh⟩ := hP
  have hx := Bd.exec
  have hby := Bd.bytes
  have hlk := BodyLoose.notSynchronized Bd
  have hml : c.maxLocals = 37 := hml0
  have hown : s.vm.findClass "com/example/quietwire/quietwire/Field25519SwapPinLaw" = some m.cls := (findClass_of_methodNamed Bd.named : s.vm.findClass x.cls = some m.cls)
  have hnm := (name_of_methodNamed Bd.named Bd.method).1
  have X0 : Stand p l e room_1 s m #[(.long q1), (.long q2), (.long q3), (.long q4), (.long q5), (.int p6)] below meth c s₁ [] 0 0 := Stand.of_body Bd
  have e0 : s₁.heap = h0 := by rw [← hh, Bd.state]; rfl
  have Nf := Fr.nil n0
  have Zs := Z0
  show own_Fin p e below s (own_Q0 Z q1 q2 q3 q4 q5 p6 h0 n0) 16 128 s₁ (entryFrame m #[(.long q1), (.long q2), (.long q3), (.long q4), (.long q5), (.int p6)] maxLocals)
  rw [own_ef_0 m q1 q2 q3 q4 q5 p6]
  show own_Fin _ _ _ _ _ _ _ _ (mkF m 0 #[.val (.long q1), .second, .val (.long q2), .second, .val (.long q3), .second, .val (.long q4), .second, .val (.long q5), .second, .val (.int p6), .unset, .unset, .unset, .unset, .unset, .unset, .unset, .unset, .unset, .unset, .unset, .unset, .unset, .unset, .unset, .unset, .unset, .unset, .unset, .unset, .unset, .unset, .unset, .unset, .unset, .unset] [])
  obtain ⟨Ls1, hLs1⟩ : ∃ z : Array Slot, z = #[.val (.long q1), .second, .val (.long q2), .second, .val (.long q3), .second, .val (.long q4), .second, .val (.long q5), .second, .val (.int p6), .unset, .unset, .unset, .unset, .unset, .unset, .unset, .unset, .unset, .unset, .unset, .unset, .unset, .unset, .unset, .unset, .unset, .unset, .unset, .unset, .unset, .unset, .unset, .unset, .unset, .unset] := ⟨_, rfl⟩
  rw [← hLs1]
  refine own_step (fun t k => XS.iload (v := p6) X0.here hx rfl (hb hby at_0) (by rw [hLs1]; rfl) k) ?_
  show own_Fin _ _ _ _ _ _ _ _ (mkF m 2 Ls1 [(.int p6)])
  refine own_step (fun t k => XS.iconst X0.here hx rfl (hb hby at_2) k) ?_
  show own_Fin _ _ _ _ _ _ _ _ (mkF m 3 Ls1 [(.int (1 : Int32)), (.int p6)])
  refine own_step (fun t k => XS.iand X0.here hx rfl (hb hby at_3) rfl k) ?_
  show own_Fin _ _ _ _ _ _ _ _ (mkF m 4 Ls1 [(.int (p6 &&& (1 : Int32)))])
  refine own_step (fun t k => XS.i2l X0.here hx rfl (hb hby at_4) rfl k) ?_
  show own_Fin _ _ _ _ _ _ _ _ (mkF m 5 Ls1 [(.long ((p6 &&& (1 : Int32)).toInt64))])
  generalize hbt : ((p6 &&& (1 : Int32)).toInt64) = bt
  obtain ⟨Ls2, hLs2⟩ : ∃ z : Array Slot, z = #[.val (.long q1), .second, .val (.long q2), .second, .val (.long q3), .second, .val (.long q4), .second, .val (.long q5), .second, .val (.int p6), .val (.long bt), .second, .unset, .unset, .unset, .unset, .unset, .unset, .unset, .unset, .unset, .unset, .unset, .unset, .unset, .unset, .unset, .unset, .unset, .unset, .unset, .unset, .unset, .unset, .unset, .unset] := ⟨_, rfl⟩
  refine own_step (fun t k => XS.lstore X0.here hx rfl (hb hby at_5) rfl (l' := Ls2) (by rw [hLs1, hLs2]; rfl) k) ?_
  show own_Fin _ _ _ _ _ _ _ _ (mkF m 7 Ls2 [])
  refine own_step (fun t k => XS.iload (v := p6) X0.here hx rfl (hb hby at_7) (by rw [hLs2]; rfl) k) ?_
  show own_Fin _ _ _ _ _ _ _ _ (mkF m 9 Ls2 [(.int p6)])
  refine own_step (fun t k => XS.iconst X0.here hx rfl (hb hby at_9) k) ?_
  show own_Fin _ _ _ _ _ _ _ _ (mkF m 10 Ls2 [(.int (1 : Int32)), (.int p6)])
  refine own_step (fun t k => XS.ishr X0.here hx rfl (hb hby at_10) rfl k) ?_
  show own_Fin _ _ _ _ _ _ _ _ (mkF m 11 Ls2 [(.int (p6 >>> ((1 : Int32) &&& 31)))])
  refine own_step (fun t k => XS.i2l X0.here hx rfl (hb hby at_11) rfl k) ?_
  show own_Fin _ _ _ _ _ _ _ _ (mkF m 12 Ls2 [(.long ((p6 >>> ((1 : Int32) &&& 31)).toInt64))])
  generalize hkk : ((p6 >>> ((1 : Int32) &&& 31)).toInt64) = kk
  obtain ⟨Ls3, hLs3⟩ : ∃ z : Array Slot, z = #[.val (.long q1), .second, .val (.long q2), .second, .val (.long q3), .second, .val (.long q4), .second, .val (.long q5), .second, .val (.int p6), .val (.long bt), .second, .val (.long kk), .second, .unset, .unset, .unset, .unset, .unset, .unset, .unset, .unset, .unset, .unset, .unset, .unset, .unset, .unset, .unset, .unset, .unset, .unset, .unset, .unset, .unset, .unset] := ⟨_, rfl⟩
  refine own_step (fun t k => XS.lstore X0.here hx rfl (hb hby at_12) rfl (l' := Ls3) (by rw [hLs2, hLs3]; rfl) k) ?_
  show own_Fin _ _ _ _ _ _ _ _ (mkF m 14 Ls3 [])
  refine own_step (fun t k => XS.lloadN (v := q1) X0.here hx rfl (hb hby at_14) (by rw [hLs3]; rfl) k) ?_
  show own_Fin _ _ _ _ _ _ _ _ (mkF m 15 Ls3 [(.long q1)])
  obtain ⟨Ls4, hLs4⟩ : ∃ z : Array Slot, z = #[.val (.long q1), .second, .val (.long q2), .second, .val (.long q3), .second, .val (.long q4), .second, .val (.long q5), .second, .val (.int p6), .val (.long bt), .second, .val (.long kk), .second, .val (.long q1), .second, .unset, .unset, .unset, .unset, .unset, .unset, .unset, .unset, .unset, .unset, .unset, .unset, .unset, .unset, .unset, .unset, .unset, .unset, .unset, .unset] := ⟨_, rfl⟩
  refine own_step (fun t k => XS.lstore X0.here hx rfl (hb hby at_15) rfl (l' := Ls4) (by rw [hLs3, hLs4]; rfl) k) ?_
  show own_Fin _ _ _ _ _ _ _ _ (mkF m 17 Ls4 [])
  refine own_step (fun t k => XS.lloadN (v := q2) X0.here hx rfl (hb hby at_17) (by rw [hLs4]; rfl) k) ?_
  show own_Fin _ _ _ _ _ _ _ _ (mkF m 18 Ls4 [(.long q2)])
  obtain ⟨Ls5, hLs5⟩ : ∃ z : Array Slot, z = #[.val (.long q1), .second, .val (.long q2), .second, .val (.long q3), .second, .val (.long q4), .second, .val (.long q5), .second, .val (.int p6), .val (.long bt), .second, .val (.long kk), .second, .val (.long q1), .second, .val (.long q2), .second, .unset, .unset, .unset, .unset, .unset, .unset, .unset, .unset, .unset, .unset, .unset, .unset, .unset, .unset, .unset, .unset, .unset, .unset] := ⟨_, rfl⟩
  refine own_step (fun t k => XS.lstore X0.here hx rfl (hb hby at_18) rfl (l' := Ls5) (by rw [hLs4, hLs5]; rfl) k) ?_
  show own_Fin _ _ _ _ _ _ _ _ (mkF m 20 Ls5 [])
  refine own_step (fun t k => XS.lload (v := q3) X0.here hx rfl (hb hby at_20) (by rw [hLs5]; rfl) k) ?_
  show own_Fin _ _ _ _ _ _ _ _ (mkF m 22 Ls5 [(.long q3)])
  obtain ⟨Ls6, hLs6⟩ : ∃ z : Array Slot, z = #[.val (.long q1), .second, .val (.long q2), .second, .val (.long q3), .second, .val (.long q4), .second, .val (.long q5), .second, .val (.int p6), .val (.long bt), .second, .val (.long kk), .second, .val (.long q1), .second, .val (.long q2), .second, .val (.long q3), .second, .unset, .unset, .unset, .unset, .unset, .unset, .unset, .unset, .unset, .unset, .unset, .unset, .unset, .unset, .unset, .unset] := ⟨_, rfl⟩
  refine own_step (fun t k => XS.lstore X0.here hx rfl (hb hby at_22) rfl (l' := Ls6) (by rw [hLs5, hLs6]; rfl) k) ?_
  show own_Fin _ _ _ _ _ _ _ _ (mkF m 24 Ls6 [])
  refine own_step (fun t k => XS.lload (v := q4) X0.here hx rfl (hb hby at_24) (by rw [hLs6]; rfl) k) ?_
  show own_Fin _ _ _ _ _ _ _ _ (mkF m 26 Ls6 [(.long q4)])
  obtain ⟨Ls7, hLs7⟩ : ∃ z : Array Slot, z = #[.val (.long q1), .second, .val (.long q2), .second, .val (.long q3), .second, .val (.long q4), .second, .val (.long q5), .second, .val (.int p6), .val (.long bt), .second, .val (.long kk), .second, .val (.long q1), .second, .val (.long q2), .second, .val (.long q3), .second, .val (.long q4), .second, .unset, .unset, .unset, .unset, .unset, .unset, .unset, .unset, .unset, .unset, .unset, .unset, .unset, .unset] := ⟨_, rfl⟩
  refine own_step (fun t k => XS.lstore X0.here hx rfl (hb hby at_26) rfl (l' := Ls7) (by rw [hLs6, hLs7]; rfl) k) ?_
  show own_Fin _ _ _ _ _ _ _ _ (mkF m 28 Ls7 [])
  refine own_step (fun t k => XS.lload (v := q5) X0.here hx rfl (hb hby at_28) (by rw [hLs7]; rfl) k) ?_
  show own_Fin _ _ _ _ _ _ _ _ (mkF m 30 Ls7 [(.long q5)])
  obtain ⟨Ls8, hLs8⟩ : ∃ z : Array Slot, z = #[.val (.long q1), .second, .val (.long q2), .second, .val (.long q3), .second, .val (.long q4), .second, .val (.long q5), .second, .val (.int p6), .val (.long bt), .second, .val (.long kk), .second, .val (.long q1), .second, .val (.long q2), .second, .val (.long q3), .second, .val (.long q4), .second, .val (.long q5), .second, .unset, .unset, .unset, .unset, .unset, .unset, .unset, .unset, .unset, .unset, .unset, .unset] := ⟨_, rfl⟩
  refine own_step (fun t k => XS.lstore X0.here hx rfl (hb hby at_30) rfl (l' := Ls8) (by rw [hLs7, hLs8]; rfl) k) ?_
  show own_Fin _ _ _ _ _ _ _ _ (mkF m 32 Ls8 [])
  refine own_step (fun t k => XS.lload (v := q5) X0.here hx rfl (hb hby at_32) (by rw [hLs8]; rfl) k) ?_
  show own_Fin _ _ _ _ _ _ _ _ (mkF m 34 Ls8 [(.long q5)])
  obtain ⟨Ls9, hLs9⟩ : ∃ z : Array Slot, z = #[.val (.long q1), .second, .val (.long q2), .second, .val (.long q3), .second, .val (.long q4), .second, .val (.long q5), .second, .val (.int p6), .val (.long bt), .second, .val (.long kk), .second, .val (.long q1), .second, .val (.long q2), .second, .val (.long q3), .second, .val (.long q4), .second, .val (.long q5), .second, .val (.long q5), .second, .unset, .unset, .unset, .unset, .unset, .unset, .unset, .unset, .unset, .unset] := ⟨_, rfl⟩
  refine own_step (fun t k => XS.lstore X0.here hx rfl (hb hby at_34) rfl (l' := Ls9) (by rw [hLs8, hLs9]; rfl) k) ?_
  show own_Fin _ _ _ _ _ _ _ _ (mkF m 36 Ls9 [])
  refine own_step (fun t k => XS.lloadN (v := q1) X0.here hx rfl (hb hby at_36) (by rw [hLs9]; rfl) k) ?_
  show own_Fin _ _ _ _ _ _ _ _ (mkF m 37 Ls9 [(.long q1)])
  refine own_step (fun t k => XS.lload (v := kk) X0.here hx rfl (hb hby at_37) (by rw [hLs9]; rfl) k) ?_
  show own_Fin _ _ _ _ _ _ _ _ (mkF m 39 Ls9 [(.long kk), (.long q1)])
  refine own_step (fun t k => XS.lxor X0.here hx rfl (hb hby at_39) rfl k) ?_
  show own_Fin _ _ _ _ _ _ _ _ (mkF m 40 Ls9 [(.long (q1 ^^^ kk))])
  generalize hvg1 : (q1 ^^^ kk) = vg1
  obtain ⟨Ls10, hLs10⟩ : ∃ z : Array Slot, z = #[.val (.long q1), .second, .val (.long q2), .second, .val (.long q3), .second, .val (.long q4), .second, .val (.long q5), .second, .val (.int p6), .val (.long bt), .second, .val (.long kk), .second, .val (.long q1), .second, .val (.long q2), .second, .val (.long q3), .second, .val (.long q4), .second, .val (.long q5), .second, .val (.long q5), .second, .val (.long vg1), .second, .unset, .unset, .unset, .unset, .unset, .unset, .unset, .unset] := ⟨_, rfl⟩
  refine own_step (fun t k => XS.lstore X0.here hx rfl (hb hby at_40) rfl (l' := Ls10) (by rw [hLs9, hLs10]; rfl) k) ?_
  show own_Fin _ _ _ _ _ _ _ _ (mkF m 42 Ls10 [])
  refine own_step (fun t k => XS.lloadN (v := q2) X0.here hx rfl (hb hby at_42) (by rw [hLs10]; rfl) k) ?_
  show own_Fin _ _ _ _ _ _ _ _ (mkF m 43 Ls10 [(.long q2)])
  refine own_step (fun t k => XS.lload (v := kk) X0.here hx rfl (hb hby at_43) (by rw [hLs10]; rfl) k) ?_
  show own_Fin _ _ _ _ _ _ _ _ (mkF m 45 Ls10 [(.long kk), (.long q2)])
  refine own_step (fun t k => XS.ladd X0.here hx rfl (hb hby at_45) rfl k) ?_
  show own_Fin _ _ _ _ _ _ _ _ (mkF m 46 Ls10 [(.long (q2 + kk))])
  generalize hvg2 : (q2 + kk) = vg2
  obtain ⟨Ls11, hLs11⟩ : ∃ z : Array Slot, z = #[.val (.long q1), .second, .val (.long q2), .second, .val (.long q3), .second, .val (.long q4), .second, .val (.long q5), .second, .val (.int p6), .val (.long bt), .second, .val (.long kk), .second, .val (.long q1), .second, .val (.long q2), .second, .val (.long q3), .second, .val (.long q4), .second, .val (.long q5), .second, .val (.long q5), .second, .val (.long vg1), .second, .val (.long vg2), .second, .unset, .unset, .unset, .unset, .unset, .unset] := ⟨_, rfl⟩
  refine own_step (fun t k => XS.lstore X0.here hx rfl (hb hby at_46) rfl (l' := Ls11) (by rw [hLs10, hLs11]; rfl) k) ?_
  show own_Fin _ _ _ _ _ _ _ _ (mkF m 48 Ls11 [])
  refine own_step (fun t k => XS.lload (v := q3) X0.here hx rfl (hb hby at_48) (by rw [hLs11]; rfl) k) ?_
  show own_Fin _ _ _ _ _ _ _ _ (mkF m 50 Ls11 [(.long q3)])
  refine own_step (fun t k => X0.ldc2Long hx hown (mvT hZ (hw _ (List.mem_of_getElem? (i := 0) rfl))) (g := (mkF m 50 Ls11 [(.long q3)])) rfl (hb hby at_50) _ k) ?_
  show own_Fin _ _ _ _ _ _ _ _ (mkF m 53 Ls11 [(.long (-1 : Int64)), (.long q3)])
  refine own_step (fun t k => XS.lxor X0.here hx rfl (hb hby at_53) rfl k) ?_
  show own_Fin _ _ _ _ _ _ _ _ (mkF m 54 Ls11 [(.long (q3 ^^^ (-1 : Int64)))])
  generalize hvg3 : (q3 ^^^ (-1 : Int64)) = vg3
  obtain ⟨Ls12, hLs12⟩ : ∃ z : Array Slot, z = #[.val (.long q1), .second, .val (.long q2), .second, .val (.long q3), .second, .val (.long q4), .second, .val (.long q5), .second, .val (.int p6), .val (.long bt), .second, .val (.long kk), .second, .val (.long q1), .second, .val (.long q2), .second, .val (.long q3), .second, .val (.long q4), .second, .val (.long q5), .second, .val (.long q5), .second, .val (.long vg1), .second, .val (.long vg2), .second, .val (.long vg3), .second, .unset, .unset, .unset, .unset] := ⟨_, rfl⟩
  refine own_step (fun t k => XS.lstore X0.here hx rfl (hb hby at_54) rfl (l' := Ls12) (by rw [hLs11, hLs12]; rfl) k) ?_
  show own_Fin _ _ _ _ _ _ _ _ (mkF m 56 Ls12 [])
  refine own_step (fun t k => XS.lload (v := q4) X0.here hx rfl (hb hby at_56) (by rw [hLs12]; rfl) k) ?_
  show own_Fin _ _ _ _ _ _ _ _ (mkF m 58 Ls12 [(.long q4)])
  refine own_step (fun t k => XS.lload (v := kk) X0.here hx rfl (hb hby at_58) (by rw [hLs12]; rfl) k) ?_
  show own_Fin _ _ _ _ _ _ _ _ (mkF m 60 Ls12 [(.long kk), (.long q4)])
  refine own_step (fun t k => XS.lsub X0.here hx rfl (hb hby at_60) rfl k) ?_
  show own_Fin _ _ _ _ _ _ _ _ (mkF m 61 Ls12 [(.long (q4 - kk))])
  generalize hvg4 : (q4 - kk) = vg4
  obtain ⟨Ls13, hLs13⟩ : ∃ z : Array Slot, z = #[.val (.long q1), .second, .val (.long q2), .second, .val (.long q3), .second, .val (.long q4), .second, .val (.long q5), .second, .val (.int p6), .val (.long bt), .second, .val (.long kk), .second, .val (.long q1), .second, .val (.long q2), .second, .val (.long q3), .second, .val (.long q4), .second, .val (.long q5), .second, .val (.long q5), .second, .val (.long vg1), .second, .val (.long vg2), .second, .val (.long vg3), .second, .val (.long vg4), .second, .unset, .unset] := ⟨_, rfl⟩
  refine own_step (fun t k => XS.lstore X0.here hx rfl (hb hby at_61) rfl (l' := Ls13) (by rw [hLs12, hLs13]; rfl) k) ?_
  show own_Fin _ _ _ _ _ _ _ _ (mkF m 63 Ls13 [])
  refine own_step (fun t k => XS.iconst X0.here hx rfl (hb hby at_63) k) ?_
  show own_Fin _ _ _ _ _ _ _ _ (mkF m 64 Ls13 [(.int (5 : Int32))])
  obtain ⟨T14, h14, k14, X14, e14, E14, A14, st14⟩ := newP X0 hx hZ (hw _ (List.mem_of_getElem? (i := 1) rfl)) e0 (g := (mkF m 64 Ls13 [(.int (5 : Int32))])) rfl (hb hby at_64) rfl (by decide) (cap := 5) (by decide) (by decide) (by decide) (by decide)
  obtain ⟨b14, g14⟩ : ∃ z, z = h0.size := ⟨_, rfl⟩
  rw [← g14] at A14 st14
  refine own_step st14 ?_
  have g_b14 : n0 ≤ b14 := Nat.le_trans Zs (Nat.le_of_eq g14.symm)
  replace Zs := Nat.le_trans Zs E14.1
  have V_b14 := own_AJ.new (n := 5) A14 (by decide)
  show own_Fin _ _ _ _ _ _ _ _ (mkF m 66 Ls13 [(.ref b14)])
  refine own_step (fun t k => XS.dup X14.here hx rfl (hb hby at_66) rfl rfl k) ?_
  show own_Fin _ _ _ _ _ _ _ _ (mkF m 67 Ls13 [(.ref b14), (.ref b14)])
  refine own_step (fun t k => XS.iconst X14.here hx rfl (hb hby at_67) k) ?_
  show own_Fin _ _ _ _ _ _ _ _ (mkF m 68 Ls13 [(.int (0 : Int32)), (.ref b14), (.ref b14)])
  refine own_step (fun t k => XS.lload (v := q1) X14.here hx rfl (hb hby at_68) (by rw [hLs13]; rfl) k) ?_
  show own_Fin _ _ _ _ _ _ _ _ (mkF m 70 Ls13 [(.long q1), (.int (0 : Int32)), (.ref b14), (.ref b14)])
  obtain ⟨T15, h15, X15, e15, W15, B15, st15⟩ := own_lastore X14 hx hZ e14 V_b14 (j := (0 : Int32)) (k := 0) rfl (by decide) (x := q1) (pc := 70) (Ls := Ls13) (rest := [(.ref b14)]) (hb hby at_70) rfl
  refine own_step st15 ?_
  replace Zs : n0 ≤ h15.size := by rw [W15.size]; exact Zs
  replace V_b14 := B15
  replace Nf := Fr.snoc X15 Nf g_b14
  show own_Fin _ _ _ _ _ _ _ _ (mkF m 71 Ls13 [(.ref b14)])
  refine own_step (fun t k => XS.dup X15.here hx rfl (hb hby at_71) rfl rfl k) ?_
  show own_Fin _ _ _ _ _ _ _ _ (mkF m 72 Ls13 [(.ref b14), (.ref b14)])
  refine own_step (fun t k => XS.iconst X15.here hx rfl (hb hby at_72) k) ?_
  show own_Fin _ _ _ _ _ _ _ _ (mkF m 73 Ls13 [(.int (1 : Int32)), (.ref b14), (.ref b14)])
  refine own_step (fun t k => XS.lload (v := q2) X15.here hx rfl (hb hby at_73) (by rw [hLs13]; rfl) k) ?_
  show own_Fin _ _ _ _ _ _ _ _ (mkF m 75 Ls13 [(.long q2), (.int (1 : Int32)), (.ref b14), (.ref b14)])
  obtain ⟨T16, h16, X16, e16, W16, B16, st16⟩ := own_lastore X15 hx hZ e15 V_b14 (j := (1 : Int32)) (k := 1) rfl (by decide) (x := q2) (pc := 75) (Ls := Ls13) (rest := [(.ref b14)]) (hb hby at_75) rfl
  refine own_step st16 ?_
  replace Zs : n0 ≤ h16.size := by rw [W16.size]; exact Zs
  replace V_b14 := B16
  replace Nf := Fr.snoc X16 Nf g_b14
  show own_Fin _ _ _ _ _ _ _ _ (mkF m 76 Ls13 [(.ref b14)])
  refine own_step (fun t k => XS.dup X16.here hx rfl (hb hby at_76) rfl rfl k) ?_
  show own_Fin _ _ _ _ _ _ _ _ (mkF m 77 Ls13 [(.ref b14), (.ref b14)])
  refine own_step (fun t k => XS.iconst X16.here hx rfl (hb hby at_77) k) ?_
  show own_Fin _ _ _ _ _ _ _ _ (mkF m 78 Ls13 [(.int (2 : Int32)), (.ref b14), (.ref b14)])
  refine own_step (fun t k => XS.lload (v := q3) X16.here hx rfl (hb hby at_78) (by rw [hLs13]; rfl) k) ?_
  show own_Fin _ _ _ _ _ _ _ _ (mkF m 80 Ls13 [(.long q3), (.int (2 : Int32)), (.ref b14), (.ref b14)])
  obtain ⟨T17, h17, X17, e17, W17, B17, st17⟩ := own_lastore X16 hx hZ e16 V_b14 (j := (2 : Int32)) (k := 2) rfl (by decide) (x := q3) (pc := 80) (Ls := Ls13) (rest := [(.ref b14)]) (hb hby at_80) rfl
  refine own_step st17 ?_
  replace Zs : n0 ≤ h17.size := by rw [W17.size]; exact Zs
  replace V_b14 := B17
  replace Nf := Fr.snoc X17 Nf g_b14
  show own_Fin _ _ _ _ _ _ _ _ (mkF m 81 Ls13 [(.ref b14)])
  refine own_step (fun t k => XS.dup X17.here hx rfl (hb hby at_81) rfl rfl k) ?_
  show own_Fin _ _ _ _ _ _ _ _ (mkF m 82 Ls13 [(.ref b14), (.ref b14)])
  refine own_step (fun t k => XS.iconst X17.here hx rfl (hb hby at_82) k) ?_
  show own_Fin _ _ _ _ _ _ _ _ (mkF m 83 Ls13 [(.int (3 : Int32)), (.ref b14), (.ref b14)])
  refine own_step (fun t k => XS.lload (v := q4) X17.here hx rfl (hb hby at_83) (by rw [hLs13]; rfl) k) ?_
  show own_Fin _ _ _ _ _ _ _ _ (mkF m 85 Ls13 [(.long q4), (.int (3 : Int32)), (.ref b14), (.ref b14)])
  obtain ⟨T18, h18, X18, e18, W18, B18, st18⟩ := own_lastore X17 hx hZ e17 V_b14 (j := (3 : Int32)) (k := 3) rfl (by decide) (x := q4) (pc := 85) (Ls := Ls13) (rest := [(.ref b14)]) (hb hby at_85) rfl
  refine own_step st18 ?_
  replace Zs : n0 ≤ h18.size := by rw [W18.size]; exact Zs
  replace V_b14 := B18
  replace Nf := Fr.snoc X18 Nf g_b14
  show own_Fin _ _ _ _ _ _ _ _ (mkF m 86 Ls13 [(.ref b14)])
  refine own_step (fun t k => XS.dup X18.here hx rfl (hb hby at_86) rfl rfl k) ?_
  show own_Fin _ _ _ _ _ _ _ _ (mkF m 87 Ls13 [(.ref b14), (.ref b14)])
  refine own_step (fun t k => XS.iconst X18.here hx rfl (hb hby at_87) k) ?_
  show own_Fin _ _ _ _ _ _ _ _ (mkF m 88 Ls13 [(.int (4 : Int32)), (.ref b14), (.ref b14)])
  refine own_step (fun t k => XS.lload (v := q5) X18.here hx rfl (hb hby at_88) (by rw [hLs13]; rfl) k) ?_
  show own_Fin _ _ _ _ _ _ _ _ (mkF m 90 Ls13 [(.long q5), (.int (4 : Int32)), (.ref b14), (.ref b14)])
  obtain ⟨T19, h19, X19, e19, W19, B19, st19⟩ := own_lastore X18 hx hZ e18 V_b14 (j := (4 : Int32)) (k := 4) rfl (by decide) (x := q5) (pc := 90) (Ls := Ls13) (rest := [(.ref b14)]) (hb hby at_90) rfl
  refine own_step st19 ?_
  replace Zs : n0 ≤ h19.size := by rw [W19.size]; exact Zs
  replace V_b14 := B19
  replace Nf := Fr.snoc X19 Nf g_b14
  show own_Fin _ _ _ _ _ _ _ _ (mkF m 91 Ls13 [(.ref b14)])
  obtain ⟨Ls20, hLs20⟩ : ∃ z : Array Slot, z = #[.val (.long q1), .second, .val (.long q2), .second, .val (.long q3), .second, .val (.long q4), .second, .val (.long q5), .second, .val (.int p6), .val (.long bt), .second, .val (.long kk), .second, .val (.long q1), .second, .val (.long q2), .second, .val (.long q3), .second, .val (.long q4), .second, .val (.long q5), .second, .val (.long q5), .second, .val (.long vg1), .second, .val (.long vg2), .second, .val (.long vg3), .second, .val (.long vg4), .second, .val (.ref b14), .unset] := ⟨_, rfl⟩
  refine own_step (fun t k => XS.astore X19.here hx rfl (hb hby at_91) rfl rfl (l' := Ls20) (by rw [hLs13, hLs20]; rfl) k) ?_
  show own_Fin _ _ _ _ _ _ _ _ (mkF m 93 Ls20 [])
  refine own_step (fun t k => XS.iconst X19.here hx rfl (hb hby at_93) k) ?_
  show own_Fin _ _ _ _ _ _ _ _ (mkF m 94 Ls20 [(.int (5 : Int32))])
  obtain ⟨T21, h21, k21, X21, e21, E21, A21, st21⟩ := newP X19 hx hZ (hw _ (List.mem_of_getElem? (i := 1) rfl)) e19 (g := (mkF m 94 Ls20 [(.int (5 : Int32))])) rfl (hb hby at_94) rfl (by decide) (cap := 5) (by decide) (by decide) (by decide) (by decide)
  obtain ⟨b21, g21⟩ : ∃ z, z = h19.size := ⟨_, rfl⟩
  rw [← g21] at A21 st21
  refine own_step st21 ?_
  have ne_b14_b21 : b14 ≠ b21 := Nat.ne_of_lt (Nat.lt_of_lt_of_le V_b14.lt (Nat.le_of_eq g21.symm))
  have g_b21 : n0 ≤ b21 := Nat.le_trans Zs (Nat.le_of_eq g21.symm)
  replace V_b14 := V_b14.ext E21
  replace Zs := Nat.le_trans Zs E21.1
  have V_b21 := own_AJ.new (n := 5) A21 (by decide)
  show own_Fin _ _ _ _ _ _ _ _ (mkF m 96 Ls20 [(.ref b21)])
  refine own_step (fun t k => XS.dup X21.here hx rfl (hb hby at_96) rfl rfl k) ?_
  show own_Fin _ _ _ _ _ _ _ _ (mkF m 97 Ls20 [(.ref b21), (.ref b21)])
  refine own_step (fun t k => XS.iconst X21.here hx rfl (hb hby at_97) k) ?_
  show own_Fin _ _ _ _ _ _ _ _ (mkF m 98 Ls20 [(.int (0 : Int32)), (.ref b21), (.ref b21)])
  refine own_step (fun t k => XS.lload (v := q5) X21.here hx rfl (hb hby at_98) (by rw [hLs20]; rfl) k) ?_
  show own_Fin _ _ _ _ _ _ _ _ (mkF m 100 Ls20 [(.long q5), (.int (0 : Int32)), (.ref b21), (.ref b21)])
  obtain ⟨T22, h22, X22, e22, W22, B22, st22⟩ := own_lastore X21 hx hZ e21 V_b21 (j := (0 : Int32)) (k := 0) rfl (by decide) (x := q5) (pc := 100) (Ls := Ls20) (rest := [(.ref b21)]) (hb hby at_100) rfl
  refine own_step st22 ?_
  replace V_b14 := V_b14.other W22 ne_b14_b21
  replace Zs : n0 ≤ h22.size := by rw [W22.size]; exact Zs
  replace V_b21 := B22
  replace Nf := Fr.snoc X22 Nf g_b21
  show own_Fin _ _ _ _ _ _ _ _ (mkF m 101 Ls20 [(.ref b21)])
  refine own_step (fun t k => XS.dup X22.here hx rfl (hb hby at_101) rfl rfl k) ?_
  show own_Fin _ _ _ _ _ _ _ _ (mkF m 102 Ls20 [(.ref b21), (.ref b21)])
  refine own_step (fun t k => XS.iconst X22.here hx rfl (hb hby at_102) k) ?_
  show own_Fin _ _ _ _ _ _ _ _ (mkF m 103 Ls20 [(.int (1 : Int32)), (.ref b21), (.ref b21)])
  refine own_step (fun t k => XS.lload (v := vg1) X22.here hx rfl (hb hby at_103) (by rw [hLs20]; rfl) k) ?_
  show own_Fin _ _ _ _ _ _ _ _ (mkF m 105 Ls20 [(.long vg1), (.int (1 : Int32)), (.ref b21), (.ref b21)])
  obtain ⟨T23, h23, X23, e23, W23, B23, st23⟩ := own_lastore X22 hx hZ e22 V_b21 (j := (1 : Int32)) (k := 1) rfl (by decide) (x := vg1) (pc := 105) (Ls := Ls20) (rest := [(.ref b21)]) (hb hby at_105) rfl
  refine own_step st23 ?_
  replace V_b14 := V_b14.other W23 ne_b14_b21
  replace Zs : n0 ≤ h23.size := by rw [W23.size]; exact Zs
  replace V_b21 := B23
  replace Nf := Fr.snoc X23 Nf g_b21
  show own_Fin _ _ _ _ _ _ _ _ (mkF m 106 Ls20 [(.ref b21)])
  refine own_step (fun t k => XS.dup X23.here hx rfl (hb hby at_106) rfl rfl k) ?_
  show own_Fin _ _ _ _ _ _ _ _ (mkF m 107 Ls20 [(.ref b21), (.ref b21)])
  refine own_step (fun t k => XS.iconst X23.here hx rfl (hb hby at_107) k) ?_
  show own_Fin _ _ _ _ _ _ _ _ (mkF m 108 Ls20 [(.int (2 : Int32)), (.ref b21), (.ref b21)])
  refine own_step (fun t k => XS.lload (v := vg2) X23.here hx rfl (hb hby at_108) (by rw [hLs20]; rfl) k) ?_
  show own_Fin _ _ _ _ _ _ _ _ (mkF m 110 Ls20 [(.long vg2), (.int (2 : Int32)), (.ref b21), (.ref b21)])
  obtain ⟨T24, h24, X24, e24, W24, B24, st24⟩ := own_lastore X23 hx hZ e23 V_b21 (j := (2 : Int32)) (k := 2) rfl (by decide) (x := vg2) (pc := 110) (Ls := Ls20) (rest := [(.ref b21)]) (hb hby at_110) rfl
  refine own_step st24 ?_
  replace V_b14 := V_b14.other W24 ne_b14_b21
  replace Zs : n0 ≤ h24.size := by rw [W24.size]; exact Zs
  replace V_b21 := B24
  replace Nf := Fr.snoc X24 Nf g_b21
  show own_Fin _ _ _ _ _ _ _ _ (mkF m 111 Ls20 [(.ref b21)])
  refine own_step (fun t k => XS.dup X24.here hx rfl (hb hby at_111) rfl rfl k) ?_
  show own_Fin _ _ _ _ _ _ _ _ (mkF m 112 Ls20 [(.ref b21), (.ref b21)])
  refine own_step (fun t k => XS.iconst X24.here hx rfl (hb hby at_112) k) ?_
  show own_Fin _ _ _ _ _ _ _ _ (mkF m 113 Ls20 [(.int (3 : Int32)), (.ref b21), (.ref b21)])
  refine own_step (fun t k => XS.lload (v := vg3) X24.here hx rfl (hb hby at_113) (by rw [hLs20]; rfl) k) ?_
  show own_Fin _ _ _ _ _ _ _ _ (mkF m 115 Ls20 [(.long vg3), (.int (3 : Int32)), (.ref b21), (.ref b21)])
  obtain ⟨T25, h25, X25, e25, W25, B25, st25⟩ := own_lastore X24 hx hZ e24 V_b21 (j := (3 : Int32)) (k := 3) rfl (by decide) (x := vg3) (pc := 115) (Ls := Ls20) (rest := [(.ref b21)]) (hb hby at_115) rfl
  refine own_step st25 ?_
  replace V_b14 := V_b14.other W25 ne_b14_b21
  replace Zs : n0 ≤ h25.size := by rw [W25.size]; exact Zs
  replace V_b21 := B25
  replace Nf := Fr.snoc X25 Nf g_b21
  show own_Fin _ _ _ _ _ _ _ _ (mkF m 116 Ls20 [(.ref b21)])
  refine own_step (fun t k => XS.dup X25.here hx rfl (hb hby at_116) rfl rfl k) ?_
  show own_Fin _ _ _ _ _ _ _ _ (mkF m 117 Ls20 [(.ref b21), (.ref b21)])
  refine own_step (fun t k => XS.iconst X25.here hx rfl (hb hby at_117) k) ?_
  show own_Fin _ _ _ _ _ _ _ _ (mkF m 118 Ls20 [(.int (4 : Int32)), (.ref b21), (.ref b21)])
  refine own_step (fun t k => XS.lload (v := vg4) X25.here hx rfl (hb hby at_118) (by rw [hLs20]; rfl) k) ?_
  show own_Fin _ _ _ _ _ _ _ _ (mkF m 120 Ls20 [(.long vg4), (.int (4 : Int32)), (.ref b21), (.ref b21)])
  obtain ⟨T26, h26, X26, e26, W26, B26, st26⟩ := own_lastore X25 hx hZ e25 V_b21 (j := (4 : Int32)) (k := 4) rfl (by decide) (x := vg4) (pc := 120) (Ls := Ls20) (rest := [(.ref b21)]) (hb hby at_120) rfl
  refine own_step st26 ?_
  replace V_b14 := V_b14.other W26 ne_b14_b21
  replace Zs : n0 ≤ h26.size := by rw [W26.size]; exact Zs
  replace V_b21 := B26
  replace Nf := Fr.snoc X26 Nf g_b21
  show own_Fin _ _ _ _ _ _ _ _ (mkF m 121 Ls20 [(.ref b21)])
  obtain ⟨Ls27, hLs27⟩ : ∃ z : Array Slot, z = #[.val (.long q1), .second, .val (.long q2), .second, .val (.long q3), .second, .val (.long q4), .second, .val (.long q5), .second, .val (.int p6), .val (.long bt), .second, .val (.long kk), .second, .val (.long q1), .second, .val (.long q2), .second, .val (.long q3), .second, .val (.long q4), .second, .val (.long q5), .second, .val (.long q5), .second, .val (.long vg1), .second, .val (.long vg2), .second, .val (.long vg3), .second, .val (.long vg4), .second, .val (.ref b14), .val (.ref b21)] := ⟨_, rfl⟩
  refine own_step (fun t k => XS.astore X26.here hx rfl (hb hby at_121) rfl rfl (l' := Ls27) (by rw [hLs20, hLs27]; rfl) k) ?_
  show own_Fin _ _ _ _ _ _ _ _ (mkF m 123 Ls27 [])
  refine own_step (fun t k => XS.aload (v := (.ref b14)) X26.here hx rfl (hb hby at_123) (by rw [hLs27]; rfl) rfl k) ?_
  show own_Fin _ _ _ _ _ _ _ _ (mkF m 125 Ls27 [(.ref b14)])
  refine own_step (fun t k => XS.aload (v := (.ref b21)) X26.here hx rfl (hb hby at_125) (by rw [hLs27]; rfl) rfl k) ?_
  show own_Fin _ _ _ _ _ _ _ _ (mkF m 127 Ls27 [(.ref b21), (.ref b14)])
  refine own_step (fun t k => XS.lload (v := bt) X26.here hx rfl (hb hby at_127) (by rw [hLs27]; rfl) k) ?_
  show own_Fin _ _ _ _ _ _ _ _ (mkF m 129 Ls27 [(.long bt), (.ref b21), (.ref b14)])
  obtain ⟨fE, V_b14, hfE_0, hfE_1, hfE_2, hfE_3, hfE_4⟩ : ∃ f, own_AJ Z h26 b14 5 f ∧ f 0 = q1 ∧ f 1 = q2 ∧ f 2 = q3 ∧ f 3 = q4 ∧ f 4 = q5 := ⟨_, V_b14, rfl, rfl, rfl, rfl, rfl⟩
  obtain ⟨gE, V_b21, hgE_0, hgE_1, hgE_2, hgE_3, hgE_4⟩ : ∃ f, own_AJ Z h26 b21 5 f ∧ f 0 = q5 ∧ f 1 = vg1 ∧ f 2 = vg2 ∧ f 3 = vg3 ∧ f 4 = vg4 := ⟨_, V_b21, rfl, rfl, rfl, rfl, rfl⟩
  obtain ⟨_, _, ⟨T28, L28, k28, n28⟩, -, X28, ⟨Lc28, hQ28, l28, y28, z28⟩, st28⟩ := Jvm.LawKit.callS X26 hx (y := (⟨"com/example/quietwire/quietwire/Field25519", "swap", "([J[JJ)V"⟩ : MethodName)) hown (mvT hZ (hw _ (List.mem_of_getElem? (i := 2) rfl))) (mvT hZ (hw _ (List.mem_of_getElem? (i := 3) rfl))) (mvT hZ (hw _ (List.mem_of_getElem? (i := 4) rfl))) (mvT hZ (hw _ (List.mem_of_getElem? (i := 5) rfl))) (by decide) (backOf (W := 0) (rm1 l Z a0 hw [] b14 b21 bt _ _ h26 n0 Zs V_b14 V_b21 g_b14 g_b21 ne_b14_b21) hZ (hw _ (List.mem_of_getElem? (i := 5) rfl)) (hw _ (List.mem_of_getElem? (i := 4) rfl)) (by decide) (by decide)) (g := (mkF m 129 Ls27 [(.long bt), (.ref b21), (.ref b14)])) rfl (by rw [hml]; show Array.size Ls27 = _; rw [hLs27]; rfl) (argsL := [(.ref b14), (.ref b21), (.long bt)]) (rest := []) (lenOf own_pd_0 rfl) rfl (by show 2 * 0 + _ ≤ _; exact Nat.le_of_eq rfl) (hb hby at_129) (fun _ _ => ⟨rfl, e26, (by decide : 2 + 0 ≤ _), (by decide : 10 + 0 ≤ _)⟩)
  dsimp only [Pt.U, Pt.locs, Pt.cells, Pt.slots] at X28 l28 y28 z28 st28 hQ28
  subst l28 y28 z28
  obtain ⟨rfl, Nq28, Kq28, P28_0, P28_1⟩ := hQ28
  replace Nf := Fr.app Nf Nq28
  replace V_b14 := P28_0
  replace V_b21 := P28_1
  replace Zs := Nat.le_trans Zs Kq28.1
  refine own_step st28 ?_
  show own_Fin _ _ _ _ _ _ _ _ (mkF m 132 Ls27 [])
  refine own_step (fun t k => XS.lload (v := bt) X28.here hx rfl (hb hby at_132) (by rw [hLs27]; rfl) k) ?_
  show own_Fin _ _ _ _ _ _ _ _ (mkF m 134 Ls27 [(.long bt)])
  refine own_step (fun t k => XS.lconst X28.here hx rfl (hb hby at_134) k) ?_
  show own_Fin _ _ _ _ _ _ _ _ (mkF m 135 Ls27 [(.long (1 : Int64)), (.long bt)])
  refine own_step (fun t k => XS.lcmp X28.here hx rfl (hb hby at_135) rfl k) ?_
  show own_Fin _ _ _ _ _ _ _ _ (mkF m 136 Ls27 [(.int (lcmpW bt (1 : Int64)))])
  by_cases hc29 : (bt).toInt = 1
  · skip
    refine own_step (fun t k => XS.ifNo X28.here hx rfl (hb hby at_136) rfl (own_le (x := bt) (y := (1 : Int64)) rfl rfl hc29).2 k) ?_
    show own_Fin _ _ _ _ _ _ _ _ (mkF m 139 Ls27 [])
    have hbit : bt.toInt = 1 := hc29
    refine own_step (fun t k => XS.aload (v := (.ref b14)) X28.here hx rfl (hb hby at_139) (by rw [hLs27]; rfl) rfl k) ?_
    show own_Fin _ _ _ _ _ _ _ _ (mkF m 141 Ls27 [(.ref b14)])
    refine own_step (fun t k => XS.iconst X28.here hx rfl (hb hby at_141) k) ?_
    show own_Fin _ _ _ _ _ _ _ _ (mkF m 142 Ls27 [(.int (0 : Int32)), (.ref b14)])
    refine own_laload X28 hx hZ rfl V_b14 (k := 0) rfl (by decide) (v := ((own_swF bt fE gE) 0)) rfl (hb hby at_142) rfl ?_
    show own_Fin _ _ _ _ _ _ _ _ (mkF m 143 Ls27 [(.long ((own_swF bt fE gE) 0))])
    refine own_step (fun t k => XS.lload (v := q5) X28.here hx rfl (hb hby at_143) (by rw [hLs27]; rfl) k) ?_
    show own_Fin _ _ _ _ _ _ _ _ (mkF m 145 Ls27 [(.long q5), (.long ((own_swF bt fE gE) 0))])
    refine own_step (fun t k => XS.lcmp X28.here hx rfl (hb hby at_145) rfl k) ?_
    show own_Fin _ _ _ _ _ _ _ _ (mkF m 146 Ls27 [(.int (lcmpW ((own_swF bt fE gE) 0) q5))])
    have hc30 : (((own_swF bt fE gE) 0)).toInt = (q5).toInt := by rw [own_F1 hbit, hgE_0]
    refine own_step (fun t k => XS.ifNo X28.here hx rfl (hb hby at_146) rfl (own_le (x := ((own_swF bt fE gE) 0)) (y := q5) rfl rfl hc30).2 k) ?_
    show own_Fin _ _ _ _ _ _ _ _ (mkF m 149 Ls27 [])
    refine own_step (fun t k => XS.aload (v := (.ref b14)) X28.here hx rfl (hb hby at_149) (by rw [hLs27]; rfl) rfl k) ?_
    show own_Fin _ _ _ _ _ _ _ _ (mkF m 151 Ls27 [(.ref b14)])
    refine own_step (fun t k => XS.iconst X28.here hx rfl (hb hby at_151) k) ?_
    show own_Fin _ _ _ _ _ _ _ _ (mkF m 152 Ls27 [(.int (1 : Int32)), (.ref b14)])
    refine own_laload X28 hx hZ rfl V_b14 (k := 1) rfl (by decide) (v := ((own_swF bt fE gE) 1)) rfl (hb hby at_152) rfl ?_
    show own_Fin _ _ _ _ _ _ _ _ (mkF m 153 Ls27 [(.long ((own_swF bt fE gE) 1))])
    refine own_step (fun t k => XS.lload (v := vg1) X28.here hx rfl (hb hby at_153) (by rw [hLs27]; rfl) k) ?_
    show own_Fin _ _ _ _ _ _ _ _ (mkF m 155 Ls27 [(.long vg1), (.long ((own_swF bt fE gE) 1))])
    refine own_step (fun t k => XS.lcmp X28.here hx rfl (hb hby at_155) rfl k) ?_
    show own_Fin _ _ _ _ _ _ _ _ (mkF m 156 Ls27 [(.int (lcmpW ((own_swF bt fE gE) 1) vg1))])
    have hc31 : (((own_swF bt fE gE) 1)).toInt = (vg1).toInt := by rw [own_F1 hbit, hgE_1]
    refine own_step (fun t k => XS.ifNo X28.here hx rfl (hb hby at_156) rfl (own_le (x := ((own_swF bt fE gE) 1)) (y := vg1) rfl rfl hc31).2 k) ?_
    show own_Fin _ _ _ _ _ _ _ _ (mkF m 159 Ls27 [])
    refine own_step (fun t k => XS.aload (v := (.ref b14)) X28.here hx rfl (hb hby at_159) (by rw [hLs27]; rfl) rfl k) ?_
    show own_Fin _ _ _ _ _ _ _ _ (mkF m 161 Ls27 [(.ref b14)])
    refine own_step (fun t k => XS.iconst X28.here hx rfl (hb hby at_161) k) ?_
    show own_Fin _ _ _ _ _ _ _ _ (mkF m 162 Ls27 [(.int (2 : Int32)), (.ref b14)])
    refine own_laload X28 hx hZ rfl V_b14 (k := 2) rfl (by decide) (v := ((own_swF bt fE gE) 2)) rfl (hb hby at_162) rfl ?_
    show own_Fin _ _ _ _ _ _ _ _ (mkF m 163 Ls27 [(.long ((own_swF bt fE gE) 2))])
    refine own_step (fun t k => XS.lload (v := vg2) X28.here hx rfl (hb hby at_163) (by rw [hLs27]; rfl) k) ?_
    show own_Fin _ _ _ _ _ _ _ _ (mkF m 165 Ls27 [(.long vg2), (.long ((own_swF bt fE gE) 2))])
    refine own_step (fun t k => XS.lcmp X28.here hx rfl (hb hby at_165) rfl k) ?_
    show own_Fin _ _ _ _ _ _ _ _ (mkF m 166 Ls27 [(.int (lcmpW ((own_swF bt fE gE) 2) vg2))])
    have hc32 : (((own_swF bt fE gE) 2)).toInt = (vg2).toInt := by rw [own_F1 hbit, hgE_2]
    refine own_step (fun t k => XS.ifNo X28.here hx rfl (hb hby at_166) rfl (own_le (x := ((own_swF bt fE gE) 2)) (y := vg2) rfl rfl hc32).2 k) ?_
    show own_Fin _ _ _ _ _ _ _ _ (mkF m 169 Ls27 [])
    refine own_step (fun t k => XS.aload (v := (.ref b14)) X28.here hx rfl (hb hby at_169) (by rw [hLs27]; rfl) rfl k) ?_
    show own_Fin _ _ _ _ _ _ _ _ (mkF m 171 Ls27 [(.ref b14)])
    refine own_step (fun t k => XS.iconst X28.here hx rfl (hb hby at_171) k) ?_
    show own_Fin _ _ _ _ _ _ _ _ (mkF m 172 Ls27 [(.int (3 : Int32)), (.ref b14)])
    refine own_laload X28 hx hZ rfl V_b14 (k := 3) rfl (by decide) (v := ((own_swF bt fE gE) 3)) rfl (hb hby at_172) rfl ?_
    show own_Fin _ _ _ _ _ _ _ _ (mkF m 173 Ls27 [(.long ((own_swF bt fE gE) 3))])
    refine own_step (fun t k => XS.lload (v := vg3) X28.here hx rfl (hb hby at_173) (by rw [hLs27]; rfl) k) ?_
    show own_Fin _ _ _ _ _ _ _ _ (mkF m 175 Ls27 [(.long vg3), (.long ((own_swF bt fE gE) 3))])
    refine own_step (fun t k => XS.lcmp X28.here hx rfl (hb hby at_175) rfl k) ?_
    show own_Fin _ _ _ _ _ _ _ _ (mkF m 176 Ls27 [(.int (lcmpW ((own_swF bt fE gE) 3) vg3))])
    have hc33 : (((own_swF bt fE gE) 3)).toInt = (vg3).toInt := by rw [own_F1 hbit, hgE_3]
    refine own_step (fun t k => XS.ifNo X28.here hx rfl (hb hby at_176) rfl (own_le (x := ((own_swF bt fE gE) 3)) (y := vg3) rfl rfl hc33).2 k) ?_
    show own_Fin _ _ _ _ _ _ _ _ (mkF m 179 Ls27 [])
    refine own_step (fun t k => XS.aload (v := (.ref b14)) X28.here hx rfl (hb hby at_179) (by rw [hLs27]; rfl) rfl k) ?_
    show own_Fin _ _ _ _ _ _ _ _ (mkF m 181 Ls27 [(.ref b14)])
    refine own_step (fun t k => XS.iconst X28.here hx rfl (hb hby at_181) k) ?_
    show own_Fin _ _ _ _ _ _ _ _ (mkF m 182 Ls27 [(.int (4 : Int32)), (.ref b14)])
    refine own_laload X28 hx hZ rfl V_b14 (k := 4) rfl (by decide) (v := ((own_swF bt fE gE) 4)) rfl (hb hby at_182) rfl ?_
    show own_Fin _ _ _ _ _ _ _ _ (mkF m 183 Ls27 [(.long ((own_swF bt fE gE) 4))])
    refine own_step (fun t k => XS.lload (v := vg4) X28.here hx rfl (hb hby at_183) (by rw [hLs27]; rfl) k) ?_
    show own_Fin _ _ _ _ _ _ _ _ (mkF m 185 Ls27 [(.long vg4), (.long ((own_swF bt fE gE) 4))])
    refine own_step (fun t k => XS.lcmp X28.here hx rfl (hb hby at_185) rfl k) ?_
    show own_Fin _ _ _ _ _ _ _ _ (mkF m 186 Ls27 [(.int (lcmpW ((own_swF bt fE gE) 4) vg4))])
    have hc34 : (((own_swF bt fE gE) 4)).toInt = (vg4).toInt := by rw [own_F1 hbit, hgE_4]
    refine own_step (fun t k => XS.ifNo X28.here hx rfl (hb hby at_186) rfl (own_le (x := ((own_swF bt fE gE) 4)) (y := vg4) rfl rfl hc34).2 k) ?_
    show own_Fin _ _ _ _ _ _ _ _ (mkF m 189 Ls27 [])
    refine own_step (fun t k => XS.aload (v := (.ref b21)) X28.here hx rfl (hb hby at_189) (by rw [hLs27]; rfl) rfl k) ?_
    show own_Fin _ _ _ _ _ _ _ _ (mkF m 191 Ls27 [(.ref b21)])
    refine own_step (fun t k => XS.iconst X28.here hx rfl (hb hby at_191) k) ?_
    show own_Fin _ _ _ _ _ _ _ _ (mkF m 192 Ls27 [(.int (0 : Int32)), (.ref b21)])
    refine own_laload X28 hx hZ rfl V_b21 (k := 0) rfl (by decide) (v := ((own_swG bt fE gE) 0)) rfl (hb hby at_192) rfl ?_
    show own_Fin _ _ _ _ _ _ _ _ (mkF m 193 Ls27 [(.long ((own_swG bt fE gE) 0))])
    refine own_step (fun t k => XS.lload (v := q1) X28.here hx rfl (hb hby at_193) (by rw [hLs27]; rfl) k) ?_
    show own_Fin _ _ _ _ _ _ _ _ (mkF m 195 Ls27 [(.long q1), (.long ((own_swG bt fE gE) 0))])
    refine own_step (fun t k => XS.lcmp X28.here hx rfl (hb hby at_195) rfl k) ?_
    show own_Fin _ _ _ _ _ _ _ _ (mkF m 196 Ls27 [(.int (lcmpW ((own_swG bt fE gE) 0) q1))])
    have hc35 : (((own_swG bt fE gE) 0)).toInt = (q1).toInt := by rw [own_G1 hbit, hfE_0]
    refine own_step (fun t k => XS.ifNo X28.here hx rfl (hb hby at_196) rfl (own_le (x := ((own_swG bt fE gE) 0)) (y := q1) rfl rfl hc35).2 k) ?_
    show own_Fin _ _ _ _ _ _ _ _ (mkF m 199 Ls27 [])
    refine own_step (fun t k => XS.aload (v := (.ref b21)) X28.here hx rfl (hb hby at_199) (by rw [hLs27]; rfl) rfl k) ?_
    show own_Fin _ _ _ _ _ _ _ _ (mkF m 201 Ls27 [(.ref b21)])
    refine own_step (fun t k => XS.iconst X28.here hx rfl (hb hby at_201) k) ?_
    show own_Fin _ _ _ _ _ _ _ _ (mkF m 202 Ls27 [(.int (1 : Int32)), (.ref b21)])
    refine own_laload X28 hx hZ rfl V_b21 (k := 1) rfl (by decide) (v := ((own_swG bt fE gE) 1)) rfl (hb hby at_202) rfl ?_
    show own_Fin _ _ _ _ _ _ _ _ (mkF m 203 Ls27 [(.long ((own_swG bt fE gE) 1))])
    refine own_step (fun t k => XS.lload (v := q2) X28.here hx rfl (hb hby at_203) (by rw [hLs27]; rfl) k) ?_
    show own_Fin _ _ _ _ _ _ _ _ (mkF m 205 Ls27 [(.long q2), (.long ((own_swG bt fE gE) 1))])
    refine own_step (fun t k => XS.lcmp X28.here hx rfl (hb hby at_205) rfl k) ?_
    show own_Fin _ _ _ _ _ _ _ _ (mkF m 206 Ls27 [(.int (lcmpW ((own_swG bt fE gE) 1) q2))])
    have hc36 : (((own_swG bt fE gE) 1)).toInt = (q2).toInt := by rw [own_G1 hbit, hfE_1]
    refine own_step (fun t k => XS.ifNo X28.here hx rfl (hb hby at_206) rfl (own_le (x := ((own_swG bt fE gE) 1)) (y := q2) rfl rfl hc36).2 k) ?_
    show own_Fin _ _ _ _ _ _ _ _ (mkF m 209 Ls27 [])
    refine own_step (fun t k => XS.aload (v := (.ref b21)) X28.here hx rfl (hb hby at_209) (by rw [hLs27]; rfl) rfl k) ?_
    show own_Fin _ _ _ _ _ _ _ _ (mkF m 211 Ls27 [(.ref b21)])
    refine own_step (fun t k => XS.iconst X28.here hx rfl (hb hby at_211) k) ?_
    show own_Fin _ _ _ _ _ _ _ _ (mkF m 212 Ls27 [(.int (2 : Int32)), (.ref b21)])
    refine own_laload X28 hx hZ rfl V_b21 (k := 2) rfl (by decide) (v := ((own_swG bt fE gE) 2)) rfl (hb hby at_212) rfl ?_
    show own_Fin _ _ _ _ _ _ _ _ (mkF m 213 Ls27 [(.long ((own_swG bt fE gE) 2))])
    refine own_step (fun t k => XS.lload (v := q3) X28.here hx rfl (hb hby at_213) (by rw [hLs27]; rfl) k) ?_
    show own_Fin _ _ _ _ _ _ _ _ (mkF m 215 Ls27 [(.long q3), (.long ((own_swG bt fE gE) 2))])
    refine own_step (fun t k => XS.lcmp X28.here hx rfl (hb hby at_215) rfl k) ?_
    show own_Fin _ _ _ _ _ _ _ _ (mkF m 216 Ls27 [(.int (lcmpW ((own_swG bt fE gE) 2) q3))])
    have hc37 : (((own_swG bt fE gE) 2)).toInt = (q3).toInt := by rw [own_G1 hbit, hfE_2]
    refine own_step (fun t k => XS.ifNo X28.here hx rfl (hb hby at_216) rfl (own_le (x := ((own_swG bt fE gE) 2)) (y := q3) rfl rfl hc37).2 k) ?_
    show own_Fin _ _ _ _ _ _ _ _ (mkF m 219 Ls27 [])
    refine own_step (fun t k => XS.aload (v := (.ref b21)) X28.here hx rfl (hb hby at_219) (by rw [hLs27]; rfl) rfl k) ?_
    show own_Fin _ _ _ _ _ _ _ _ (mkF m 221 Ls27 [(.ref b21)])
    refine own_step (fun t k => XS.iconst X28.here hx rfl (hb hby at_221) k) ?_
    show own_Fin _ _ _ _ _ _ _ _ (mkF m 222 Ls27 [(.int (3 : Int32)), (.ref b21)])
    refine own_laload X28 hx hZ rfl V_b21 (k := 3) rfl (by decide) (v := ((own_swG bt fE gE) 3)) rfl (hb hby at_222) rfl ?_
    show own_Fin _ _ _ _ _ _ _ _ (mkF m 223 Ls27 [(.long ((own_swG bt fE gE) 3))])
    refine own_step (fun t k => XS.lload (v := q4) X28.here hx rfl (hb hby at_223) (by rw [hLs27]; rfl) k) ?_
    show own_Fin _ _ _ _ _ _ _ _ (mkF m 225 Ls27 [(.long q4), (.long ((own_swG bt fE gE) 3))])
    refine own_step (fun t k => XS.lcmp X28.here hx rfl (hb hby at_225) rfl k) ?_
    show own_Fin _ _ _ _ _ _ _ _ (mkF m 226 Ls27 [(.int (lcmpW ((own_swG bt fE gE) 3) q4))])
    have hc38 : (((own_swG bt fE gE) 3)).toInt = (q4).toInt := by rw [own_G1 hbit, hfE_3]
    refine own_step (fun t k => XS.ifNo X28.here hx rfl (hb hby at_226) rfl (own_le (x := ((own_swG bt fE gE) 3)) (y := q4) rfl rfl hc38).2 k) ?_
    show own_Fin _ _ _ _ _ _ _ _ (mkF m 229 Ls27 [])
    refine own_step (fun t k => XS.aload (v := (.ref b21)) X28.here hx rfl (hb hby at_229) (by rw [hLs27]; rfl) rfl k) ?_
    show own_Fin _ _ _ _ _ _ _ _ (mkF m 231 Ls27 [(.ref b21)])
    refine own_step (fun t k => XS.iconst X28.here hx rfl (hb hby at_231) k) ?_
    show own_Fin _ _ _ _ _ _ _ _ (mkF m 232 Ls27 [(.int (4 : Int32)), (.ref b21)])
    refine own_laload X28 hx hZ rfl V_b21 (k := 4) rfl (by decide) (v := ((own_swG bt fE gE) 4)) rfl (hb hby at_232) rfl ?_
    show own_Fin _ _ _ _ _ _ _ _ (mkF m 233 Ls27 [(.long ((own_swG bt fE gE) 4))])
    refine own_step (fun t k => XS.lload (v := q5) X28.here hx rfl (hb hby at_233) (by rw [hLs27]; rfl) k) ?_
    show own_Fin _ _ _ _ _ _ _ _ (mkF m 235 Ls27 [(.long q5), (.long ((own_swG bt fE gE) 4))])
    refine own_step (fun t k => XS.lcmp X28.here hx rfl (hb hby at_235) rfl k) ?_
    show own_Fin _ _ _ _ _ _ _ _ (mkF m 236 Ls27 [(.int (lcmpW ((own_swG bt fE gE) 4) q5))])
    have hc39 : (((own_swG bt fE gE) 4)).toInt = (q5).toInt := by rw [own_G1 hbit, hfE_4]
    refine own_step (fun t k => XS.ifNo X28.here hx rfl (hb hby at_236) rfl (own_le (x := ((own_swG bt fE gE) 4)) (y := q5) rfl rfl hc39).2 k) ?_
    show own_Fin _ _ _ _ _ _ _ _ (mkF m 239 Ls27 [])
    refine own_step (fun t k => XS.iconst X28.here hx rfl (hb hby at_239) k) ?_
    show own_Fin _ _ _ _ _ _ _ _ (mkF m 240 Ls27 [(.int (1 : Int32))])
    refine own_step (fun t k => XS.goto X28.here hx rfl (pc0 := 240) (pc' := 244) rfl (hb hby at_240) (by decide) (by decide) k) ?_
    show own_Fin _ _ _ _ _ _ _ _ (mkF m 244 Ls27 [(.int (1 : Int32))])
    refine own_retZ X28 hx hlk Bd.returns (hb hby at_244) (z' := (1 : Int32)) (by decide) (by decide) (by decide) rfl ?_
    exact ⟨rfl, Nf⟩
  · skip
    refine own_step (fun t k => XS.ifYes X28.here hx rfl (pc0 := 136) (pc' := 245) rfl (hb hby at_136) rfl (own_lu (x := bt) (y := (1 : Int64)) rfl rfl hc29).2 (by decide) (by decide) k) ?_
    show own_Fin _ _ _ _ _ _ _ _ (mkF m 245 Ls27 [])
    have hbit : bt.toInt = 0 := by
      have q := own_bit p6 bt hbt
      omega
    refine own_step (fun t k => XS.aload (v := (.ref b14)) X28.here hx rfl (hb hby at_245) (by rw [hLs27]; rfl) rfl k) ?_
    show own_Fin _ _ _ _ _ _ _ _ (mkF m 247 Ls27 [(.ref b14)])
    refine own_step (fun t k => XS.iconst X28.here hx rfl (hb hby at_247) k) ?_
    show own_Fin _ _ _ _ _ _ _ _ (mkF m 248 Ls27 [(.int (0 : Int32)), (.ref b14)])
    refine own_laload X28 hx hZ rfl V_b14 (k := 0) rfl (by decide) (v := ((own_swF bt fE gE) 0)) rfl (hb hby at_248) rfl ?_
    show own_Fin _ _ _ _ _ _ _ _ (mkF m 249 Ls27 [(.long ((own_swF bt fE gE) 0))])
    refine own_step (fun t k => XS.lload (v := q1) X28.here hx rfl (hb hby at_249) (by rw [hLs27]; rfl) k) ?_
    show own_Fin _ _ _ _ _ _ _ _ (mkF m 251 Ls27 [(.long q1), (.long ((own_swF bt fE gE) 0))])
    refine own_step (fun t k => XS.lcmp X28.here hx rfl (hb hby at_251) rfl k) ?_
    show own_Fin _ _ _ _ _ _ _ _ (mkF m 252 Ls27 [(.int (lcmpW ((own_swF bt fE gE) 0) q1))])
    have hc40 : (((own_swF bt fE gE) 0)).toInt = (q1).toInt := by rw [own_F0 hbit, hfE_0]
    refine own_step (fun t k => XS.ifNo X28.here hx rfl (hb hby at_252) rfl (own_le (x := ((own_swF bt fE gE) 0)) (y := q1) rfl rfl hc40).2 k) ?_
    show own_Fin _ _ _ _ _ _ _ _ (mkF m 255 Ls27 [])
    refine own_step (fun t k => XS.aload (v := (.ref b14)) X28.here hx rfl (hb hby at_255) (by rw [hLs27]; rfl) rfl k) ?_
    show own_Fin _ _ _ _ _ _ _ _ (mkF m 257 Ls27 [(.ref b14)])
    refine own_step (fun t k => XS.iconst X28.here hx rfl (hb hby at_257) k) ?_
    show own_Fin _ _ _ _ _ _ _ _ (mkF m 258 Ls27 [(.int (1 : Int32)), (.ref b14)])
    refine own_laload X28 hx hZ rfl V_b14 (k := 1) rfl (by decide) (v := ((own_swF bt fE gE) 1)) rfl (hb hby at_258) rfl ?_
    show own_Fin _ _ _ _ _ _ _ _ (mkF m 259 Ls27 [(.long ((own_swF bt fE gE) 1))])
    refine own_step (fun t k => XS.lload (v := q2) X28.here hx rfl (hb hby at_259) (by rw [hLs27]; rfl) k) ?_
    show own_Fin _ _ _ _ _ _ _ _ (mkF m 261 Ls27 [(.long q2), (.long ((own_swF bt fE gE) 1))])
    refine own_step (fun t k => XS.lcmp X28.here hx rfl (hb hby at_261) rfl k) ?_
    show own_Fin _ _ _ _ _ _ _ _ (mkF m 262 Ls27 [(.int (lcmpW ((own_swF bt fE gE) 1) q2))])
    have hc41 : (((own_swF bt fE gE) 1)).toInt = (q2).toInt := by rw [own_F0 hbit, hfE_1]
    refine own_step (fun t k => XS.ifNo X28.here hx rfl (hb hby at_262) rfl (own_le (x := ((own_swF bt fE gE) 1)) (y := q2) rfl rfl hc41).2 k) ?_
    show own_Fin _ _ _ _ _ _ _ _ (mkF m 265 Ls27 [])
    refine own_step (fun t k => XS.aload (v := (.ref b14)) X28.here hx rfl (hb hby at_265) (by rw [hLs27]; rfl) rfl k) ?_
    show own_Fin _ _ _ _ _ _ _ _ (mkF m 267 Ls27 [(.ref b14)])
    refine own_step (fun t k => XS.iconst X28.here hx rfl (hb hby at_267) k) ?_
    show own_Fin _ _ _ _ _ _ _ _ (mkF m 268 Ls27 [(.int (2 : Int32)), (.ref b14)])
    refine own_laload X28 hx hZ rfl V_b14 (k := 2) rfl (by decide) (v := ((own_swF bt fE gE) 2)) rfl (hb hby at_268) rfl ?_
    show own_Fin _ _ _ _ _ _ _ _ (mkF m 269 Ls27 [(.long ((own_swF bt fE gE) 2))])
    refine own_step (fun t k => XS.lload (v := q3) X28.here hx rfl (hb hby at_269) (by rw [hLs27]; rfl) k) ?_
    show own_Fin _ _ _ _ _ _ _ _ (mkF m 271 Ls27 [(.long q3), (.long ((own_swF bt fE gE) 2))])
    refine own_step (fun t k => XS.lcmp X28.here hx rfl (hb hby at_271) rfl k) ?_
    show own_Fin _ _ _ _ _ _ _ _ (mkF m 272 Ls27 [(.int (lcmpW ((own_swF bt fE gE) 2) q3))])
    have hc42 : (((own_swF bt fE gE) 2)).toInt = (q3).toInt := by rw [own_F0 hbit, hfE_2]
    refine own_step (fun t k => XS.ifNo X28.here hx rfl (hb hby at_272) rfl (own_le (x := ((own_swF bt fE gE) 2)) (y := q3) rfl rfl hc42).2 k) ?_
    show own_Fin _ _ _ _ _ _ _ _ (mkF m 275 Ls27 [])
    refine own_step (fun t k => XS.aload (v := (.ref b14)) X28.here hx rfl (hb hby at_275) (by rw [hLs27]; rfl) rfl k) ?_
    show own_Fin _ _ _ _ _ _ _ _ (mkF m 277 Ls27 [(.ref b14)])
    refine own_step (fun t k => XS.iconst X28.here hx rfl (hb hby at_277) k) ?_
    show own_Fin _ _ _ _ _ _ _ _ (mkF m 278 Ls27 [(.int (3 : Int32)), (.ref b14)])
    refine own_laload X28 hx hZ rfl V_b14 (k := 3) rfl (by decide) (v := ((own_swF bt fE gE) 3)) rfl (hb hby at_278) rfl ?_
    show own_Fin _ _ _ _ _ _ _ _ (mkF m 279 Ls27 [(.long ((own_swF bt fE gE) 3))])
    refine own_step (fun t k => XS.lload (v := q4) X28.here hx rfl (hb hby at_279) (by rw [hLs27]; rfl) k) ?_
    show own_Fin _ _ _ _ _ _ _ _ (mkF m 281 Ls27 [(.long q4), (.long ((own_swF bt fE gE) 3))])
    refine own_step (fun t k => XS.lcmp X28.here hx rfl (hb hby at_281) rfl k) ?_
    show own_Fin _ _ _ _ _ _ _ _ (mkF m 282 Ls27 [(.int (lcmpW ((own_swF bt fE gE) 3) q4))])
    have hc43 : (((own_swF bt fE gE) 3)).toInt = (q4).toInt := by rw [own_F0 hbit, hfE_3]
    refine own_step (fun t k => XS.ifNo X28.here hx rfl (hb hby at_282) rfl (own_le (x := ((own_swF bt fE gE) 3)) (y := q4) rfl rfl hc43).2 k) ?_
    show own_Fin _ _ _ _ _ _ _ _ (mkF m 285 Ls27 [])
    refine own_step (fun t k => XS.aload (v := (.ref b14)) X28.here hx rfl (hb hby at_285) (by rw [hLs27]; rfl) rfl k) ?_
    show own_Fin _ _ _ _ _ _ _ _ (mkF m 287 Ls27 [(.ref b14)])
    refine own_step (fun t k => XS.iconst X28.here hx rfl (hb hby at_287) k) ?_
    show own_Fin _ _ _ _ _ _ _ _ (mkF m 288 Ls27 [(.int (4 : Int32)), (.ref b14)])
    refine own_laload X28 hx hZ rfl V_b14 (k := 4) rfl (by decide) (v := ((own_swF bt fE gE) 4)) rfl (hb hby at_288) rfl ?_
    show own_Fin _ _ _ _ _ _ _ _ (mkF m 289 Ls27 [(.long ((own_swF bt fE gE) 4))])
    refine own_step (fun t k => XS.lload (v := q5) X28.here hx rfl (hb hby at_289) (by rw [hLs27]; rfl) k) ?_
    show own_Fin _ _ _ _ _ _ _ _ (mkF m 291 Ls27 [(.long q5), (.long ((own_swF bt fE gE) 4))])
    refine own_step (fun t k => XS.lcmp X28.here hx rfl (hb hby at_291) rfl k) ?_
    show own_Fin _ _ _ _ _ _ _ _ (mkF m 292 Ls27 [(.int (lcmpW ((own_swF bt fE gE) 4) q5))])
    have hc44 : (((own_swF bt fE gE) 4)).toInt = (q5).toInt := by rw [own_F0 hbit, hfE_4]
    refine own_step (fun t k => XS.ifNo X28.here hx rfl (hb hby at_292) rfl (own_le (x := ((own_swF bt fE gE) 4)) (y := q5) rfl rfl hc44).2 k) ?_
    show own_Fin _ _ _ _ _ _ _ _ (mkF m 295 Ls27 [])
    refine own_step (fun t k => XS.aload (v := (.ref b21)) X28.here hx rfl (hb hby at_295) (by rw [hLs27]; rfl) rfl k) ?_
    show own_Fin _ _ _ _ _ _ _ _ (mkF m 297 Ls27 [(.ref b21)])
    refine own_step (fun t k => XS.iconst X28.here hx rfl (hb hby at_297) k) ?_
    show own_Fin _ _ _ _ _ _ _ _ (mkF m 298 Ls27 [(.int (0 : Int32)), (.ref b21)])
    refine own_laload X28 hx hZ rfl V_b21 (k := 0) rfl (by decide) (v := ((own_swG bt fE gE) 0)) rfl (hb hby at_298) rfl ?_
    show own_Fin _ _ _ _ _ _ _ _ (mkF m 299 Ls27 [(.long ((own_swG bt fE gE) 0))])
    refine own_step (fun t k => XS.lload (v := q5) X28.here hx rfl (hb hby at_299) (by rw [hLs27]; rfl) k) ?_
    show own_Fin _ _ _ _ _ _ _ _ (mkF m 301 Ls27 [(.long q5), (.long ((own_swG bt fE gE) 0))])
    refine own_step (fun t k => XS.lcmp X28.here hx rfl (hb hby at_301) rfl k) ?_
    show own_Fin _ _ _ _ _ _ _ _ (mkF m 302 Ls27 [(.int (lcmpW ((own_swG bt fE gE) 0) q5))])
    have hc45 : (((own_swG bt fE gE) 0)).toInt = (q5).toInt := by rw [own_G0 hbit, hgE_0]
    refine own_step (fun t k => XS.ifNo X28.here hx rfl (hb hby at_302) rfl (own_le (x := ((own_swG bt fE gE) 0)) (y := q5) rfl rfl hc45).2 k) ?_
    show own_Fin _ _ _ _ _ _ _ _ (mkF m 305 Ls27 [])
    refine own_step (fun t k => XS.aload (v := (.ref b21)) X28.here hx rfl (hb hby at_305) (by rw [hLs27]; rfl) rfl k) ?_
    show own_Fin _ _ _ _ _ _ _ _ (mkF m 307 Ls27 [(.ref b21)])
    refine own_step (fun t k => XS.iconst X28.here hx rfl (hb hby at_307) k) ?_
    show own_Fin _ _ _ _ _ _ _ _ (mkF m 308 Ls27 [(.int (1 : Int32)), (.ref b21)])
    refine own_laload X28 hx hZ rfl V_b21 (k := 1) rfl (by decide) (v := ((own_swG bt fE gE) 1)) rfl (hb hby at_308) rfl ?_
    show own_Fin _ _ _ _ _ _ _ _ (mkF m 309 Ls27 [(.long ((own_swG bt fE gE) 1))])
    refine own_step (fun t k => XS.lload (v := vg1) X28.here hx rfl (hb hby at_309) (by rw [hLs27]; rfl) k) ?_
    show own_Fin _ _ _ _ _ _ _ _ (mkF m 311 Ls27 [(.long vg1), (.long ((own_swG bt fE gE) 1))])
    refine own_step (fun t k => XS.lcmp X28.here hx rfl (hb hby at_311) rfl k) ?_
    show own_Fin _ _ _ _ _ _ _ _ (mkF m 312 Ls27 [(.int (lcmpW ((own_swG bt fE gE) 1) vg1))])
    have hc46 : (((own_swG bt fE gE) 1)).toInt = (vg1).toInt := by rw [own_G0 hbit, hgE_1]
    refine own_step (fun t k => XS.ifNo X28.here hx rfl (hb hby at_312) rfl (own_le (x := ((own_swG bt fE gE) 1)) (y := vg1) rfl rfl hc46).2 k) ?_
    show own_Fin _ _ _ _ _ _ _ _ (mkF m 315 Ls27 [])
    refine own_step (fun t k => XS.aload (v := (.ref b21)) X28.here hx rfl (hb hby at_315) (by rw [hLs27]; rfl) rfl k) ?_
    show own_Fin _ _ _ _ _ _ _ _ (mkF m 317 Ls27 [(.ref b21)])
    refine own_step (fun t k => XS.iconst X28.here hx rfl (hb hby at_317) k) ?_
    show own_Fin _ _ _ _ _ _ _ _ (mkF m 318 Ls27 [(.int (2 : Int32)), (.ref b21)])
    refine own_laload X28 hx hZ rfl V_b21 (k := 2) rfl (by decide) (v := ((own_swG bt fE gE) 2)) rfl (hb hby at_318) rfl ?_
    show own_Fin _ _ _ _ _ _ _ _ (mkF m 319 Ls27 [(.long ((own_swG bt fE gE) 2))])
    refine own_step (fun t k => XS.lload (v := vg2) X28.here hx rfl (hb hby at_319) (by rw [hLs27]; rfl) k) ?_
    show own_Fin _ _ _ _ _ _ _ _ (mkF m 321 Ls27 [(.long vg2), (.long ((own_swG bt fE gE) 2))])
    refine own_step (fun t k => XS.lcmp X28.here hx rfl (hb hby at_321) rfl k) ?_
    show own_Fin _ _ _ _ _ _ _ _ (mkF m 322 Ls27 [(.int (lcmpW ((own_swG bt fE gE) 2) vg2))])
    have hc47 : (((own_swG bt fE gE) 2)).toInt = (vg2).toInt := by rw [own_G0 hbit, hgE_2]
    refine own_step (fun t k => XS.ifNo X28.here hx rfl (hb hby at_322) rfl (own_le (x := ((own_swG bt fE gE) 2)) (y := vg2) rfl rfl hc47).2 k) ?_
    show own_Fin _ _ _ _ _ _ _ _ (mkF m 325 Ls27 [])
    refine own_step (fun t k => XS.aload (v := (.ref b21)) X28.here hx rfl (hb hby at_325) (by rw [hLs27]; rfl) rfl k) ?_
    show own_Fin _ _ _ _ _ _ _ _ (mkF m 327 Ls27 [(.ref b21)])
    refine own_step (fun t k => XS.iconst X28.here hx rfl (hb hby at_327) k) ?_
    show own_Fin _ _ _ _ _ _ _ _ (mkF m 328 Ls27 [(.int (3 : Int32)), (.ref b21)])
    refine own_laload X28 hx hZ rfl V_b21 (k := 3) rfl (by decide) (v := ((own_swG bt fE gE) 3)) rfl (hb hby at_328) rfl ?_
    show own_Fin _ _ _ _ _ _ _ _ (mkF m 329 Ls27 [(.long ((own_swG bt fE gE) 3))])
    refine own_step (fun t k => XS.lload (v := vg3) X28.here hx rfl (hb hby at_329) (by rw [hLs27]; rfl) k) ?_
    show own_Fin _ _ _ _ _ _ _ _ (mkF m 331 Ls27 [(.long vg3), (.long ((own_swG bt fE gE) 3))])
    refine own_step (fun t k => XS.lcmp X28.here hx rfl (hb hby at_331) rfl k) ?_
    show own_Fin _ _ _ _ _ _ _ _ (mkF m 332 Ls27 [(.int (lcmpW ((own_swG bt fE gE) 3) vg3))])
    have hc48 : (((own_swG bt fE gE) 3)).toInt = (vg3).toInt := by rw [own_G0 hbit, hgE_3]
    refine own_step (fun t k => XS.ifNo X28.here hx rfl (hb hby at_332) rfl (own_le (x := ((own_swG bt fE gE) 3)) (y := vg3) rfl rfl hc48).2 k) ?_
    show own_Fin _ _ _ _ _ _ _ _ (mkF m 335 Ls27 [])
    refine own_step (fun t k => XS.aload (v := (.ref b21)) X28.here hx rfl (hb hby at_335) (by rw [hLs27]; rfl) rfl k) ?_
    show own_Fin _ _ _ _ _ _ _ _ (mkF m 337 Ls27 [(.ref b21)])
    refine own_step (fun t k => XS.iconst X28.here hx rfl (hb hby at_337) k) ?_
    show own_Fin _ _ _ _ _ _ _ _ (mkF m 338 Ls27 [(.int (4 : Int32)), (.ref b21)])
    refine own_laload X28 hx hZ rfl V_b21 (k := 4) rfl (by decide) (v := ((own_swG bt fE gE) 4)) rfl (hb hby at_338) rfl ?_
    show own_Fin _ _ _ _ _ _ _ _ (mkF m 339 Ls27 [(.long ((own_swG bt fE gE) 4))])
    refine own_step (fun t k => XS.lload (v := vg4) X28.here hx rfl (hb hby at_339) (by rw [hLs27]; rfl) k) ?_
    show own_Fin _ _ _ _ _ _ _ _ (mkF m 341 Ls27 [(.long vg4), (.long ((own_swG bt fE gE) 4))])
    refine own_step (fun t k => XS.lcmp X28.here hx rfl (hb hby at_341) rfl k) ?_
    show own_Fin _ _ _ _ _ _ _ _ (mkF m 342 Ls27 [(.int (lcmpW ((own_swG bt fE gE) 4) vg4))])
    have hc49 : (((own_swG bt fE gE) 4)).toInt = (vg4).toInt := by rw [own_G0 hbit, hgE_4]
    refine own_step (fun t k => XS.ifNo X28.here hx rfl (hb hby at_342) rfl (own_le (x := ((own_swG bt fE gE) 4)) (y := vg4) rfl rfl hc49).2 k) ?_
    show own_Fin _ _ _ _ _ _ _ _ (mkF m 345 Ls27 [])
    refine own_step (fun t k => XS.iconst X28.here hx rfl (hb hby at_345) k) ?_
    show own_Fin _ _ _ _ _ _ _ _ (mkF m 346 Ls27 [(.int (1 : Int32))])
    refine own_step (fun t k => XS.goto X28.here hx rfl (pc0 := 346) (pc' := 350) rfl (hb hby at_346) (by decide) (by decide) k) ?_
    show own_Fin _ _ _ _ _ _ _ _ (mkF m 350 Ls27 [(.int (1 : Int32))])
    refine own_retZ X28 hx hlk Bd.returns (hb hby at_350) (z' := (1 : Int32)) (by decide) (by decide) (by decide) rfl ?_
    exact ⟨rfl, Nf⟩
set_option maxRecDepth 65536 in
set_option maxHeartbeats 40000000 in
theorem comes_1 {Post : Tables → Env → Array Value → State → Outcome → State → Prop} (hpost : ∀ tb e args s v u, (limb_1_1.after args s (.returned v) u = true ∧ limb_1_2.after args s (.returned v) u = true ∧ True) → FrameEnd s (.returned v) u (Jvm.fieldLocs frame_1_writes args s ++ Jvm.arrayLocs frame_1_arrays args s ++ Jvm.staticLocs frame_1_statics s) 16 128 → Post tb e args s (.returned v) u) :
    ArmFor flags0 classFile x code maxLocals ret World_1 tables_1 room_1 Calls_1 rest_1 Pre_1 Post := by
  intro l hfl _ _ p e ha hc hk s m args below hf hA hF happ hP
  obtain ⟨hcalls, hrest, hpre⟩ := hP
  obtain ⟨-, -, -, hnamed, -, -, -, hat⟩ := (Spec.applies_iff hf).mp happ
  obtain ⟨hg, hn⟩ := and_e (Cond.before_iff.mp (show (Jvm.Cond.and given_1 narrow_1).before args s = true from hpre))
  obtain ⟨g1, g2⟩ := and_e hg
  obtain ⟨g3, g4⟩ := and_e g2
  obtain ⟨g5, g6⟩ := and_e g4
  obtain ⟨g7, g8⟩ := and_e g6
  obtain ⟨g9, g10⟩ := and_e g8
  obtain ⟨g11, g12⟩ := and_e g10
  obtain ⟨w0, w1, w2, w3, w4, w5, rfl⟩ : ∃ w0 w1 w2 w3 w4 w5 : Value, args = #[w0, w1, w2, w3, w4, w5] := by
    have hs : args.size = 6 := by simpa [Cond.value, given_1] using g1
    obtain ⟨L⟩ := args
    match L, hs with
    | [w0, w1, w2, w3, w4, w5], _ => exact ⟨w0, w1, w2, w3, w4, w5, rfl⟩
  have hw := fun d (hd : d ∈ tables_1) => atoms_spec (ws := Jvm.Cond.code x code maxLocals ret :: tables_1) hat d (List.mem_cons_of_mem _ hd)
  obtain ⟨i0, ei0⟩ := isL_v g3
  obtain rfl : w0 = (.long i0) := Option.some.inj ei0
  obtain ⟨i1, ei1⟩ := isL_v g5
  obtain rfl : w1 = (.long i1) := Option.some.inj ei1
  obtain ⟨i2, ei2⟩ := isL_v g7
  obtain rfl : w2 = (.long i2) := Option.some.inj ei2
  obtain ⟨i3, ei3⟩ := isL_v g9
  obtain rfl : w3 = (.long i3) := Option.some.inj ei3
  obtain ⟨i4, ei4⟩ := isL_v g11
  obtain rfl : w4 = (.long i4) := Option.some.inj ei4
  obtain ⟨i5, ei5⟩ := is_v g12
  obtain rfl : w5 = (.int i5) := Option.some.inj ei5
  obtain ⟨n, o, h1, h2, h3, _, L, rfl, ⟨rfl, N⟩, hq⟩ := rm0 l s _ hw tables_1 i0 i1 i2 i3 i4 i5 s.heap s.heap.size (Nat.le_refl _) p e ha hc hk s m _ below hf ((Spec.applies_iff_loose hf).mp happ).1 ⟨rfl, State.Warmed39.refl s, rfl⟩ trivial
  refine ⟨n, _, h1, h2, h3, hpost _ _ _ _ _ _ ⟨Cond.after_iff.mpr rfl, Cond.after_iff.mpr (eq_i res_at (Term.int_eval (1)) rfl), trivial⟩ ⟨hq.1, hq.2.1, (hq.2.2.sift fun y hy => Or.inr (N y hy)).mono (by decide) (by decide)⟩⟩
theorem main_1_1 : Claimed_1_1 := comes_1 fun _ _ _ _ _ _ h hF => ⟨h.1, hF⟩
theorem main_1_2 : Claimed_1_2 := comes_1 fun _ _ _ _ _ _ h hF => ⟨h.2.1, hF⟩
end Jvm.Pilot.@@N@@
namespace Jvm.Pilot.@@N@@
open Jvm Jvm.ClassFile Sem Op Lib Jvm.Free Jvm.Stand Jvm.Pilot.@@N@@.Jvm.D
/-! MADE BY PROGRAM (witnessworld.py) out of the Statement's table words and the real class files: 11 classes; the members and pool entries that the words name. The judged class is class 1, her method 1. -/
namespace start1
open Jvm.ClassFile
def u (s : String) : CpInfo := .utf8 (stringToUtf16 s)
/-- a pool by its gaps: so many unusable entries, then the entry; so many at the end -/
def gap : Nat → List CpInfo → List CpInfo
  | 0, r => r
  | n + 1, r => .unusable :: gap n r
def poolList (es : List (Nat × CpInfo)) (last : Nat) : List CpInfo := es.foldr (fun e r => gap e.1 (e.2 :: r)) (gap last [])
def pool (es : List (Nat × CpInfo)) (last : Nat) : Array CpInfo := ⟨poolList es last⟩
def fileOf (pool : Array CpInfo) (this : Nat) (attrs : Array Attribute := #[]) (ms : Array MethodInfo := #[]) (fl : Nat := 33) (sup : Nat := 0) (ifs : Array Nat := #[]) (fds : Array FieldInfo := #[]) : ClassFile where
  minorVersion := 0
  majorVersion := 65
  constantPool := pool
  accessFlags := fl
  thisClass := this
  superClass := sup
  interfaces := ifs
  fields := fds
  methods := ms
  attributes := attrs
def plain (name : String) (sup : Option ClassId) : Class where
  name := name
  kind := .ordinary
  loader := none
  accessFlags := 33
  super := sup
  interfaces := #[]
  cf := none
  fields := #[]
  methods := #[]
  instanceTypes := #[]
  staticTypes := #[]
  resolved := #[]
  callSites := []
  init := .initialized
  statics := none
  mirror := none

def pool0 : Array CpInfo := pool [(5, u "<init>"), (0, u "()V"), (1, .class_ 10), (1, u "java/lang/Object")] 113

def k0m0 : Method := { name := "<init>", desc := "()V", sig := { parameters := [], returnType := none }, accessFlags := 1, code := none }
/-- java/lang/Object -/
def k0 : Class := { plain "java/lang/Object" none with
  accessFlags := 33
  interfaces := #[]
  cf := some (fileOf pool0 8 #[] #[{ accessFlags := 1, nameIndex := 5, descriptorIndex := 6, attributes := #[] }] 33 0 #[] #[])
  fields := #[]
  methods := #[k0m0]
  instanceTypes := #[]
  staticTypes := #[]
  resolved := Array.replicate 124 none
  statics := none }

def pool1 : Array CpInfo := pool [(2, .class_ 4), (1, u "java/lang/Object"), (0, u "<init>"), (0, u "()V"), (0, .long 18446744073709551615), (1, .methodref 10 11), (0, .class_ 12), (0, .nameAndType 13 14), (0, u "com/example/quietwire/quietwire/Field25519"), (0, u "swap"), (0, u "([J[JJ)V"), (0, .class_ 16), (0, u "com/example/quietwire/quietwire/Field25519SwapPinLaw"), (2, u "law"), (0, u "(JJJJJI)Z")] 5

def k1m0 : Method := { name := "<init>", desc := "()V", sig := { parameters := [], returnType := none }, accessFlags := 2, code := none }
def k1c1 : Code := { maxStack := 5, maxLocals := 37, code := code, exceptionTable := #[], attributes := #[] }
def k1m1 : Method := { name := "law", desc := "(JJJJJI)Z", sig := { parameters := [.long, .long, .long, .long, .long, .int], returnType := some .boolean }, accessFlags := 9, code := some k1c1 }
/-- com/example/quietwire/quietwire/Field25519SwapPinLaw -/
def k1 : Class := { plain "com/example/quietwire/quietwire/Field25519SwapPinLaw" (some 0) with
  accessFlags := 49
  interfaces := #[]
  cf := some (fileOf pool1 15 #[] #[{ accessFlags := 2, nameIndex := 5, descriptorIndex := 6, attributes := #[] }, { accessFlags := 9, nameIndex := 19, descriptorIndex := 20, attributes := #[] }] 49 2 #[] #[])
  fields := #[]
  methods := #[k1m0, k1m1]
  instanceTypes := #[]
  staticTypes := #[]
  resolved := Array.replicate 26 none
  statics := none }

def pool2 : Array CpInfo := pool [(1, .class_ 2), (0, u "com/example/quietwire/quietwire/Field25519"), (1, .class_ 6), (1, u "java/lang/Object"), (0, u "<init>"), (0, u "()V"), (82, u "LENGTH"), (0, u "I"), (2, u "MASK"), (0, u "J"), (0, u "FOUR_P_0"), (0, u "FOUR_P"), (11, u "([J[JJ)V"), (2, u "swap")] 12

def k2m0 : Method := { name := "<init>", desc := "()V", sig := { parameters := [], returnType := none }, accessFlags := 2, code := none }
def k2c1 : Code := { maxStack := 6, maxLocals := 9, code := prog_33_method_16_code, exceptionTable := #[], attributes := #[] }
def k2m1 : Method := { name := "swap", desc := "([J[JJ)V", sig := { parameters := [(.array .long), (.array .long), .long], returnType := none }, accessFlags := 8, code := some k2c1 }
/-- com/example/quietwire/quietwire/Field25519 -/
def k2 : Class := { plain "com/example/quietwire/quietwire/Field25519" (some 0) with
  accessFlags := 48
  interfaces := #[]
  cf := some (fileOf pool2 1 #[] #[{ accessFlags := 2, nameIndex := 7, descriptorIndex := 8, attributes := #[] }, { accessFlags := 8, nameIndex := 113, descriptorIndex := 110, attributes := #[] }] 48 4 #[] #[{ accessFlags := 24, nameIndex := 91, descriptorIndex := 92, attributes := #[] }, { accessFlags := 26, nameIndex := 95, descriptorIndex := 96, attributes := #[] }, { accessFlags := 26, nameIndex := 97, descriptorIndex := 96, attributes := #[] }, { accessFlags := 26, nameIndex := 98, descriptorIndex := 96, attributes := #[] }])
  fields := #[{ name := "LENGTH", type := .int, accessFlags := 24, slot := 0, constantValue := 0 }, { name := "MASK", type := .long, accessFlags := 26, slot := 1, constantValue := 0 }, { name := "FOUR_P_0", type := .long, accessFlags := 26, slot := 2, constantValue := 0 }, { name := "FOUR_P", type := .long, accessFlags := 26, slot := 3, constantValue := 0 }]
  methods := #[k2m0, k2m1]
  instanceTypes := #[]
  staticTypes := #[.int, .long, .long, .long]
  resolved := Array.replicate 126 none
  statics := none }

def pool3 : Array CpInfo := pool [(1, u "java/lang/Cloneable"), (0, .class_ 1), (0, u "java/lang/Object"), (0, .class_ 3)] 3

/-- java/lang/Cloneable -/
def k3 : Class := { plain "java/lang/Cloneable" (some 0) with
  accessFlags := 1537
  interfaces := #[]
  cf := some (fileOf pool3 2 #[] #[] 1537 4 #[] #[])
  fields := #[]
  methods := #[]
  instanceTypes := #[]
  staticTypes := #[]
  resolved := Array.replicate 8 none
  statics := none }

def pool4 : Array CpInfo := pool [(1, u "java/io/Serializable"), (0, .class_ 1), (0, u "java/lang/Object"), (0, .class_ 3)] 3

/-- java/io/Serializable -/
def k4 : Class := { plain "java/io/Serializable" (some 0) with
  accessFlags := 1537
  interfaces := #[]
  cf := some (fileOf pool4 2 #[] #[] 1537 4 #[] #[])
  fields := #[]
  methods := #[]
  instanceTypes := #[]
  staticTypes := #[]
  resolved := Array.replicate 8 none
  statics := none }

/-- the primitive byte -/
def k5 : Class := { plain "byte" none with kind := .primitive 'B', accessFlags := 0x411 }
/-- [B -/
def k6 : Class := { plain "[B" (some 0) with kind := .array 5 .byte, interfaces := #[3, 4], accessFlags := 1041 }

/-- the primitive int -/
def k7 : Class := { plain "int" none with kind := .primitive 'I', accessFlags := 0x411 }
/-- [I -/
def k8 : Class := { plain "[I" (some 0) with kind := .array 7 .int, interfaces := #[3, 4], accessFlags := 1041 }

/-- the primitive long -/
def k9 : Class := { plain "long" none with kind := .primitive 'J', accessFlags := 0x411 }
/-- [J -/
def k10 : Class := { plain "[J" (some 0) with kind := .array 9 .long, interfaces := #[3, 4], accessFlags := 1041 }

def heap : Heap := #[]
def classes : Array Class := #[k0, k1, k2, k3, k4, k5, k6, k7, k8, k9, k10]
def interned : List (Array UInt16 × Addr) := []
def slotsUsed : Nat := 0
def theMethod : MethodId := ⟨1, 1⟩
def args0 : Array Value := #[.long 7, .long 7, .long 7, .long 7, .long 7, .int 5]
def aboutOver (below : List Frame) : State where
  vm := { classes := classes, interned := interned.toArray }
  heap := heap
  slotsUsed := slotsUsed
  threads := #[{ frames := .invoking theMethod args0 :: below }]
def below0 : List Frame := [.native { method := ⟨0, 0⟩, args := #[] }]
def about1 : State := aboutOver below0
def p0 : Program := .bare "" "" ""
def e0 : Env := launch0.env 0 0 0
theorem w_frames : about1.frames = Frame.invoking theMethod args0 :: below0 := rfl
set_option maxRecDepth 65536 in
theorem w_args : argsFit about1.vm theMethod args0 = true := by decide +kernel
set_option maxRecDepth 65536 in
theorem w_heap : heapFits about1 = true := by decide +kernel
set_option maxRecDepth 65536 in
theorem w_runnable : about1.curStatus? = some .runnable := by decide +kernel
set_option maxRecDepth 65536 in
theorem w_alone : about1.alone = true := by decide +kernel
set_option maxRecDepth 65536 in
theorem w_named : about1.methodNamed? x = some theMethod := by decide +kernel
set_option maxRecDepth 65536 in
theorem w_hears : about1.hears theMethod below0 = true := by decide +kernel
set_option maxRecDepth 65536 in
theorem w_ripe : about1.ripe theMethod args0 below0 = true := by decide +kernel
theorem w_running : about1.status = .running := rfl
set_option maxRecDepth 65536 in
theorem w_room : about1.hasRoom e0.platform room_1 = true :=
  launch0.hasRoom_least _ room_1 (by decide +kernel) (by decide +kernel) (by decide +kernel) (by decide +kernel) (by decide +kernel) (by decide +kernel)
theorem allAtoms_all (ts : List Jvm.Cond) (a : Array Jvm.Value) (st : Jvm.State) : (allAtoms ts).before a st = ts.all (fun c => c.before a st) := by
  induction ts with
  | nil => rfl
  | cons c t ih =>
    show (Jvm.Cond.and c (allAtoms t)).before a st = _
    rw [Jvm.Cond.before_and, ih, List.all_cons]
def words1 : List Jvm.Cond := Jvm.Cond.code x code maxLocals ret :: tables_1
/-- a 'code' word, met by the world's own term for the bytes: nothing is compared byte by byte -/
theorem code_word {y : MethodName} {bytes : ByteArray} {mx : Nat} {rt : Option FieldType} {a : Array Value} {s : State} {m : MethodId} {meth : Method} {c : Code} (h1 : s.methodNamed? y = some m) (h2 : s.vm.method? m = some meth) (h3 : meth.code = some c) (h4 : c.code = bytes)
    (h5 : (c.maxLocals == mx && c.exceptionTable.isEmpty && decide (c.maxStack ≤ mostOperands) && decide (meth.sig.returnType = rt) && !meth.locks && decide (parseMethodDescriptor y.desc = some meth.sig)) = true) : (Jvm.Cond.code y bytes mx rt).before a s = true := by
  simp only [Bool.and_eq_true, beq_iff_eq, Bool.not_eq_true', decide_eq_true_eq] at h5
  obtain ⟨⟨⟨⟨⟨g1, g2⟩, g3⟩, g4⟩, g5⟩, g6⟩ := h5
  simp [Cond.before, Cond.holds, Cond.value, h1, h2, h3, h4, g1, g2, g3, g4, g5, g6]
def isCode : Jvm.Cond → Bool
  | .code _ _ _ _ => true
  | _ => false
theorem all_split {L : List Jvm.Cond} {P : Jvm.Cond → Bool} (h1 : L.all (fun c => isCode c || P c) = true) (h2 : ∀ c ∈ L.filter isCode, P c = true) : L.all P = true := by
  refine List.all_eq_true.mpr fun c hc => ?_
  have h := List.all_eq_true.mp h1 c hc
  rcases Bool.eq_false_or_eq_true (isCode c) with hi | hi
  · exact h2 c (List.mem_filter.mpr ⟨hc, hi⟩)
  · simpa [hi] using h
set_option maxRecDepth 65536 in
theorem w_c0 : (Jvm.Cond.code x code maxLocals ret).before args0 about1 = true := code_word (m := ⟨1, 1⟩) (meth := k1m1) (c := k1c1) (by decide +kernel) rfl rfl rfl (by decide +kernel)
set_option maxRecDepth 65536 in
theorem w_c1 : (Jvm.Cond.code ({ cls := "com/example/quietwire/quietwire/Field25519", name := "swap", desc := "([J[JJ)V" } : Jvm.MethodName) prog_33_method_16_code (9 : Nat) (Option.none : Option Jvm.ClassFile.FieldType)).before args0 about1 = true := code_word (m := ⟨2, 1⟩) (meth := k2m1) (c := k2c1) (by decide +kernel) rfl rfl rfl (by decide +kernel)
def codes1 : List Jvm.Cond := [Jvm.Cond.code x code maxLocals ret, Jvm.Cond.code ({ cls := "com/example/quietwire/quietwire/Field25519", name := "swap", desc := "([J[JJ)V" } : Jvm.MethodName) prog_33_method_16_code (9 : Nat) (Option.none : Option Jvm.ClassFile.FieldType)]
set_option maxRecDepth 65536 in
theorem codes_eq : words1.filter isCode = codes1 := rfl
theorem w_codes : ∀ c ∈ words1.filter isCode, c.before args0 about1 = true := by
  rw [codes_eq]
  intro c hc
  simp only [codes1, List.mem_cons, List.not_mem_nil, or_false] at hc
  rcases hc with rfl | rfl
  · exact w_c0
  · exact w_c1
set_option maxRecDepth 65536 in
theorem w_t1 : words1.all (fun c => isCode c || c.before args0 about1) = true := by decide +kernel
theorem w_tables : (allAtoms (Jvm.Cond.code x code maxLocals ret :: tables_1)).before args0 about1 = true := by
  rw [allAtoms_all]
  show words1.all (fun c => c.before args0 about1) = true
  refine all_split ?_ w_codes
  rw [w_t1]
set_option maxRecDepth 65536 in
theorem w_case : (Jvm.Cond.and given_1 narrow_1).before args0 about1 = true := by decide +kernel
theorem w_applies : (headSpec (Jvm.Cond.code x code maxLocals ret :: tables_1) room_1).applies x e0.platform about1 = true :=
  (Spec.applies_iff w_frames).mpr ⟨w_running, w_runnable, w_alone, w_named, w_hears, w_ripe, w_room, w_tables⟩
theorem atStart : AtStart classFile x code maxLocals ret World_1 tables_1 room_1 Calls_1 rest_1 Pre_1 launch0 p0 e0 about1 theMethod args0 below0 :=
  ⟨lists_1, trivial, launch0.admits_env _ _ _, launch0.least_env, fairChoices_fair.cas, fairChoices_fair.clock, w_frames, w_args, w_heap, w_applies, trivial, trivial, w_case⟩
end start1
theorem witness_1 : WitnessClaimed_1 := ⟨start1.p0, start1.e0, start1.about1, start1.theMethod, start1.args0, start1.below0, start1.atStart⟩
end Jvm.Pilot.@@N@@
