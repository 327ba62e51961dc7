import JvmDerived
import JvmDerived.Pilot.@@N@@Statement
import JvmDerived.Pilot.@@N@@Code
set_option linter.unusedVariables false
set_option linter.unusedSimpArgs false
namespace Jvm.Pilot.@@N@@
open Jvm Jvm.ClassFile Sem Op Lib Jvm.Free Jvm.Stand Jvm.LawKit Jvm.RoadKit Bundle Jvm.Pilot.@@N@@.Jvm.D
/-! Own kit. own_Fin: from this frame the run comes to the method's end, and Q holds of what it leaves. -/
def own_Fin (p : Program) (e : Env) (below : List Frame) (s : State) (Q : Option Value → Heap → List Loc → Prop) (cl sl : Nat) (T : State) (f : JFrame) : Prop :=
  ∃ s₂ o, Steps p.tables e below (T.setTop f) s₂ ∧ s₂.status = .running ∧ Ended s₂ below o ∧ (∃ v L, o = .returned v ∧ Q v s₂.heap L ∧ FrameEnd s o s₂ L cl sl)
section OwnKit
variable {p : Program} {l : Launch} {e : Env} {R : Room} {s : State} {m : MethodId} {args : Array Value} {below : List Frame} {meth : Method} {c : Code} {T : State} {locs : List Loc} {cells slots : Nat} {Q : Option Value → Heap → List Loc → Prop} {cl sl : Nat} {Z : State} {a0 : Array Value} {h h' : Heap} {a b : Addr}
theorem own_step {T' : State} {f f' : JFrame} (k : ∀ t, Steps p.tables e below (T'.setTop f') t → Steps p.tables e below (T.setTop f) t) (r : own_Fin p e below s Q cl sl T' f') : own_Fin p e below s Q cl sl T f := by
  obtain ⟨s₂, o, h1, h2⟩ := r
  exact ⟨s₂, o, k _ h1, h2⟩
theorem own_stepT {T' : State} {f f' : JFrame} (k : Steps p.tables e below (T.setTop f) (T'.setTop f')) (r : own_Fin p e below s Q cl sl T' f') : own_Fin p e below s Q cl sl T f := by
  obtain ⟨s₂, o, h1, h2⟩ := r
  exact ⟨s₂, o, k.trans h1, h2⟩
theorem own_retZ (X : Stand p l e R s m args below meth c T locs cells slots) (hx : p.tables.exec = Jvm.exec) (hlocks : meth.locks = false) (hret : meth.sig.returnType = some .boolean) {pc : Nat} {Ls : Array Slot} {z z' : Int32} {rest : List Value} (hd : decode c.code pc = .ok (.ireturn, 1))
    (hn : nar .boolean z = z') (hc : cells ≤ cl) (hs : slots ≤ sl) (hT : T.heap = h) (hq : Q (some (.int z')) h locs) : own_Fin p e below s Q cl sl T (mkF m pc Ls (.int z :: rest)) := by
  subst hn hT
  obtain ⟨fs, hr, hrun, hended, hW, hsame⟩ := X.leave (v := some (.int (nar .boolean z))) (fun h => by rw [hret] at h; cases h)
  exact ⟨_, _, retN X hx hret (by simp) hd hr, hrun, hended, _, _, rfl, hq, ⟨_, rfl⟩, hW, hsame.mono hc hs⟩
theorem own_retI (X : Stand p l e R s m args below meth c T locs cells slots) (hx : p.tables.exec = Jvm.exec) (hlocks : meth.locks = false) (hret : meth.sig.returnType = some .int) {pc : Nat} {Ls : Array Slot} {z : Int32} {rest : List Value} (hd : decode c.code pc = .ok (.ireturn, 1))
    (hc : cells ≤ cl) (hs : slots ≤ sl) (hT : T.heap = h) (hq : Q (some (.int z)) h locs) : own_Fin p e below s Q cl sl T (mkF m pc Ls (.int z :: rest)) := by
  subst hT
  obtain ⟨fs, hr, hrun, hended, hW, hsame⟩ := X.leave (v := some (.int z)) (fun h => by rw [hret] at h; cases h)
  refine ⟨_, _, ?_, hrun, hended, _, _, rfl, hq, ⟨_, rfl⟩, hW, hsame.mono hc hs⟩
  have hm' : T.vm.method? m = some meth := X.method'
  have hn : narrow .int (.int z) = .int z := rfl
  show Steps p.tables e below (T.setTop { method := m, pc := pc, locals := Ls, stack := _ :: rest, locked := none }) _
  jvm_step X.here [X.here.top, hx, hd, hm', hret, hn]
  first | (intro acts; rw [hr _ acts rfl rfl rfl]) | rw [hr _ _ rfl rfl rfl]
  exact Steps.refl _
theorem own_retJ (X : Stand p l e R s m args below meth c T locs cells slots) (hx : p.tables.exec = Jvm.exec) (hlocks : meth.locks = false) (hret : meth.sig.returnType = some .long) {pc : Nat} {Ls : Array Slot} {z : Int64} (hd : decode c.code pc = .ok (.lreturn, 1))
    (hc : cells ≤ cl) (hs : slots ≤ sl) (hT : T.heap = h) (hq : Q (some (.long z)) h locs) : own_Fin p e below s Q cl sl T (mkF m pc Ls [.long z]) := by
  subst hT
  obtain ⟨fs, hr, hrun, hended, hW, hsame⟩ := X.leave (v := some (.long z)) (fun h => by rw [hret] at h; cases h)
  exact ⟨_, _, X.lreturnOut hx hret hd hr, hrun, hended, _, _, rfl, hq, ⟨_, rfl⟩, hW, hsame.mono hc hs⟩
theorem own_retV (X : Stand p l e R s m args below meth c T locs cells slots) (hx : p.tables.exec = Jvm.exec) (hlocks : meth.locks = false) (hret : meth.sig.returnType = none) {pc : Nat} {Ls : Array Slot} (hd : decode c.code pc = .ok (.return_, 1))
    (hc : cells ≤ cl) (hs : slots ≤ sl) (hT : T.heap = h) (hq : Q none h locs) : own_Fin p e below s Q cl sl T (mkF m pc Ls []) := by
  subst hT
  obtain ⟨fs, hr, hrun, hended, hW, hsame⟩ := X.leave (v := none) (fun _ => rfl)
  exact ⟨_, _, X.returnOut hx hret hd hr, hrun, hended, _, _, rfl, hq, ⟨_, rfl⟩, hW, hsame.mono hc hs⟩
theorem own_retR (X : Stand p l e R s m args below meth c T locs cells slots) (hx : p.tables.exec = Jvm.exec) (hlocks : meth.locks = false) {t : FieldType} (hret : meth.sig.returnType = some t) (ht : t.isReference = true) {pc : Nat} {Ls : Array Slot} {z : Value} (hz : z.isRef = true) (hd : decode c.code pc = .ok (.areturn, 1))
    (hc : cells ≤ cl) (hs : slots ≤ sl) (hT : T.heap = h) (hq : Q (some z) h locs) : own_Fin p e below s Q cl sl T (mkF m pc Ls [z]) := by
  subst hT
  obtain ⟨fs, hr, hrun, hended, hW, hsame⟩ := X.leave (v := some z) (fun h => by rw [hret] at h; cases h)
  refine ⟨_, _, ?_, hrun, hended, _, _, rfl, hq, ⟨_, rfl⟩, hW, hsame.mono hc hs⟩
  have hm' : T.vm.method? m = some meth := X.method'
  jvm_step X.here [X.here.top, hx, hd, hm', hret, ht, hz]
  first | (intro acts; rw [hr _ acts rfl rfl rfl]) | rw [hr _ _ rfl rfl rfl]
  exact Steps.refl _
/-! comparisons, said over Int -/
theorem own_cl {x y : Int32} {a b : Int} (ha : x.toInt = a) (hb : y.toInt = b) (h : a < b) : if_icmp.holds .lt x y = true ∧ if_icmp.holds .ge x y = false ∧ if_icmp.holds .gt y x = true ∧ if_icmp.holds .le y x = false := tlt (by rw [Int32.lt_iff_toInt_lt, ha, hb]; exact h)
theorem own_cn {x y : Int32} {a b : Int} (ha : x.toInt = a) (hb : y.toInt = b) (h : ¬ a < b) : if_icmp.holds .lt x y = false ∧ if_icmp.holds .ge x y = true ∧ if_icmp.holds .gt y x = false ∧ if_icmp.holds .le y x = true := flt (by rw [Int32.lt_iff_toInt_lt, ha, hb]; exact h)
theorem own_ce {x y : Int32} {a b : Int} (ha : x.toInt = a) (hb : y.toInt = b) (h : a = b) : if_icmp.holds .eq x y = true ∧ if_icmp.holds .ne x y = false := teq (by rw [← Int32.toInt_inj, ha, hb]; exact h)
theorem own_cu {x y : Int32} {a b : Int} (ha : x.toInt = a) (hb : y.toInt = b) (h : ¬ a = b) : if_icmp.holds .eq x y = false ∧ if_icmp.holds .ne x y = true := feq (by rw [← Int32.toInt_inj, ha, hb]; exact h)
theorem own_ll {x y : Int64} {a b : Int} (ha : x.toInt = a) (hb : y.toInt = b) (h : a < b) : ifCond.holds .lt (lcmpW x y) = true ∧ ifCond.holds .ge (lcmpW x y) = false ∧ ifCond.holds .gt (lcmpW y x) = true ∧ ifCond.holds .le (lcmpW y x) = false := by
  have q : x < y := by rw [Int64.lt_iff_toInt_lt, ha, hb]; exact h
  have h1 := tlt ((lw_lt x y).mpr q)
  have h2 := tlt ((lw_gt y x).mpr q)
  exact ⟨(if0 _ _).trans h1.1, (if0 _ _).trans h1.2.1, (if0 _ _).trans h2.2.2.1, (if0 _ _).trans h2.2.2.2⟩
theorem own_ln {x y : Int64} {a b : Int} (ha : x.toInt = a) (hb : y.toInt = b) (h : ¬ a < b) : ifCond.holds .lt (lcmpW x y) = false ∧ ifCond.holds .ge (lcmpW x y) = true ∧ ifCond.holds .gt (lcmpW y x) = false ∧ ifCond.holds .le (lcmpW y x) = true := by
  have q : ¬ x < y := by rw [Int64.lt_iff_toInt_lt, ha, hb]; exact h
  have h1 := flt (fun r => q ((lw_lt x y).mp r))
  have h2 := flt (fun r => q ((lw_gt y x).mp r))
  exact ⟨(if0 _ _).trans h1.1, (if0 _ _).trans h1.2.1, (if0 _ _).trans h2.2.2.1, (if0 _ _).trans h2.2.2.2⟩
theorem own_le {x y : Int64} {a b : Int} (ha : x.toInt = a) (hb : y.toInt = b) (h : a = b) : ifCond.holds .eq (lcmpW x y) = true ∧ ifCond.holds .ne (lcmpW x y) = false := by
  have q : x = y := by rw [← Int64.toInt_inj, ha, hb]; exact h
  have h1 := teq ((lw_eq x y).mpr q)
  exact ⟨(if0 _ _).trans h1.1, (if0 _ _).trans h1.2⟩
theorem own_lu {x y : Int64} {a b : Int} (ha : x.toInt = a) (hb : y.toInt = b) (h : ¬ a = b) : ifCond.holds .eq (lcmpW x y) = false ∧ ifCond.holds .ne (lcmpW x y) = true := by
  have q : ¬ x = y := by rw [← Int64.toInt_inj, ha, hb]; exact h
  have h1 := feq (fun r => q ((lw_eq x y).mp r))
  exact ⟨(if0 _ _).trans h1.1, (if0 _ _).trans h1.2⟩
/-! a boolean as an int -/
abbrev own_B (r : Int32) (P : Prop) : Prop := (r.toInt = 1 ∧ P) ∨ (r.toInt = 0 ∧ ¬ P)
theorem own_B1 {P : Prop} (h : P) : own_B 1 P := Or.inl ⟨rfl, h⟩
theorem own_B0 {P : Prop} (h : ¬ P) : own_B 0 P := Or.inr ⟨rfl, h⟩
theorem own_B.lit {r : Int32} {P : Prop} (H : own_B r P) : (r = 1 ∧ P) ∨ (r = 0 ∧ ¬ P) := by
  rcases H with ⟨q, h⟩ | ⟨q, h⟩
  · exact Or.inl ⟨Int32.toInt_inj.mp q, h⟩
  · exact Or.inr ⟨Int32.toInt_inj.mp q, h⟩
/-! arrays: their length and what each place holds -/
def own_A (Z : State) (h : Heap) (a : Addr) (ty : FieldType) (n : Nat) (f : Nat → Value) : Prop := ∃ c : Cell, Arr Z h a c ty ∧ c.slots.size = n ∧ ∀ i, i < n → c.slots[i]? = some (f i)
def own_AI (Z : State) (h : Heap) (a : Addr) (ty : FieldType) (n : Nat) (f : Nat → Int32) : Prop := own_A Z h a ty n (fun i => .int (f i))
def own_AJ (Z : State) (h : Heap) (a : Addr) (n : Nat) (f : Nat → Int64) : Prop := own_A Z h a .long n (fun i => .long (f i))
variable {ty : FieldType} {n : Nat} {fv : Nat → Value} {fi : Nat → Int32} {fj : Nat → Int64}
theorem own_A.lt (F : own_A Z h a ty n fv) : a < h.size := by obtain ⟨c, A, -⟩ := F; exact A.lt
theorem own_A.ext (F : own_A Z h a ty n fv) (E : Ext h h') : own_A Z h' a ty n fv := by obtain ⟨c, A, r⟩ := F; exact ⟨c, A.ext E, r⟩
theorem own_A.other {sl : Nat} {v : Value} (F : own_A Z h a ty n fv) (W : Wr h h' b sl v) (q : a ≠ b) : own_A Z h' a ty n fv := by obtain ⟨c, A, r⟩ := F; exact ⟨c, A.other W q, r⟩
theorem own_A.keep {ws : List Addr} (F : own_A Z h a ty n fv) (K : Keep h h' ws) (q : a ∉ ws) : own_A Z h' a ty n fv := by obtain ⟨c, A, r⟩ := F; exact ⟨c, ⟨K.2.1 a c A.1 q, A.2⟩, r⟩
theorem own_A.congr {gv : Nat → Value} (F : own_A Z h a ty n fv) (q : ∀ i, i < n → fv i = gv i) : own_A Z h a ty n gv := by obtain ⟨c, A, r, t⟩ := F; exact ⟨c, A, r, fun i hi => by rw [t i hi, q i hi]⟩
theorem own_A.set {j : Nat} {v : Value} (F : own_A Z h a ty n fv) (W : Wr h h' a j v) : own_A Z h' a ty n (fun i => if i = j then v else fv i) := by
  obtain ⟨c, A, r, t⟩ := F
  have W0 := W
  obtain ⟨c2, h1, -, h3, -⟩ := W0
  have ec : c2 = c := Option.some.inj (h1.symm.trans A.1)
  subst ec
  refine ⟨_, A.same W, by rw [sz_set]; exact r, fun i hi => ?_⟩
  by_cases q : i = j
  · subst q; simp [Cell.setSlot, h3]
  · simp only [q, if_false]; rw [← t i hi]; simp only [Cell.setSlot]; exact Array.getElem?_setIfInBounds_ne fun z => q z.symm
theorem own_A.new {k : ClassId} {z : Int32} (A : Arr Z h a (newA k ty z) ty) (q : z.toNatClampNeg = n) : own_A Z h a ty n (fun _ => defaultValue ty) := by
  subst q
  exact ⟨_, A, sz_new _ _ _, fun i hi => by simp [newA, hi]⟩
theorem own_AI.lt (F : own_AI Z h a ty n fi) : a < h.size := own_A.lt F
theorem own_AI.ext (F : own_AI Z h a ty n fi) (E : Ext h h') : own_AI Z h' a ty n fi := own_A.ext F E
theorem own_AI.other {sl : Nat} {v : Value} (F : own_AI Z h a ty n fi) (W : Wr h h' b sl v) (q : a ≠ b) : own_AI Z h' a ty n fi := own_A.other F W q
theorem own_AI.keep {ws : List Addr} (F : own_AI Z h a ty n fi) (K : Keep h h' ws) (q : a ∉ ws) : own_AI Z h' a ty n fi := own_A.keep F K q
theorem own_AI.congr {gi : Nat → Int32} (F : own_AI Z h a ty n fi) (q : ∀ i, i < n → fi i = gi i) : own_AI Z h a ty n gi := own_A.congr F fun i hi => by rw [q i hi]
theorem own_AI.set {j : Nat} {x : Int32} (F : own_AI Z h a ty n fi) (W : Wr h h' a j (.int x)) : own_AI Z h' a ty n (fun i => if i = j then x else fi i) := (own_A.set F W).congr fun i _ => by by_cases q : i = j <;> simp [q]
theorem own_AI.newI {k : ClassId} {z : Int32} (A : Arr Z h a (newA k .int z) .int) (q : z.toNatClampNeg = n) : own_AI Z h a .int n (fun _ => 0) := own_A.new A q
theorem own_AI.newB {k : ClassId} {z : Int32} (A : Arr Z h a (newA k .byte z) .byte) (q : z.toNatClampNeg = n) : own_AI Z h a .byte n (fun _ => 0) := own_A.new A q
theorem own_AJ.lt (F : own_AJ Z h a n fj) : a < h.size := own_A.lt F
theorem own_AJ.ext (F : own_AJ Z h a n fj) (E : Ext h h') : own_AJ Z h' a n fj := own_A.ext F E
theorem own_AJ.other {sl : Nat} {v : Value} (F : own_AJ Z h a n fj) (W : Wr h h' b sl v) (q : a ≠ b) : own_AJ Z h' a n fj := own_A.other F W q
theorem own_AJ.keep {ws : List Addr} (F : own_AJ Z h a n fj) (K : Keep h h' ws) (q : a ∉ ws) : own_AJ Z h' a n fj := own_A.keep F K q
theorem own_AJ.congr {gj : Nat → Int64} (F : own_AJ Z h a n fj) (q : ∀ i, i < n → fj i = gj i) : own_AJ Z h a n gj := own_A.congr F fun i hi => by rw [q i hi]
theorem own_AJ.set {j : Nat} {x : Int64} (F : own_AJ Z h a n fj) (W : Wr h h' a j (.long x)) : own_AJ Z h' a n (fun i => if i = j then x else fj i) := (own_A.set F W).congr fun i _ => by by_cases q : i = j <;> simp [q]
theorem own_AJ.new {k : ClassId} {z : Int32} (A : Arr Z h a (newA k .long z) .long) (q : z.toNatClampNeg = n) : own_AJ Z h a n (fun _ => 0) := own_A.new A q
theorem own_in {j : Int32} {k n : Nat} (hj : j.toInt = (k : Int)) (hk : k < n) : j.toNatClampNeg = k ∧ ¬ (j < 0 ∨ n ≤ j.toNatClampNeg) := by
  have q : j.toNatClampNeg = k := by simp only [Int32.toNatClampNeg, hj]; omega
  refine ⟨q, fun z => ?_⟩
  rcases z with z | z
  · rw [Int32.lt_iff_toInt_lt, hj] at z
    have : (0 : Int32).toInt = 0 := rfl
    omega
  · omega
theorem own_iaload (X : Stand p l e R s m args below meth c T locs cells slots) (hx : p.tables.exec = Jvm.exec) (hZ : Z.Warmed39 s.vm) (eT : T.heap = h) (F : own_AI Z h a .int n fi) {j : Int32} {k : Nat} (hj : j.toInt = (k : Int)) (hk : k < n) {v : Int32} (hv : fi k = v) {pc pc' : Nat} {Ls : Array Slot} {rest : List Value}
    (hd : decode c.code pc = .ok (.iaload, 1)) (hp : pc + 1 = pc') (r : own_Fin p e below s Q cl sl T (mkF m pc' Ls (.int v :: rest))) : own_Fin p e below s Q cl sl T (mkF m pc Ls (.int j :: .ref a :: rest)) := by
  obtain ⟨cc, A, h1, h2⟩ := F
  obtain ⟨q1, q2⟩ := own_in hj hk
  subst hp hv
  exact own_step (fun t k' => X.iaload hx (j := j) (v := .int (fi k)) (by rw [eT]; exact A.1) (State.isArrayOf_alike hZ.alike A.2.1) A.2.2 (by rw [h1]; exact q2) (by rw [q1]; exact h2 k hk) (g := mkF m pc Ls (.int j :: .ref a :: rest)) rfl rfl hd _ k') r
theorem own_baload (X : Stand p l e R s m args below meth c T locs cells slots) (hx : p.tables.exec = Jvm.exec) (hZ : Z.Warmed39 s.vm) (eT : T.heap = h) (F : own_AI Z h a .byte n fi) {j : Int32} {k : Nat} (hj : j.toInt = (k : Int)) (hk : k < n) {v : Int32} (hv : fi k = v) {pc pc' : Nat} {Ls : Array Slot} {rest : List Value}
    (hd : decode c.code pc = .ok (.baload, 1)) (hp : pc + 1 = pc') (r : own_Fin p e below s Q cl sl T (mkF m pc' Ls (.int v :: rest))) : own_Fin p e below s Q cl sl T (mkF m pc Ls (.int j :: .ref a :: rest)) := by
  obtain ⟨cc, A, h1, h2⟩ := F
  obtain ⟨q1, q2⟩ := own_in hj hk
  subst hp hv
  exact own_step (fun t k' => X.baloadBytes hx (j := j) (v := .int (fi k)) (by rw [eT]; exact A.1) (State.isArrayOf_alike hZ.alike A.2.1) A.2.2 (by rw [h1]; exact q2) (by rw [q1]; exact h2 k hk) (g := mkF m pc Ls (.int j :: .ref a :: rest)) rfl rfl hd _ k') r
theorem own_laload (X : Stand p l e R s m args below meth c T locs cells slots) (hx : p.tables.exec = Jvm.exec) (hZ : Z.Warmed39 s.vm) (eT : T.heap = h) (F : own_AJ Z h a n fj) {j : Int32} {k : Nat} (hj : j.toInt = (k : Int)) (hk : k < n) {v : Int64} (hv : fj k = v) {pc pc' : Nat} {Ls : Array Slot} {rest : List Value}
    (hd : decode c.code pc = .ok (.laload, 1)) (hp : pc + 1 = pc') (r : own_Fin p e below s Q cl sl T (mkF m pc' Ls (.long v :: rest))) : own_Fin p e below s Q cl sl T (mkF m pc Ls (.int j :: .ref a :: rest)) := by
  obtain ⟨cc, A, h1, h2⟩ := F
  obtain ⟨q1, q2⟩ := own_in hj hk
  subst hp hv
  exact own_step (fun t k' => X.laload hx (j := j) (v := .long (fj k)) (by rw [eT]; exact A.1) (State.isArrayOf_alike hZ.alike A.2.1) A.2.2 (by rw [h1]; exact q2) (by rw [q1]; exact h2 k hk) (g := mkF m pc Ls (.int j :: .ref a :: rest)) rfl rfl hd _ k') r
theorem own_arrlen (X : Stand p l e R s m args below meth c T locs cells slots) (hx : p.tables.exec = Jvm.exec) (hZ : Z.Warmed39 s.vm) (eT : T.heap = h) (F : own_A Z h a ty n fv) {z : Int32} (hz : n.toInt32 = z) {pc pc' : Nat} {Ls : Array Slot} {rest : List Value}
    (hd : decode c.code pc = .ok (.arraylength, 1)) (hp : pc + 1 = pc') (r : own_Fin p e below s Q cl sl T (mkF m pc' Ls (.int z :: rest))) : own_Fin p e below s Q cl sl T (mkF m pc Ls (.ref a :: rest)) := by
  obtain ⟨cc, A, h1, h2⟩ := F
  subst hp hz
  exact own_step (fun t k' => X.arraylength hx (by rw [eT]; exact A.1) (State.isArrayOf_alike hZ.alike A.2.1) (g := mkF m pc Ls (.ref a :: rest)) rfl rfl hd _ (by rw [h1]; exact k')) r
theorem own_iastore (X : Stand p l e R s m args below meth c T locs cells slots) (hx : p.tables.exec = Jvm.exec) (hZ : Z.Warmed39 s.vm) (eT : T.heap = h) (F : own_AI Z h a .int n fi) {j : Int32} {k : Nat} (hj : j.toInt = (k : Int)) (hk : k < n) {x : Int32} {pc pc' : Nat} {Ls : Array Slot} {rest : List Value}
    (hd : decode c.code pc = .ok (.iastore, 1)) (hp : pc + 1 = pc') :
    ∃ T' h', Stand p l e R s m args below meth c T' (locs ++ [⟨a, k⟩]) cells slots ∧ T'.heap = h' ∧ Wr h h' a k (.int x) ∧ own_AI Z h' a .int n (fun i => if i = k then x else fi i) ∧ ∀ t, Steps p.tables e below (T'.setTop (mkF m pc' Ls rest)) t → Steps p.tables e below (T.setTop (mkF m pc Ls (.int x :: .int j :: .ref a :: rest))) t := by
  obtain ⟨q1, q2⟩ := own_in hj hk
  have F' := F
  obtain ⟨cc, A, h1, h2⟩ := F
  subst hp q1
  obtain ⟨T', h', X', e', W', st⟩ := stI X hx hZ eT A (j := j) (x := x) (by rw [h1]; exact q2) (g := mkF m pc Ls (.int x :: .int j :: .ref a :: rest)) rfl rfl hd
  exact ⟨T', h', X', e', W', F'.set W', st⟩
theorem own_bastore (X : Stand p l e R s m args below meth c T locs cells slots) (hx : p.tables.exec = Jvm.exec) (hZ : Z.Warmed39 s.vm) (eT : T.heap = h) (F : own_AI Z h a .byte n fi) {j : Int32} {k : Nat} (hj : j.toInt = (k : Int)) (hk : k < n) {x y : Int32} (hn : nar .byte x = y) {pc pc' : Nat} {Ls : Array Slot} {rest : List Value}
    (hd : decode c.code pc = .ok (.bastore, 1)) (hp : pc + 1 = pc') :
    ∃ T' h', Stand p l e R s m args below meth c T' (locs ++ [⟨a, k⟩]) cells slots ∧ T'.heap = h' ∧ Wr h h' a k (.int y) ∧ own_AI Z h' a .byte n (fun i => if i = k then y else fi i) ∧ ∀ t, Steps p.tables e below (T'.setTop (mkF m pc' Ls rest)) t → Steps p.tables e below (T.setTop (mkF m pc Ls (.int x :: .int j :: .ref a :: rest))) t := by
  obtain ⟨q1, q2⟩ := own_in hj hk
  have F' := F
  obtain ⟨cc, A, h1, h2⟩ := F
  subst hp q1 hn
  obtain ⟨T', h', X', e', W', st⟩ := stB X hx hZ eT A (j := j) (x := x) (by rw [h1]; exact q2) (g := mkF m pc Ls (.int x :: .int j :: .ref a :: rest)) rfl rfl hd
  exact ⟨T', h', X', e', W', F'.set W', st⟩
theorem own_lastore (X : Stand p l e R s m args below meth c T locs cells slots) (hx : p.tables.exec = Jvm.exec) (hZ : Z.Warmed39 s.vm) (eT : T.heap = h) (F : own_AJ Z h a n fj) {j : Int32} {k : Nat} (hj : j.toInt = (k : Int)) (hk : k < n) {x : Int64} {pc pc' : Nat} {Ls : Array Slot} {rest : List Value}
    (hd : decode c.code pc = .ok (.lastore, 1)) (hp : pc + 1 = pc') :
    ∃ T' h', Stand p l e R s m args below meth c T' (locs ++ [⟨a, k⟩]) cells slots ∧ T'.heap = h' ∧ Wr h h' a k (.long x) ∧ own_AJ Z h' a n (fun i => if i = k then x else fj i) ∧ ∀ t, Steps p.tables e below (T'.setTop (mkF m pc' Ls rest)) t → Steps p.tables e below (T.setTop (mkF m pc Ls (.long x :: .int j :: .ref a :: rest))) t := by
  obtain ⟨q1, q2⟩ := own_in hj hk
  have F' := F
  obtain ⟨cc, A, h1, h2⟩ := F
  subst hp q1
  obtain ⟨T', h', X', e', W', st⟩ := stJ X hx hZ eT A (j := j) (x := x) (by rw [h1]; exact q2) (g := mkF m pc Ls (.long x :: .int j :: .ref a :: rest)) rfl rfl hd
  exact ⟨T', h', X', e', W', F'.set W', st⟩
theorem own_nar8 (x : Int32) : nar .byte x.toInt8.toInt32 = x.toInt8.toInt32 := by
  show (x.toInt8.toInt32).toInt8.toInt32 = x.toInt8.toInt32
  simp
end OwnKit
theorem own_five {i : Nat} (h : i < 5) : i = 0 ∨ i = 1 ∨ i = 2 ∨ i = 3 ∨ i = 4 := by omega
def own_sb (f g : Nat → Int64) (i : Nat) : Int64 := if i = 0 then (f 0 + (9007199254740916 : Int64)) - g 0 else (f i + (9007199254740988 : Int64)) - g i
theorem own_sb0 (f g : Nat → Int64) : own_sb f g 0 = (f 0 + (9007199254740916 : Int64)) - g 0 := by unfold own_sb; rw [if_pos rfl]
theorem own_sbn (f g : Nat → Int64) (i : Nat) (h : i ≠ 0) : own_sb f g i = (f i + (9007199254740988 : Int64)) - g i := by unfold own_sb; rw [if_neg h]
theorem own_k0 : (9007199254740916 : Int64).toInt = 9007199254740916 := by decide
theorem own_k1 : (9007199254740988 : Int64).toInt = 9007199254740988 := by decide
theorem own_limb (x w : Int64) (hw : (x.toUInt64 >>> ((11 : Int32) &&& 0x3f).toInt64.toUInt64).toInt64 = w) : 0 ≤ (w - (w / (9007199254740916 : Int64)) * (9007199254740916 : Int64)).toInt ∧ (w - (w / (9007199254740916 : Int64)) * (9007199254740916 : Int64)).toInt < 9007199254740916 := by
  have h := c_lushr x 11 11 (by decide) (by decide)
  rw [hw] at h
  have q := (c_lrem w 9007199254740916 9007199254740916 (by decide)).1 (by omega)
  omega
theorem own_ok (f g c : Int64) (hf : 0 ≤ f.toInt ∧ f.toInt < 9007199254740916) (hg : 0 ≤ g.toInt ∧ g.toInt < 9007199254740916) (hc : c.toInt = 9007199254740916 ∨ c.toInt = 9007199254740988) : 0 ≤ ((f + c) - g).toInt ∧ ((f + c) - g).toInt < 18014398509481984 ∧ ((((f + c) - g) - f) + g).toInt = c.toInt := by
  have h1 := c_ladd f c
  have r1 := rng64 (f + c)
  have h2 := c_lsub (f + c) g
  have r2 := rng64 ((f + c) - g)
  have h3 := c_lsub ((f + c) - g) f
  have r3 := rng64 (((f + c) - g) - f)
  have h4 := c_ladd (((f + c) - g) - f) g
  have r4 := rng64 ((((f + c) - g) - f) + g)
  refine ⟨?_, ?_, ?_⟩ <;> omega
theorem d1_0 : decode method_2_code 0 = .ok (.lload_n 0, 1) := by decide +kernel
theorem d1_1 : decode method_2_code 1 = .ok (.bipush 11, 2) := by decide +kernel
theorem d1_3 : decode method_2_code 3 = .ok (.lushr, 1) := by decide +kernel
theorem d1_4 : decode method_2_code 4 = .ok (.ldc2_w 7, 3) := by decide +kernel
theorem d1_7 : decode method_2_code 7 = .ok (.lrem, 1) := by decide +kernel
theorem d1_8 : decode method_2_code 8 = .ok (.lreturn, 1) := by decide +kernel
theorem own_pn_1 : plainName "com/example/quietwire/quietwire/Field25519SubtractPinLaw" = true := by first | (simp [plainName, overriddenIn]; done) | decide +kernel
theorem own_ef_1 (m : MethodId) (q1 : Int64) : entryFrame m #[(.long q1)] 2 = mkF m 0 #[.val (.long q1), .second] [] := by first | (simp [entryFrame, mkF, argsToLocals, Value.category]; done) | rfl
abbrev own_R1 : Room := { frames := 0, cells := 0, slots := 0, locals := 0 }
def own_Q1 (Z : State) (q1 : Int64) (h0 : Heap) (n0 : Nat) (v : Option Value) (h : Heap) (L : List Loc) : Prop := ∃ r : Int64, v = some (.long r) ∧ (0 ≤ r.toInt ∧ r.toInt < 9007199254740916) ∧ Fr n0 L ∧ h = h0
set_option maxRecDepth 65536 in
set_option maxHeartbeats 40000000 in
theorem rm1 (l : Launch) (Z : State) (a0 : Array Value) (hw : ∀ d ∈ tables_1, d.before a0 Z = true) (ws : List Jvm.Cond) (q1 : Int64) (h0 : Heap) (n0 : Nat) (Z0 : n0 ≤ h0.size) :
    MetFree l (⟨"com/example/quietwire/quietwire/Field25519SubtractPinLaw", "limb", "(J)J"⟩ : MethodName) (head1 (Jvm.Cond.code (⟨"com/example/quietwire/quietwire/Field25519SubtractPinLaw", "limb", "(J)J"⟩ : MethodName) method_2_code 2 (some .long) :: ws) own_R1) (fun a U => a = #[(.long q1)] ∧ Z.Warmed39 U.vm ∧ U.heap = h0) (fun _ _ _ _ _ => True) (fun _ U o U' => ∃ v L, o = .returned v ∧ own_Q1 Z q1 h0 n0 v U'.heap L ∧ FrameEnd U o U' L own_R1.cells own_R1.slots) := by
  refine MetFree.of_bodySF (plainFor_of_name own_pn_1) hisR ?_
  intro p e s m args below meth c s₁ Bd hml0 hP hK
  obtain ⟨rfl, hZ, hh⟩ := hP
  have hx := Bd.exec
  have hby := Bd.bytes
  have hlk := BodyLoose.notSynchronized Bd
  have hml : c.maxLocals = 2 := hml0
  have hown : s.vm.findClass "com/example/quietwire/quietwire/Field25519SubtractPinLaw" = some m.cls := (findClass_of_methodNamed Bd.named : s.vm.findClass (⟨"com/example/quietwire/quietwire/Field25519SubtractPinLaw", "limb", "(J)J"⟩ : MethodName).cls = some m.cls)
  have hnm := (name_of_methodNamed Bd.named Bd.method).1
  have X0 : Stand p l e own_R1 s m #[(.long q1)] below meth c s₁ [] 0 0 := Stand.of_body Bd
  have e0 : s₁.heap = h0 := by rw [← hh, Bd.state]; rfl
  have Nf := Fr.nil n0
  have Zs := Z0
  show own_Fin p e below s (own_Q1 Z q1 h0 n0) 0 0 s₁ (entryFrame m #[(.long q1)] 2)
  rw [own_ef_1 m q1]
  show own_Fin _ _ _ _ _ _ _ _ (mkF m 0 #[.val (.long q1), .second] [])
  refine own_step (fun t k => XS.lloadN X0.here hx rfl (hb hby d1_0) rfl k) ?_
  show own_Fin _ _ _ _ _ _ _ _ (mkF m 1 #[.val (.long q1), .second] [(.long q1)])
  refine own_step (fun t k => XS.bipush X0.here hx rfl (hb hby d1_1) k) ?_
  show own_Fin _ _ _ _ _ _ _ _ (mkF m 3 #[.val (.long q1), .second] [(.int (11 : Int32)), (.long q1)])
  refine own_step (fun t k => XS.lushr X0.here hx rfl (hb hby d1_3) rfl k) ?_
  show own_Fin _ _ _ _ _ _ _ _ (mkF m 4 #[.val (.long q1), .second] [(.long ((q1.toUInt64 >>> ((11 : Int32) &&& 0x3f).toInt64.toUInt64).toInt64))])
  generalize hw1 : ((q1.toUInt64 >>> ((11 : Int32) &&& 0x3f).toInt64.toUInt64).toInt64) = w1
  refine own_step (fun t k => X0.ldc2Long hx hown (mvT hZ (hw _ (List.mem_of_getElem? (i := 5) rfl))) (g := (mkF m 4 #[.val (.long q1), .second] [(.long w1)])) rfl (hb hby d1_4) _ k) ?_
  show own_Fin _ _ _ _ _ _ _ _ (mkF m 7 #[.val (.long q1), .second] [(.long (9007199254740916 : Int64)), (.long w1)])
  refine own_step (fun t k => XS.lrem X0.here hx rfl (hb hby d1_7) rfl (by decide) k) ?_
  show own_Fin _ _ _ _ _ _ _ _ (mkF m 8 #[.val (.long q1), .second] [(.long (w1 - (w1 / (9007199254740916 : Int64)) * (9007199254740916 : Int64)))])
  refine own_retJ X0 hx hlk Bd.returns (hb hby d1_8) (by decide) (by decide) e0 ?_
  exact ⟨_, rfl, own_limb q1 w1 hw1, Nf, rfl⟩
theorem d2_0 : decode prog_33_method_6_code 0 = .ok (.aload_n 0, 1) := by decide +kernel
theorem d2_1 : decode prog_33_method_6_code 1 = .ok (.iconst 0, 1) := by decide +kernel
theorem d2_2 : decode prog_33_method_6_code 2 = .ok (.aload_n 1, 1) := by decide +kernel
theorem d2_3 : decode prog_33_method_6_code 3 = .ok (.iconst 0, 1) := by decide +kernel
theorem d2_4 : decode prog_33_method_6_code 4 = .ok (.laload, 1) := by decide +kernel
theorem d2_5 : decode prog_33_method_6_code 5 = .ok (.ldc2_w 15, 3) := by decide +kernel
theorem d2_8 : decode prog_33_method_6_code 8 = .ok (.ladd, 1) := by decide +kernel
theorem d2_9 : decode prog_33_method_6_code 9 = .ok (.aload_n 2, 1) := by decide +kernel
theorem d2_10 : decode prog_33_method_6_code 10 = .ok (.iconst 0, 1) := by decide +kernel
theorem d2_11 : decode prog_33_method_6_code 11 = .ok (.laload, 1) := by decide +kernel
theorem d2_12 : decode prog_33_method_6_code 12 = .ok (.lsub, 1) := by decide +kernel
theorem d2_13 : decode prog_33_method_6_code 13 = .ok (.lastore, 1) := by decide +kernel
theorem d2_14 : decode prog_33_method_6_code 14 = .ok (.iconst 1, 1) := by decide +kernel
theorem d2_15 : decode prog_33_method_6_code 15 = .ok (.istore_n 3, 1) := by decide +kernel
theorem d2_16 : decode prog_33_method_6_code 16 = .ok (.iload_n 3, 1) := by decide +kernel
theorem d2_17 : decode prog_33_method_6_code 17 = .ok (.iconst 5, 1) := by decide +kernel
theorem d2_18 : decode prog_33_method_6_code 18 = .ok (.if_icmp .ge 23, 3) := by decide +kernel
theorem d2_21 : decode prog_33_method_6_code 21 = .ok (.aload_n 0, 1) := by decide +kernel
theorem d2_22 : decode prog_33_method_6_code 22 = .ok (.iload_n 3, 1) := by decide +kernel
theorem d2_23 : decode prog_33_method_6_code 23 = .ok (.aload_n 1, 1) := by decide +kernel
theorem d2_24 : decode prog_33_method_6_code 24 = .ok (.iload_n 3, 1) := by decide +kernel
theorem d2_25 : decode prog_33_method_6_code 25 = .ok (.laload, 1) := by decide +kernel
theorem d2_26 : decode prog_33_method_6_code 26 = .ok (.ldc2_w 17, 3) := by decide +kernel
theorem d2_29 : decode prog_33_method_6_code 29 = .ok (.ladd, 1) := by decide +kernel
theorem d2_30 : decode prog_33_method_6_code 30 = .ok (.aload_n 2, 1) := by decide +kernel
theorem d2_31 : decode prog_33_method_6_code 31 = .ok (.iload_n 3, 1) := by decide +kernel
theorem d2_32 : decode prog_33_method_6_code 32 = .ok (.laload, 1) := by decide +kernel
theorem d2_33 : decode prog_33_method_6_code 33 = .ok (.lsub, 1) := by decide +kernel
theorem d2_34 : decode prog_33_method_6_code 34 = .ok (.lastore, 1) := by decide +kernel
theorem d2_35 : decode prog_33_method_6_code 35 = .ok (.iinc 3 1, 3) := by decide +kernel
theorem d2_38 : decode prog_33_method_6_code 38 = .ok (.goto (-22), 3) := by decide +kernel
theorem d2_41 : decode prog_33_method_6_code 41 = .ok (.return_, 1) := by decide +kernel
theorem own_pn_2 : plainName "com/example/quietwire/quietwire/Field25519" = true := by first | (simp [plainName, overriddenIn]; done) | decide +kernel
theorem own_ef_2 (m : MethodId) (a1 : Addr) (a2 : Addr) : entryFrame m #[(.ref a1), (.ref a1), (.ref a2)] 4 = mkF m 0 #[.val (.ref a1), .val (.ref a1), .val (.ref a2), .unset] [] := by first | (simp [entryFrame, mkF, argsToLocals, Value.category]; done) | rfl
abbrev own_R2 : Room := { frames := 0, cells := 0, slots := 0, locals := 0 }
def own_Q2 (Z : State) (a1 : Addr) (a2 : Addr) (f1 : Nat → Int64) (f2 : Nat → Int64) (h0 : Heap) (n0 : Nat) (v : Option Value) (h : Heap) (L : List Loc) : Prop := v = none ∧ Fr n0 L ∧ Keep h0 h [a1] ∧ own_AJ Z h a1 5 (own_sb f1 f2)
set_option maxRecDepth 65536 in
set_option maxHeartbeats 40000000 in
theorem rm2 (l : Launch) (Z : State) (a0 : Array Value) (hw : ∀ d ∈ tables_1, d.before a0 Z = true) (ws : List Jvm.Cond) (a1 : Addr) (a2 : Addr) (f1 : Nat → Int64) (f2 : Nat → Int64) (h0 : Heap) (n0 : Nat) (Z0 : n0 ≤ h0.size) (V_a1 : own_AJ Z h0 a1 5 f1) (V_a2 : own_AJ Z h0 a2 5 f2) (g_a1 : n0 ≤ a1) (hne : a1 ≠ a2) :
    MetFree l (⟨"com/example/quietwire/quietwire/Field25519", "subtract", "([J[J[J)V"⟩ : MethodName) (head1 (Jvm.Cond.code (⟨"com/example/quietwire/quietwire/Field25519", "subtract", "([J[J[J)V"⟩ : MethodName) prog_33_method_6_code 4 none :: ws) own_R2) (fun a U => a = #[(.ref a1), (.ref a1), (.ref a2)] ∧ Z.Warmed39 U.vm ∧ U.heap = h0) (fun _ _ _ _ _ => True) (fun _ U o U' => ∃ v L, o = .returned v ∧ own_Q2 Z a1 a2 f1 f2 h0 n0 v U'.heap L ∧ FrameEnd U o U' L own_R2.cells own_R2.slots) := by
  refine MetFree.of_bodySF (plainFor_of_name own_pn_2) hisR ?_
  intro p e s m args below meth c s₁ Bd hml0 hP hK
  obtain ⟨rfl, hZ, hh⟩ := hP
  have hx := Bd.exec
  have hby := Bd.bytes
  have hlk := BodyLoose.notSynchronized Bd
  have hml : c.maxLocals = 4 := hml0
  have hown : s.vm.findClass "com/example/quietwire/quietwire/Field25519" = some m.cls := (findClass_of_methodNamed Bd.named : s.vm.findClass (⟨"com/example/quietwire/quietwire/Field25519", "subtract", "([J[J[J)V"⟩ : MethodName).cls = some m.cls)
  have hnm := (name_of_methodNamed Bd.named Bd.method).1
  have X0 : Stand p l e own_R2 s m #[(.ref a1), (.ref a1), (.ref a2)] below meth c s₁ [] 0 0 := Stand.of_body Bd
  have e0 : s₁.heap = h0 := by rw [← hh, Bd.state]; rfl
  have Nf := Fr.nil n0
  have Zs := Z0
  have K : Keep h0 h0 [a1] := Keep.refl _ _
  show own_Fin p e below s (own_Q2 Z a1 a2 f1 f2 h0 n0) 0 0 s₁ (entryFrame m #[(.ref a1), (.ref a1), (.ref a2)] 4)
  rw [own_ef_2 m a1 a2]
  show own_Fin _ _ _ _ _ _ _ _ (mkF m 0 #[.val (.ref a1), .val (.ref a1), .val (.ref a2), .unset] [])
  refine own_step (fun t k => XS.aloadN X0.here hx rfl (hb hby d2_0) rfl rfl k) ?_
  show own_Fin _ _ _ _ _ _ _ _ (mkF m 1 #[.val (.ref a1), .val (.ref a1), .val (.ref a2), .unset] [(.ref a1)])
  refine own_step (fun t k => XS.iconst X0.here hx rfl (hb hby d2_1) k) ?_
  show own_Fin _ _ _ _ _ _ _ _ (mkF m 2 #[.val (.ref a1), .val (.ref a1), .val (.ref a2), .unset] [(.int (0 : Int32)), (.ref a1)])
  refine own_step (fun t k => XS.aloadN X0.here hx rfl (hb hby d2_2) rfl rfl k) ?_
  show own_Fin _ _ _ _ _ _ _ _ (mkF m 3 #[.val (.ref a1), .val (.ref a1), .val (.ref a2), .unset] [(.ref a1), (.int (0 : Int32)), (.ref a1)])
  refine own_step (fun t k => XS.iconst X0.here hx rfl (hb hby d2_3) k) ?_
  show own_Fin _ _ _ _ _ _ _ _ (mkF m 4 #[.val (.ref a1), .val (.ref a1), .val (.ref a2), .unset] [(.int (0 : Int32)), (.ref a1), (.int (0 : Int32)), (.ref a1)])
  refine own_laload X0 hx hZ e0 V_a1 (k := 0) rfl (by decide) (v := (f1 0)) rfl (hb hby d2_4) rfl ?_
  show own_Fin _ _ _ _ _ _ _ _ (mkF m 5 #[.val (.ref a1), .val (.ref a1), .val (.ref a2), .unset] [(.long (f1 0)), (.int (0 : Int32)), (.ref a1)])
  refine own_step (fun t k => X0.ldc2Long hx hown (mvT hZ (hw _ (List.mem_of_getElem? (i := 11) rfl))) (g := (mkF m 5 #[.val (.ref a1), .val (.ref a1), .val (.ref a2), .unset] [(.long (f1 0)), (.int (0 : Int32)), (.ref a1)])) rfl (hb hby d2_5) _ k) ?_
  show own_Fin _ _ _ _ _ _ _ _ (mkF m 8 #[.val (.ref a1), .val (.ref a1), .val (.ref a2), .unset] [(.long (9007199254740916 : Int64)), (.long (f1 0)), (.int (0 : Int32)), (.ref a1)])
  refine own_step (fun t k => XS.ladd X0.here hx rfl (hb hby d2_8) rfl k) ?_
  show own_Fin _ _ _ _ _ _ _ _ (mkF m 9 #[.val (.ref a1), .val (.ref a1), .val (.ref a2), .unset] [(.long ((f1 0) + (9007199254740916 : Int64))), (.int (0 : Int32)), (.ref a1)])
  refine own_step (fun t k => XS.aloadN X0.here hx rfl (hb hby d2_9) rfl rfl k) ?_
  show own_Fin _ _ _ _ _ _ _ _ (mkF m 10 #[.val (.ref a1), .val (.ref a1), .val (.ref a2), .unset] [(.ref a2), (.long ((f1 0) + (9007199254740916 : Int64))), (.int (0 : Int32)), (.ref a1)])
  refine own_step (fun t k => XS.iconst X0.here hx rfl (hb hby d2_10) k) ?_
  show own_Fin _ _ _ _ _ _ _ _ (mkF m 11 #[.val (.ref a1), .val (.ref a1), .val (.ref a2), .unset] [(.int (0 : Int32)), (.ref a2), (.long ((f1 0) + (9007199254740916 : Int64))), (.int (0 : Int32)), (.ref a1)])
  refine own_laload X0 hx hZ e0 V_a2 (k := 0) rfl (by decide) (v := (f2 0)) rfl (hb hby d2_11) rfl ?_
  show own_Fin _ _ _ _ _ _ _ _ (mkF m 12 #[.val (.ref a1), .val (.ref a1), .val (.ref a2), .unset] [(.long (f2 0)), (.long ((f1 0) + (9007199254740916 : Int64))), (.int (0 : Int32)), (.ref a1)])
  refine own_step (fun t k => XS.lsub X0.here hx rfl (hb hby d2_12) rfl k) ?_
  show own_Fin _ _ _ _ _ _ _ _ (mkF m 13 #[.val (.ref a1), .val (.ref a1), .val (.ref a2), .unset] [(.long (((f1 0) + (9007199254740916 : Int64)) - (f2 0))), (.int (0 : Int32)), (.ref a1)])
  obtain ⟨T1, h1, X1, e1, W1, B1, st1⟩ := own_lastore X0 hx hZ e0 V_a1 (j := (0 : Int32)) (k := 0) rfl (by decide) (x := (((f1 0) + (9007199254740916 : Int64)) - (f2 0))) (pc := 13) (Ls := #[.val (.ref a1), .val (.ref a1), .val (.ref a2), .unset]) (rest := []) (hb hby d2_13) rfl
  refine own_step st1 ?_
  replace V_a2 := V_a2.other W1 (Ne.symm hne)
  replace Zs : n0 ≤ h1.size := by rw [W1.size]; exact Zs
  replace K := K.wr W1 (Or.inl (by simp))
  replace V_a1 := B1
  replace Nf := Fr.snoc X1 Nf g_a1
  show own_Fin _ _ _ _ _ _ _ _ (mkF m 14 #[.val (.ref a1), .val (.ref a1), .val (.ref a2), .unset] [])
  refine own_step (fun t k => XS.iconst X1.here hx rfl (hb hby d2_14) k) ?_
  show own_Fin _ _ _ _ _ _ _ _ (mkF m 15 #[.val (.ref a1), .val (.ref a1), .val (.ref a2), .unset] [(.int (1 : Int32))])
  refine own_step (fun t k => XS.istoreN X1.here hx rfl (hb hby d2_15) rfl (l' := #[.val (.ref a1), .val (.ref a1), .val (.ref a2), .val (.int (1 : Int32))]) rfl k) ?_
  show own_Fin _ _ _ _ _ _ _ _ (mkF m 16 #[.val (.ref a1), .val (.ref a1), .val (.ref a2), .val (.int (1 : Int32))] [])
  refine own_step (fun t k => XS.iloadN X1.here hx rfl (hb hby d2_16) rfl k) ?_
  show own_Fin _ _ _ _ _ _ _ _ (mkF m 17 #[.val (.ref a1), .val (.ref a1), .val (.ref a2), .val (.int (1 : Int32))] [(.int (1 : Int32))])
  refine own_step (fun t k => XS.iconst X1.here hx rfl (hb hby d2_17) k) ?_
  show own_Fin _ _ _ _ _ _ _ _ (mkF m 18 #[.val (.ref a1), .val (.ref a1), .val (.ref a2), .val (.int (1 : Int32))] [(.int (5 : Int32)), (.int (1 : Int32))])
  refine own_step (fun t k => XS.icmpNo X1.here hx rfl (hb hby d2_18) rfl (by decide) k) ?_
  show own_Fin _ _ _ _ _ _ _ _ (mkF m 21 #[.val (.ref a1), .val (.ref a1), .val (.ref a2), .val (.int (1 : Int32))] [])
  refine own_step (fun t k => XS.aloadN X1.here hx rfl (hb hby d2_21) rfl rfl k) ?_
  show own_Fin _ _ _ _ _ _ _ _ (mkF m 22 #[.val (.ref a1), .val (.ref a1), .val (.ref a2), .val (.int (1 : Int32))] [(.ref a1)])
  refine own_step (fun t k => XS.iloadN X1.here hx rfl (hb hby d2_22) rfl k) ?_
  show own_Fin _ _ _ _ _ _ _ _ (mkF m 23 #[.val (.ref a1), .val (.ref a1), .val (.ref a2), .val (.int (1 : Int32))] [(.int (1 : Int32)), (.ref a1)])
  refine own_step (fun t k => XS.aloadN X1.here hx rfl (hb hby d2_23) rfl rfl k) ?_
  show own_Fin _ _ _ _ _ _ _ _ (mkF m 24 #[.val (.ref a1), .val (.ref a1), .val (.ref a2), .val (.int (1 : Int32))] [(.ref a1), (.int (1 : Int32)), (.ref a1)])
  refine own_step (fun t k => XS.iloadN X1.here hx rfl (hb hby d2_24) rfl k) ?_
  show own_Fin _ _ _ _ _ _ _ _ (mkF m 25 #[.val (.ref a1), .val (.ref a1), .val (.ref a2), .val (.int (1 : Int32))] [(.int (1 : Int32)), (.ref a1), (.int (1 : Int32)), (.ref a1)])
  refine own_laload X1 hx hZ e1 V_a1 (k := 1) rfl (by decide) (v := (f1 1)) rfl (hb hby d2_25) rfl ?_
  show own_Fin _ _ _ _ _ _ _ _ (mkF m 26 #[.val (.ref a1), .val (.ref a1), .val (.ref a2), .val (.int (1 : Int32))] [(.long (f1 1)), (.int (1 : Int32)), (.ref a1)])
  refine own_step (fun t k => X1.ldc2Long hx hown (mvT hZ (hw _ (List.mem_of_getElem? (i := 12) rfl))) (g := (mkF m 26 #[.val (.ref a1), .val (.ref a1), .val (.ref a2), .val (.int (1 : Int32))] [(.long (f1 1)), (.int (1 : Int32)), (.ref a1)])) rfl (hb hby d2_26) _ k) ?_
  show own_Fin _ _ _ _ _ _ _ _ (mkF m 29 #[.val (.ref a1), .val (.ref a1), .val (.ref a2), .val (.int (1 : Int32))] [(.long (9007199254740988 : Int64)), (.long (f1 1)), (.int (1 : Int32)), (.ref a1)])
  refine own_step (fun t k => XS.ladd X1.here hx rfl (hb hby d2_29) rfl k) ?_
  show own_Fin _ _ _ _ _ _ _ _ (mkF m 30 #[.val (.ref a1), .val (.ref a1), .val (.ref a2), .val (.int (1 : Int32))] [(.long ((f1 1) + (9007199254740988 : Int64))), (.int (1 : Int32)), (.ref a1)])
  refine own_step (fun t k => XS.aloadN X1.here hx rfl (hb hby d2_30) rfl rfl k) ?_
  show own_Fin _ _ _ _ _ _ _ _ (mkF m 31 #[.val (.ref a1), .val (.ref a1), .val (.ref a2), .val (.int (1 : Int32))] [(.ref a2), (.long ((f1 1) + (9007199254740988 : Int64))), (.int (1 : Int32)), (.ref a1)])
  refine own_step (fun t k => XS.iloadN X1.here hx rfl (hb hby d2_31) rfl k) ?_
  show own_Fin _ _ _ _ _ _ _ _ (mkF m 32 #[.val (.ref a1), .val (.ref a1), .val (.ref a2), .val (.int (1 : Int32))] [(.int (1 : Int32)), (.ref a2), (.long ((f1 1) + (9007199254740988 : Int64))), (.int (1 : Int32)), (.ref a1)])
  refine own_laload X1 hx hZ e1 V_a2 (k := 1) rfl (by decide) (v := (f2 1)) rfl (hb hby d2_32) rfl ?_
  show own_Fin _ _ _ _ _ _ _ _ (mkF m 33 #[.val (.ref a1), .val (.ref a1), .val (.ref a2), .val (.int (1 : Int32))] [(.long (f2 1)), (.long ((f1 1) + (9007199254740988 : Int64))), (.int (1 : Int32)), (.ref a1)])
  refine own_step (fun t k => XS.lsub X1.here hx rfl (hb hby d2_33) rfl k) ?_
  show own_Fin _ _ _ _ _ _ _ _ (mkF m 34 #[.val (.ref a1), .val (.ref a1), .val (.ref a2), .val (.int (1 : Int32))] [(.long (((f1 1) + (9007199254740988 : Int64)) - (f2 1))), (.int (1 : Int32)), (.ref a1)])
  obtain ⟨T2, h2, X2, e2, W2, B2, st2⟩ := own_lastore X1 hx hZ e1 V_a1 (j := (1 : Int32)) (k := 1) rfl (by decide) (x := (((f1 1) + (9007199254740988 : Int64)) - (f2 1))) (pc := 34) (Ls := #[.val (.ref a1), .val (.ref a1), .val (.ref a2), .val (.int (1 : Int32))]) (rest := []) (hb hby d2_34) rfl
  refine own_step st2 ?_
  replace V_a2 := V_a2.other W2 (Ne.symm hne)
  replace Zs : n0 ≤ h2.size := by rw [W2.size]; exact Zs
  replace K := K.wr W2 (Or.inl (by simp))
  replace V_a1 := B2
  replace Nf := Fr.snoc X2 Nf g_a1
  show own_Fin _ _ _ _ _ _ _ _ (mkF m 35 #[.val (.ref a1), .val (.ref a1), .val (.ref a2), .val (.int (1 : Int32))] [])
  refine own_step (fun t k => XS.iinc X2.here hx rfl (hb hby d2_35) rfl (l' := #[.val (.ref a1), .val (.ref a1), .val (.ref a2), .val (.int (2 : Int32))]) rfl k) ?_
  show own_Fin _ _ _ _ _ _ _ _ (mkF m 38 #[.val (.ref a1), .val (.ref a1), .val (.ref a2), .val (.int (2 : Int32))] [])
  refine own_step (fun t k => XS.goto X2.here hx rfl (pc0 := 38) (pc' := 16) rfl (hb hby d2_38) (by decide) (by decide) k) ?_
  show own_Fin _ _ _ _ _ _ _ _ (mkF m 16 #[.val (.ref a1), .val (.ref a1), .val (.ref a2), .val (.int (2 : Int32))] [])
  refine own_step (fun t k => XS.iloadN X2.here hx rfl (hb hby d2_16) rfl k) ?_
  show own_Fin _ _ _ _ _ _ _ _ (mkF m 17 #[.val (.ref a1), .val (.ref a1), .val (.ref a2), .val (.int (2 : Int32))] [(.int (2 : Int32))])
  refine own_step (fun t k => XS.iconst X2.here hx rfl (hb hby d2_17) k) ?_
  show own_Fin _ _ _ _ _ _ _ _ (mkF m 18 #[.val (.ref a1), .val (.ref a1), .val (.ref a2), .val (.int (2 : Int32))] [(.int (5 : Int32)), (.int (2 : Int32))])
  refine own_step (fun t k => XS.icmpNo X2.here hx rfl (hb hby d2_18) rfl (by decide) k) ?_
  show own_Fin _ _ _ _ _ _ _ _ (mkF m 21 #[.val (.ref a1), .val (.ref a1), .val (.ref a2), .val (.int (2 : Int32))] [])
  refine own_step (fun t k => XS.aloadN X2.here hx rfl (hb hby d2_21) rfl rfl k) ?_
  show own_Fin _ _ _ _ _ _ _ _ (mkF m 22 #[.val (.ref a1), .val (.ref a1), .val (.ref a2), .val (.int (2 : Int32))] [(.ref a1)])
  refine own_step (fun t k => XS.iloadN X2.here hx rfl (hb hby d2_22) rfl k) ?_
  show own_Fin _ _ _ _ _ _ _ _ (mkF m 23 #[.val (.ref a1), .val (.ref a1), .val (.ref a2), .val (.int (2 : Int32))] [(.int (2 : Int32)), (.ref a1)])
  refine own_step (fun t k => XS.aloadN X2.here hx rfl (hb hby d2_23) rfl rfl k) ?_
  show own_Fin _ _ _ _ _ _ _ _ (mkF m 24 #[.val (.ref a1), .val (.ref a1), .val (.ref a2), .val (.int (2 : Int32))] [(.ref a1), (.int (2 : Int32)), (.ref a1)])
  refine own_step (fun t k => XS.iloadN X2.here hx rfl (hb hby d2_24) rfl k) ?_
  show own_Fin _ _ _ _ _ _ _ _ (mkF m 25 #[.val (.ref a1), .val (.ref a1), .val (.ref a2), .val (.int (2 : Int32))] [(.int (2 : Int32)), (.ref a1), (.int (2 : Int32)), (.ref a1)])
  refine own_laload X2 hx hZ e2 V_a1 (k := 2) rfl (by decide) (v := (f1 2)) rfl (hb hby d2_25) rfl ?_
  show own_Fin _ _ _ _ _ _ _ _ (mkF m 26 #[.val (.ref a1), .val (.ref a1), .val (.ref a2), .val (.int (2 : Int32))] [(.long (f1 2)), (.int (2 : Int32)), (.ref a1)])
  refine own_step (fun t k => X2.ldc2Long hx hown (mvT hZ (hw _ (List.mem_of_getElem? (i := 12) rfl))) (g := (mkF m 26 #[.val (.ref a1), .val (.ref a1), .val (.ref a2), .val (.int (2 : Int32))] [(.long (f1 2)), (.int (2 : Int32)), (.ref a1)])) rfl (hb hby d2_26) _ k) ?_
  show own_Fin _ _ _ _ _ _ _ _ (mkF m 29 #[.val (.ref a1), .val (.ref a1), .val (.ref a2), .val (.int (2 : Int32))] [(.long (9007199254740988 : Int64)), (.long (f1 2)), (.int (2 : Int32)), (.ref a1)])
  refine own_step (fun t k => XS.ladd X2.here hx rfl (hb hby d2_29) rfl k) ?_
  show own_Fin _ _ _ _ _ _ _ _ (mkF m 30 #[.val (.ref a1), .val (.ref a1), .val (.ref a2), .val (.int (2 : Int32))] [(.long ((f1 2) + (9007199254740988 : Int64))), (.int (2 : Int32)), (.ref a1)])
  refine own_step (fun t k => XS.aloadN X2.here hx rfl (hb hby d2_30) rfl rfl k) ?_
  show own_Fin _ _ _ _ _ _ _ _ (mkF m 31 #[.val (.ref a1), .val (.ref a1), .val (.ref a2), .val (.int (2 : Int32))] [(.ref a2), (.long ((f1 2) + (9007199254740988 : Int64))), (.int (2 : Int32)), (.ref a1)])
  refine own_step (fun t k => XS.iloadN X2.here hx rfl (hb hby d2_31) rfl k) ?_
  show own_Fin _ _ _ _ _ _ _ _ (mkF m 32 #[.val (.ref a1), .val (.ref a1), .val (.ref a2), .val (.int (2 : Int32))] [(.int (2 : Int32)), (.ref a2), (.long ((f1 2) + (9007199254740988 : Int64))), (.int (2 : Int32)), (.ref a1)])
  refine own_laload X2 hx hZ e2 V_a2 (k := 2) rfl (by decide) (v := (f2 2)) rfl (hb hby d2_32) rfl ?_
  show own_Fin _ _ _ _ _ _ _ _ (mkF m 33 #[.val (.ref a1), .val (.ref a1), .val (.ref a2), .val (.int (2 : Int32))] [(.long (f2 2)), (.long ((f1 2) + (9007199254740988 : Int64))), (.int (2 : Int32)), (.ref a1)])
  refine own_step (fun t k => XS.lsub X2.here hx rfl (hb hby d2_33) rfl k) ?_
  show own_Fin _ _ _ _ _ _ _ _ (mkF m 34 #[.val (.ref a1), .val (.ref a1), .val (.ref a2), .val (.int (2 : Int32))] [(.long (((f1 2) + (9007199254740988 : Int64)) - (f2 2))), (.int (2 : Int32)), (.ref a1)])
  obtain ⟨T3, h3, X3, e3, W3, B3, st3⟩ := own_lastore X2 hx hZ e2 V_a1 (j := (2 : Int32)) (k := 2) rfl (by decide) (x := (((f1 2) + (9007199254740988 : Int64)) - (f2 2))) (pc := 34) (Ls := #[.val (.ref a1), .val (.ref a1), .val (.ref a2), .val (.int (2 : Int32))]) (rest := []) (hb hby d2_34) rfl
  refine own_step st3 ?_
  replace V_a2 := V_a2.other W3 (Ne.symm hne)
  replace Zs : n0 ≤ h3.size := by rw [W3.size]; exact Zs
  replace K := K.wr W3 (Or.inl (by simp))
  replace V_a1 := B3
  replace Nf := Fr.snoc X3 Nf g_a1
  show own_Fin _ _ _ _ _ _ _ _ (mkF m 35 #[.val (.ref a1), .val (.ref a1), .val (.ref a2), .val (.int (2 : Int32))] [])
  refine own_step (fun t k => XS.iinc X3.here hx rfl (hb hby d2_35) rfl (l' := #[.val (.ref a1), .val (.ref a1), .val (.ref a2), .val (.int (3 : Int32))]) rfl k) ?_
  show own_Fin _ _ _ _ _ _ _ _ (mkF m 38 #[.val (.ref a1), .val (.ref a1), .val (.ref a2), .val (.int (3 : Int32))] [])
  refine own_step (fun t k => XS.goto X3.here hx rfl (pc0 := 38) (pc' := 16) rfl (hb hby d2_38) (by decide) (by decide) k) ?_
  show own_Fin _ _ _ _ _ _ _ _ (mkF m 16 #[.val (.ref a1), .val (.ref a1), .val (.ref a2), .val (.int (3 : Int32))] [])
  refine own_step (fun t k => XS.iloadN X3.here hx rfl (hb hby d2_16) rfl k) ?_
  show own_Fin _ _ _ _ _ _ _ _ (mkF m 17 #[.val (.ref a1), .val (.ref a1), .val (.ref a2), .val (.int (3 : Int32))] [(.int (3 : Int32))])
  refine own_step (fun t k => XS.iconst X3.here hx rfl (hb hby d2_17) k) ?_
  show own_Fin _ _ _ _ _ _ _ _ (mkF m 18 #[.val (.ref a1), .val (.ref a1), .val (.ref a2), .val (.int (3 : Int32))] [(.int (5 : Int32)), (.int (3 : Int32))])
  refine own_step (fun t k => XS.icmpNo X3.here hx rfl (hb hby d2_18) rfl (by decide) k) ?_
  show own_Fin _ _ _ _ _ _ _ _ (mkF m 21 #[.val (.ref a1), .val (.ref a1), .val (.ref a2), .val (.int (3 : Int32))] [])
  refine own_step (fun t k => XS.aloadN X3.here hx rfl (hb hby d2_21) rfl rfl k) ?_
  show own_Fin _ _ _ _ _ _ _ _ (mkF m 22 #[.val (.ref a1), .val (.ref a1), .val (.ref a2), .val (.int (3 : Int32))] [(.ref a1)])
  refine own_step (fun t k => XS.iloadN X3.here hx rfl (hb hby d2_22) rfl k) ?_
  show own_Fin _ _ _ _ _ _ _ _ (mkF m 23 #[.val (.ref a1), .val (.ref a1), .val (.ref a2), .val (.int (3 : Int32))] [(.int (3 : Int32)), (.ref a1)])
  refine own_step (fun t k => XS.aloadN X3.here hx rfl (hb hby d2_23) rfl rfl k) ?_
  show own_Fin _ _ _ _ _ _ _ _ (mkF m 24 #[.val (.ref a1), .val (.ref a1), .val (.ref a2), .val (.int (3 : Int32))] [(.ref a1), (.int (3 : Int32)), (.ref a1)])
  refine own_step (fun t k => XS.iloadN X3.here hx rfl (hb hby d2_24) rfl k) ?_
  show own_Fin _ _ _ _ _ _ _ _ (mkF m 25 #[.val (.ref a1), .val (.ref a1), .val (.ref a2), .val (.int (3 : Int32))] [(.int (3 : Int32)), (.ref a1), (.int (3 : Int32)), (.ref a1)])
  refine own_laload X3 hx hZ e3 V_a1 (k := 3) rfl (by decide) (v := (f1 3)) rfl (hb hby d2_25) rfl ?_
  show own_Fin _ _ _ _ _ _ _ _ (mkF m 26 #[.val (.ref a1), .val (.ref a1), .val (.ref a2), .val (.int (3 : Int32))] [(.long (f1 3)), (.int (3 : Int32)), (.ref a1)])
  refine own_step (fun t k => X3.ldc2Long hx hown (mvT hZ (hw _ (List.mem_of_getElem? (i := 12) rfl))) (g := (mkF m 26 #[.val (.ref a1), .val (.ref a1), .val (.ref a2), .val (.int (3 : Int32))] [(.long (f1 3)), (.int (3 : Int32)), (.ref a1)])) rfl (hb hby d2_26) _ k) ?_
  show own_Fin _ _ _ _ _ _ _ _ (mkF m 29 #[.val (.ref a1), .val (.ref a1), .val (.ref a2), .val (.int (3 : Int32))] [(.long (9007199254740988 : Int64)), (.long (f1 3)), (.int (3 : Int32)), (.ref a1)])
  refine own_step (fun t k => XS.ladd X3.here hx rfl (hb hby d2_29) rfl k) ?_
  show own_Fin _ _ _ _ _ _ _ _ (mkF m 30 #[.val (.ref a1), .val (.ref a1), .val (.ref a2), .val (.int (3 : Int32))] [(.long ((f1 3) + (9007199254740988 : Int64))), (.int (3 : Int32)), (.ref a1)])
  refine own_step (fun t k => XS.aloadN X3.here hx rfl (hb hby d2_30) rfl rfl k) ?_
  show own_Fin _ _ _ _ _ _ _ _ (mkF m 31 #[.val (.ref a1), .val (.ref a1), .val (.ref a2), .val (.int (3 : Int32))] [(.ref a2), (.long ((f1 3) + (9007199254740988 : Int64))), (.int (3 : Int32)), (.ref a1)])
  refine own_step (fun t k => XS.iloadN X3.here hx rfl (hb hby d2_31) rfl k) ?_
  show own_Fin _ _ _ _ _ _ _ _ (mkF m 32 #[.val (.ref a1), .val (.ref a1), .val (.ref a2), .val (.int (3 : Int32))] [(.int (3 : Int32)), (.ref a2), (.long ((f1 3) + (9007199254740988 : Int64))), (.int (3 : Int32)), (.ref a1)])
  refine own_laload X3 hx hZ e3 V_a2 (k := 3) rfl (by decide) (v := (f2 3)) rfl (hb hby d2_32) rfl ?_
  show own_Fin _ _ _ _ _ _ _ _ (mkF m 33 #[.val (.ref a1), .val (.ref a1), .val (.ref a2), .val (.int (3 : Int32))] [(.long (f2 3)), (.long ((f1 3) + (9007199254740988 : Int64))), (.int (3 : Int32)), (.ref a1)])
  refine own_step (fun t k => XS.lsub X3.here hx rfl (hb hby d2_33) rfl k) ?_
  show own_Fin _ _ _ _ _ _ _ _ (mkF m 34 #[.val (.ref a1), .val (.ref a1), .val (.ref a2), .val (.int (3 : Int32))] [(.long (((f1 3) + (9007199254740988 : Int64)) - (f2 3))), (.int (3 : Int32)), (.ref a1)])
  obtain ⟨T4, h4, X4, e4, W4, B4, st4⟩ := own_lastore X3 hx hZ e3 V_a1 (j := (3 : Int32)) (k := 3) rfl (by decide) (x := (((f1 3) + (9007199254740988 : Int64)) - (f2 3))) (pc := 34) (Ls := #[.val (.ref a1), .val (.ref a1), .val (.ref a2), .val (.int (3 : Int32))]) (rest := []) (hb hby d2_34) rfl
  refine own_step st4 ?_
  replace V_a2 := V_a2.other W4 (Ne.symm hne)
  replace Zs : n0 ≤ h4.size := by rw [W4.size]; exact Zs
  replace K := K.wr W4 (Or.inl (by simp))
  replace V_a1 := B4
  replace Nf := Fr.snoc X4 Nf g_a1
  show own_Fin _ _ _ _ _ _ _ _ (mkF m 35 #[.val (.ref a1), .val (.ref a1), .val (.ref a2), .val (.int (3 : Int32))] [])
  refine own_step (fun t k => XS.iinc X4.here hx rfl (hb hby d2_35) rfl (l' := #[.val (.ref a1), .val (.ref a1), .val (.ref a2), .val (.int (4 : Int32))]) rfl k) ?_
  show own_Fin _ _ _ _ _ _ _ _ (mkF m 38 #[.val (.ref a1), .val (.ref a1), .val (.ref a2), .val (.int (4 : Int32))] [])
  refine own_step (fun t k => XS.goto X4.here hx rfl (pc0 := 38) (pc' := 16) rfl (hb hby d2_38) (by decide) (by decide) k) ?_
  show own_Fin _ _ _ _ _ _ _ _ (mkF m 16 #[.val (.ref a1), .val (.ref a1), .val (.ref a2), .val (.int (4 : Int32))] [])
  refine own_step (fun t k => XS.iloadN X4.here hx rfl (hb hby d2_16) rfl k) ?_
  show own_Fin _ _ _ _ _ _ _ _ (mkF m 17 #[.val (.ref a1), .val (.ref a1), .val (.ref a2), .val (.int (4 : Int32))] [(.int (4 : Int32))])
  refine own_step (fun t k => XS.iconst X4.here hx rfl (hb hby d2_17) k) ?_
  show own_Fin _ _ _ _ _ _ _ _ (mkF m 18 #[.val (.ref a1), .val (.ref a1), .val (.ref a2), .val (.int (4 : Int32))] [(.int (5 : Int32)), (.int (4 : Int32))])
  refine own_step (fun t k => XS.icmpNo X4.here hx rfl (hb hby d2_18) rfl (by decide) k) ?_
  show own_Fin _ _ _ _ _ _ _ _ (mkF m 21 #[.val (.ref a1), .val (.ref a1), .val (.ref a2), .val (.int (4 : Int32))] [])
  refine own_step (fun t k => XS.aloadN X4.here hx rfl (hb hby d2_21) rfl rfl k) ?_
  show own_Fin _ _ _ _ _ _ _ _ (mkF m 22 #[.val (.ref a1), .val (.ref a1), .val (.ref a2), .val (.int (4 : Int32))] [(.ref a1)])
  refine own_step (fun t k => XS.iloadN X4.here hx rfl (hb hby d2_22) rfl k) ?_
  show own_Fin _ _ _ _ _ _ _ _ (mkF m 23 #[.val (.ref a1), .val (.ref a1), .val (.ref a2), .val (.int (4 : Int32))] [(.int (4 : Int32)), (.ref a1)])
  refine own_step (fun t k => XS.aloadN X4.here hx rfl (hb hby d2_23) rfl rfl k) ?_
  show own_Fin _ _ _ _ _ _ _ _ (mkF m 24 #[.val (.ref a1), .val (.ref a1), .val (.ref a2), .val (.int (4 : Int32))] [(.ref a1), (.int (4 : Int32)), (.ref a1)])
  refine own_step (fun t k => XS.iloadN X4.here hx rfl (hb hby d2_24) rfl k) ?_
  show own_Fin _ _ _ _ _ _ _ _ (mkF m 25 #[.val (.ref a1), .val (.ref a1), .val (.ref a2), .val (.int (4 : Int32))] [(.int (4 : Int32)), (.ref a1), (.int (4 : Int32)), (.ref a1)])
  refine own_laload X4 hx hZ e4 V_a1 (k := 4) rfl (by decide) (v := (f1 4)) rfl (hb hby d2_25) rfl ?_
  show own_Fin _ _ _ _ _ _ _ _ (mkF m 26 #[.val (.ref a1), .val (.ref a1), .val (.ref a2), .val (.int (4 : Int32))] [(.long (f1 4)), (.int (4 : Int32)), (.ref a1)])
  refine own_step (fun t k => X4.ldc2Long hx hown (mvT hZ (hw _ (List.mem_of_getElem? (i := 12) rfl))) (g := (mkF m 26 #[.val (.ref a1), .val (.ref a1), .val (.ref a2), .val (.int (4 : Int32))] [(.long (f1 4)), (.int (4 : Int32)), (.ref a1)])) rfl (hb hby d2_26) _ k) ?_
  show own_Fin _ _ _ _ _ _ _ _ (mkF m 29 #[.val (.ref a1), .val (.ref a1), .val (.ref a2), .val (.int (4 : Int32))] [(.long (9007199254740988 : Int64)), (.long (f1 4)), (.int (4 : Int32)), (.ref a1)])
  refine own_step (fun t k => XS.ladd X4.here hx rfl (hb hby d2_29) rfl k) ?_
  show own_Fin _ _ _ _ _ _ _ _ (mkF m 30 #[.val (.ref a1), .val (.ref a1), .val (.ref a2), .val (.int (4 : Int32))] [(.long ((f1 4) + (9007199254740988 : Int64))), (.int (4 : Int32)), (.ref a1)])
  refine own_step (fun t k => XS.aloadN X4.here hx rfl (hb hby d2_30) rfl rfl k) ?_
  show own_Fin _ _ _ _ _ _ _ _ (mkF m 31 #[.val (.ref a1), .val (.ref a1), .val (.ref a2), .val (.int (4 : Int32))] [(.ref a2), (.long ((f1 4) + (9007199254740988 : Int64))), (.int (4 : Int32)), (.ref a1)])
  refine own_step (fun t k => XS.iloadN X4.here hx rfl (hb hby d2_31) rfl k) ?_
  show own_Fin _ _ _ _ _ _ _ _ (mkF m 32 #[.val (.ref a1), .val (.ref a1), .val (.ref a2), .val (.int (4 : Int32))] [(.int (4 : Int32)), (.ref a2), (.long ((f1 4) + (9007199254740988 : Int64))), (.int (4 : Int32)), (.ref a1)])
  refine own_laload X4 hx hZ e4 V_a2 (k := 4) rfl (by decide) (v := (f2 4)) rfl (hb hby d2_32) rfl ?_
  show own_Fin _ _ _ _ _ _ _ _ (mkF m 33 #[.val (.ref a1), .val (.ref a1), .val (.ref a2), .val (.int (4 : Int32))] [(.long (f2 4)), (.long ((f1 4) + (9007199254740988 : Int64))), (.int (4 : Int32)), (.ref a1)])
  refine own_step (fun t k => XS.lsub X4.here hx rfl (hb hby d2_33) rfl k) ?_
  show own_Fin _ _ _ _ _ _ _ _ (mkF m 34 #[.val (.ref a1), .val (.ref a1), .val (.ref a2), .val (.int (4 : Int32))] [(.long (((f1 4) + (9007199254740988 : Int64)) - (f2 4))), (.int (4 : Int32)), (.ref a1)])
  obtain ⟨T5, h5, X5, e5, W5, B5, st5⟩ := own_lastore X4 hx hZ e4 V_a1 (j := (4 : Int32)) (k := 4) rfl (by decide) (x := (((f1 4) + (9007199254740988 : Int64)) - (f2 4))) (pc := 34) (Ls := #[.val (.ref a1), .val (.ref a1), .val (.ref a2), .val (.int (4 : Int32))]) (rest := []) (hb hby d2_34) rfl
  refine own_step st5 ?_
  replace V_a2 := V_a2.other W5 (Ne.symm hne)
  replace Zs : n0 ≤ h5.size := by rw [W5.size]; exact Zs
  replace K := K.wr W5 (Or.inl (by simp))
  replace V_a1 := B5
  replace Nf := Fr.snoc X5 Nf g_a1
  show own_Fin _ _ _ _ _ _ _ _ (mkF m 35 #[.val (.ref a1), .val (.ref a1), .val (.ref a2), .val (.int (4 : Int32))] [])
  refine own_step (fun t k => XS.iinc X5.here hx rfl (hb hby d2_35) rfl (l' := #[.val (.ref a1), .val (.ref a1), .val (.ref a2), .val (.int (5 : Int32))]) rfl k) ?_
  show own_Fin _ _ _ _ _ _ _ _ (mkF m 38 #[.val (.ref a1), .val (.ref a1), .val (.ref a2), .val (.int (5 : Int32))] [])
  refine own_step (fun t k => XS.goto X5.here hx rfl (pc0 := 38) (pc' := 16) rfl (hb hby d2_38) (by decide) (by decide) k) ?_
  show own_Fin _ _ _ _ _ _ _ _ (mkF m 16 #[.val (.ref a1), .val (.ref a1), .val (.ref a2), .val (.int (5 : Int32))] [])
  refine own_step (fun t k => XS.iloadN X5.here hx rfl (hb hby d2_16) rfl k) ?_
  show own_Fin _ _ _ _ _ _ _ _ (mkF m 17 #[.val (.ref a1), .val (.ref a1), .val (.ref a2), .val (.int (5 : Int32))] [(.int (5 : Int32))])
  refine own_step (fun t k => XS.iconst X5.here hx rfl (hb hby d2_17) k) ?_
  show own_Fin _ _ _ _ _ _ _ _ (mkF m 18 #[.val (.ref a1), .val (.ref a1), .val (.ref a2), .val (.int (5 : Int32))] [(.int (5 : Int32)), (.int (5 : Int32))])
  refine own_step (fun t k => XS.icmpYes X5.here hx rfl (pc0 := 18) (pc' := 41) rfl (hb hby d2_18) rfl (by decide) (by decide) (by decide) k) ?_
  show own_Fin _ _ _ _ _ _ _ _ (mkF m 41 #[.val (.ref a1), .val (.ref a1), .val (.ref a2), .val (.int (5 : Int32))] [])
  refine own_retV X5 hx hlk Bd.returns (hb hby d2_41) (by decide) (by decide) e5 ?_
  exact ⟨rfl, Nf, K, V_a1.congr (by intro i hi; rcases own_five hi with rfl | rfl | rfl | rfl | rfl; exact (own_sb0 f1 f2).symm; exact (own_sbn f1 f2 1 (by decide)).symm; exact (own_sbn f1 f2 2 (by decide)).symm; exact (own_sbn f1 f2 3 (by decide)).symm; exact (own_sbn f1 f2 4 (by decide)).symm)⟩
theorem d3_0 : decode prog_33_method_6_code 0 = .ok (.aload_n 0, 1) := by decide +kernel
theorem d3_1 : decode prog_33_method_6_code 1 = .ok (.iconst 0, 1) := by decide +kernel
theorem d3_2 : decode prog_33_method_6_code 2 = .ok (.aload_n 1, 1) := by decide +kernel
theorem d3_3 : decode prog_33_method_6_code 3 = .ok (.iconst 0, 1) := by decide +kernel
theorem d3_4 : decode prog_33_method_6_code 4 = .ok (.laload, 1) := by decide +kernel
theorem d3_5 : decode prog_33_method_6_code 5 = .ok (.ldc2_w 15, 3) := by decide +kernel
theorem d3_8 : decode prog_33_method_6_code 8 = .ok (.ladd, 1) := by decide +kernel
theorem d3_9 : decode prog_33_method_6_code 9 = .ok (.aload_n 2, 1) := by decide +kernel
theorem d3_10 : decode prog_33_method_6_code 10 = .ok (.iconst 0, 1) := by decide +kernel
theorem d3_11 : decode prog_33_method_6_code 11 = .ok (.laload, 1) := by decide +kernel
theorem d3_12 : decode prog_33_method_6_code 12 = .ok (.lsub, 1) := by decide +kernel
theorem d3_13 : decode prog_33_method_6_code 13 = .ok (.lastore, 1) := by decide +kernel
theorem d3_14 : decode prog_33_method_6_code 14 = .ok (.iconst 1, 1) := by decide +kernel
theorem d3_15 : decode prog_33_method_6_code 15 = .ok (.istore_n 3, 1) := by decide +kernel
theorem d3_16 : decode prog_33_method_6_code 16 = .ok (.iload_n 3, 1) := by decide +kernel
theorem d3_17 : decode prog_33_method_6_code 17 = .ok (.iconst 5, 1) := by decide +kernel
theorem d3_18 : decode prog_33_method_6_code 18 = .ok (.if_icmp .ge 23, 3) := by decide +kernel
theorem d3_21 : decode prog_33_method_6_code 21 = .ok (.aload_n 0, 1) := by decide +kernel
theorem d3_22 : decode prog_33_method_6_code 22 = .ok (.iload_n 3, 1) := by decide +kernel
theorem d3_23 : decode prog_33_method_6_code 23 = .ok (.aload_n 1, 1) := by decide +kernel
theorem d3_24 : decode prog_33_method_6_code 24 = .ok (.iload_n 3, 1) := by decide +kernel
theorem d3_25 : decode prog_33_method_6_code 25 = .ok (.laload, 1) := by decide +kernel
theorem d3_26 : decode prog_33_method_6_code 26 = .ok (.ldc2_w 17, 3) := by decide +kernel
theorem d3_29 : decode prog_33_method_6_code 29 = .ok (.ladd, 1) := by decide +kernel
theorem d3_30 : decode prog_33_method_6_code 30 = .ok (.aload_n 2, 1) := by decide +kernel
theorem d3_31 : decode prog_33_method_6_code 31 = .ok (.iload_n 3, 1) := by decide +kernel
theorem d3_32 : decode prog_33_method_6_code 32 = .ok (.laload, 1) := by decide +kernel
theorem d3_33 : decode prog_33_method_6_code 33 = .ok (.lsub, 1) := by decide +kernel
theorem d3_34 : decode prog_33_method_6_code 34 = .ok (.lastore, 1) := by decide +kernel
theorem d3_35 : decode prog_33_method_6_code 35 = .ok (.iinc 3 1, 3) := by decide +kernel
theorem d3_38 : decode prog_33_method_6_code 38 = .ok (.goto (-22), 3) := by decide +kernel
theorem d3_41 : decode prog_33_method_6_code 41 = .ok (.return_, 1) := by decide +kernel
theorem own_pn_3 : plainName "com/example/quietwire/quietwire/Field25519" = true := by first | (simp [plainName, overriddenIn]; done) | decide +kernel
theorem own_ef_3 (m : MethodId) (a1 : Addr) : entryFrame m #[(.ref a1), (.ref a1), (.ref a1)] 4 = mkF m 0 #[.val (.ref a1), .val (.ref a1), .val (.ref a1), .unset] [] := by first | (simp [entryFrame, mkF, argsToLocals, Value.category]; done) | rfl
abbrev own_R3 : Room := { frames := 0, cells := 0, slots := 0, locals := 0 }
def own_Q3 (Z : State) (a1 : Addr) (f1 : Nat → Int64) (h0 : Heap) (n0 : Nat) (v : Option Value) (h : Heap) (L : List Loc) : Prop := v = none ∧ Fr n0 L ∧ Keep h0 h [a1] ∧ own_AJ Z h a1 5 (own_sb f1 f1)
set_option maxRecDepth 65536 in
set_option maxHeartbeats 40000000 in
theorem rm3 (l : Launch) (Z : State) (a0 : Array Value) (hw : ∀ d ∈ tables_1, d.before a0 Z = true) (ws : List Jvm.Cond) (a1 : Addr) (f1 : Nat → Int64) (h0 : Heap) (n0 : Nat) (Z0 : n0 ≤ h0.size) (V_a1 : own_AJ Z h0 a1 5 f1) (g_a1 : n0 ≤ a1) :
    MetFree l (⟨"com/example/quietwire/quietwire/Field25519", "subtract", "([J[J[J)V"⟩ : MethodName) (head1 (Jvm.Cond.code (⟨"com/example/quietwire/quietwire/Field25519", "subtract", "([J[J[J)V"⟩ : MethodName) prog_33_method_6_code 4 none :: ws) own_R3) (fun a U => a = #[(.ref a1), (.ref a1), (.ref a1)] ∧ Z.Warmed39 U.vm ∧ U.heap = h0) (fun _ _ _ _ _ => True) (fun _ U o U' => ∃ v L, o = .returned v ∧ own_Q3 Z a1 f1 h0 n0 v U'.heap L ∧ FrameEnd U o U' L own_R3.cells own_R3.slots) := by
  refine MetFree.of_bodySF (plainFor_of_name own_pn_3) hisR ?_
  intro p e s m args below meth c s₁ Bd hml0 hP hK
  obtain ⟨rfl, hZ, hh⟩ := hP
  have hx := Bd.exec
  have hby := Bd.bytes
  have hlk := BodyLoose.notSynchronized Bd
  have hml : c.maxLocals = 4 := hml0
  have hown : s.vm.findClass "com/example/quietwire/quietwire/Field25519" = some m.cls := (findClass_of_methodNamed Bd.named : s.vm.findClass (⟨"com/example/quietwire/quietwire/Field25519", "subtract", "([J[J[J)V"⟩ : MethodName).cls = some m.cls)
  have hnm := (name_of_methodNamed Bd.named Bd.method).1
  have X0 : Stand p l e own_R3 s m #[(.ref a1), (.ref a1), (.ref a1)] below meth c s₁ [] 0 0 := Stand.of_body Bd
  have e0 : s₁.heap = h0 := by rw [← hh, Bd.state]; rfl
  have Nf := Fr.nil n0
  have Zs := Z0
  have K : Keep h0 h0 [a1] := Keep.refl _ _
  show own_Fin p e below s (own_Q3 Z a1 f1 h0 n0) 0 0 s₁ (entryFrame m #[(.ref a1), (.ref a1), (.ref a1)] 4)
  rw [own_ef_3 m a1]
  show own_Fin _ _ _ _ _ _ _ _ (mkF m 0 #[.val (.ref a1), .val (.ref a1), .val (.ref a1), .unset] [])
  refine own_step (fun t k => XS.aloadN X0.here hx rfl (hb hby d3_0) rfl rfl k) ?_
  show own_Fin _ _ _ _ _ _ _ _ (mkF m 1 #[.val (.ref a1), .val (.ref a1), .val (.ref a1), .unset] [(.ref a1)])
  refine own_step (fun t k => XS.iconst X0.here hx rfl (hb hby d3_1) k) ?_
  show own_Fin _ _ _ _ _ _ _ _ (mkF m 2 #[.val (.ref a1), .val (.ref a1), .val (.ref a1), .unset] [(.int (0 : Int32)), (.ref a1)])
  refine own_step (fun t k => XS.aloadN X0.here hx rfl (hb hby d3_2) rfl rfl k) ?_
  show own_Fin _ _ _ _ _ _ _ _ (mkF m 3 #[.val (.ref a1), .val (.ref a1), .val (.ref a1), .unset] [(.ref a1), (.int (0 : Int32)), (.ref a1)])
  refine own_step (fun t k => XS.iconst X0.here hx rfl (hb hby d3_3) k) ?_
  show own_Fin _ _ _ _ _ _ _ _ (mkF m 4 #[.val (.ref a1), .val (.ref a1), .val (.ref a1), .unset] [(.int (0 : Int32)), (.ref a1), (.int (0 : Int32)), (.ref a1)])
  refine own_laload X0 hx hZ e0 V_a1 (k := 0) rfl (by decide) (v := (f1 0)) rfl (hb hby d3_4) rfl ?_
  show own_Fin _ _ _ _ _ _ _ _ (mkF m 5 #[.val (.ref a1), .val (.ref a1), .val (.ref a1), .unset] [(.long (f1 0)), (.int (0 : Int32)), (.ref a1)])
  refine own_step (fun t k => X0.ldc2Long hx hown (mvT hZ (hw _ (List.mem_of_getElem? (i := 11) rfl))) (g := (mkF m 5 #[.val (.ref a1), .val (.ref a1), .val (.ref a1), .unset] [(.long (f1 0)), (.int (0 : Int32)), (.ref a1)])) rfl (hb hby d3_5) _ k) ?_
  show own_Fin _ _ _ _ _ _ _ _ (mkF m 8 #[.val (.ref a1), .val (.ref a1), .val (.ref a1), .unset] [(.long (9007199254740916 : Int64)), (.long (f1 0)), (.int (0 : Int32)), (.ref a1)])
  refine own_step (fun t k => XS.ladd X0.here hx rfl (hb hby d3_8) rfl k) ?_
  show own_Fin _ _ _ _ _ _ _ _ (mkF m 9 #[.val (.ref a1), .val (.ref a1), .val (.ref a1), .unset] [(.long ((f1 0) + (9007199254740916 : Int64))), (.int (0 : Int32)), (.ref a1)])
  refine own_step (fun t k => XS.aloadN X0.here hx rfl (hb hby d3_9) rfl rfl k) ?_
  show own_Fin _ _ _ _ _ _ _ _ (mkF m 10 #[.val (.ref a1), .val (.ref a1), .val (.ref a1), .unset] [(.ref a1), (.long ((f1 0) + (9007199254740916 : Int64))), (.int (0 : Int32)), (.ref a1)])
  refine own_step (fun t k => XS.iconst X0.here hx rfl (hb hby d3_10) k) ?_
  show own_Fin _ _ _ _ _ _ _ _ (mkF m 11 #[.val (.ref a1), .val (.ref a1), .val (.ref a1), .unset] [(.int (0 : Int32)), (.ref a1), (.long ((f1 0) + (9007199254740916 : Int64))), (.int (0 : Int32)), (.ref a1)])
  refine own_laload X0 hx hZ e0 V_a1 (k := 0) rfl (by decide) (v := (f1 0)) rfl (hb hby d3_11) rfl ?_
  show own_Fin _ _ _ _ _ _ _ _ (mkF m 12 #[.val (.ref a1), .val (.ref a1), .val (.ref a1), .unset] [(.long (f1 0)), (.long ((f1 0) + (9007199254740916 : Int64))), (.int (0 : Int32)), (.ref a1)])
  refine own_step (fun t k => XS.lsub X0.here hx rfl (hb hby d3_12) rfl k) ?_
  show own_Fin _ _ _ _ _ _ _ _ (mkF m 13 #[.val (.ref a1), .val (.ref a1), .val (.ref a1), .unset] [(.long (((f1 0) + (9007199254740916 : Int64)) - (f1 0))), (.int (0 : Int32)), (.ref a1)])
  obtain ⟨T1, h1, X1, e1, W1, B1, st1⟩ := own_lastore X0 hx hZ e0 V_a1 (j := (0 : Int32)) (k := 0) rfl (by decide) (x := (((f1 0) + (9007199254740916 : Int64)) - (f1 0))) (pc := 13) (Ls := #[.val (.ref a1), .val (.ref a1), .val (.ref a1), .unset]) (rest := []) (hb hby d3_13) rfl
  refine own_step st1 ?_
  replace Zs : n0 ≤ h1.size := by rw [W1.size]; exact Zs
  replace K := K.wr W1 (Or.inl (by simp))
  replace V_a1 := B1
  replace Nf := Fr.snoc X1 Nf g_a1
  show own_Fin _ _ _ _ _ _ _ _ (mkF m 14 #[.val (.ref a1), .val (.ref a1), .val (.ref a1), .unset] [])
  refine own_step (fun t k => XS.iconst X1.here hx rfl (hb hby d3_14) k) ?_
  show own_Fin _ _ _ _ _ _ _ _ (mkF m 15 #[.val (.ref a1), .val (.ref a1), .val (.ref a1), .unset] [(.int (1 : Int32))])
  refine own_step (fun t k => XS.istoreN X1.here hx rfl (hb hby d3_15) rfl (l' := #[.val (.ref a1), .val (.ref a1), .val (.ref a1), .val (.int (1 : Int32))]) rfl k) ?_
  show own_Fin _ _ _ _ _ _ _ _ (mkF m 16 #[.val (.ref a1), .val (.ref a1), .val (.ref a1), .val (.int (1 : Int32))] [])
  refine own_step (fun t k => XS.iloadN X1.here hx rfl (hb hby d3_16) rfl k) ?_
  show own_Fin _ _ _ _ _ _ _ _ (mkF m 17 #[.val (.ref a1), .val (.ref a1), .val (.ref a1), .val (.int (1 : Int32))] [(.int (1 : Int32))])
  refine own_step (fun t k => XS.iconst X1.here hx rfl (hb hby d3_17) k) ?_
  show own_Fin _ _ _ _ _ _ _ _ (mkF m 18 #[.val (.ref a1), .val (.ref a1), .val (.ref a1), .val (.int (1 : Int32))] [(.int (5 : Int32)), (.int (1 : Int32))])
  refine own_step (fun t k => XS.icmpNo X1.here hx rfl (hb hby d3_18) rfl (by decide) k) ?_
  show own_Fin _ _ _ _ _ _ _ _ (mkF m 21 #[.val (.ref a1), .val (.ref a1), .val (.ref a1), .val (.int (1 : Int32))] [])
  refine own_step (fun t k => XS.aloadN X1.here hx rfl (hb hby d3_21) rfl rfl k) ?_
  show own_Fin _ _ _ _ _ _ _ _ (mkF m 22 #[.val (.ref a1), .val (.ref a1), .val (.ref a1), .val (.int (1 : Int32))] [(.ref a1)])
  refine own_step (fun t k => XS.iloadN X1.here hx rfl (hb hby d3_22) rfl k) ?_
  show own_Fin _ _ _ _ _ _ _ _ (mkF m 23 #[.val (.ref a1), .val (.ref a1), .val (.ref a1), .val (.int (1 : Int32))] [(.int (1 : Int32)), (.ref a1)])
  refine own_step (fun t k => XS.aloadN X1.here hx rfl (hb hby d3_23) rfl rfl k) ?_
  show own_Fin _ _ _ _ _ _ _ _ (mkF m 24 #[.val (.ref a1), .val (.ref a1), .val (.ref a1), .val (.int (1 : Int32))] [(.ref a1), (.int (1 : Int32)), (.ref a1)])
  refine own_step (fun t k => XS.iloadN X1.here hx rfl (hb hby d3_24) rfl k) ?_
  show own_Fin _ _ _ _ _ _ _ _ (mkF m 25 #[.val (.ref a1), .val (.ref a1), .val (.ref a1), .val (.int (1 : Int32))] [(.int (1 : Int32)), (.ref a1), (.int (1 : Int32)), (.ref a1)])
  refine own_laload X1 hx hZ e1 V_a1 (k := 1) rfl (by decide) (v := (f1 1)) rfl (hb hby d3_25) rfl ?_
  show own_Fin _ _ _ _ _ _ _ _ (mkF m 26 #[.val (.ref a1), .val (.ref a1), .val (.ref a1), .val (.int (1 : Int32))] [(.long (f1 1)), (.int (1 : Int32)), (.ref a1)])
  refine own_step (fun t k => X1.ldc2Long hx hown (mvT hZ (hw _ (List.mem_of_getElem? (i := 12) rfl))) (g := (mkF m 26 #[.val (.ref a1), .val (.ref a1), .val (.ref a1), .val (.int (1 : Int32))] [(.long (f1 1)), (.int (1 : Int32)), (.ref a1)])) rfl (hb hby d3_26) _ k) ?_
  show own_Fin _ _ _ _ _ _ _ _ (mkF m 29 #[.val (.ref a1), .val (.ref a1), .val (.ref a1), .val (.int (1 : Int32))] [(.long (9007199254740988 : Int64)), (.long (f1 1)), (.int (1 : Int32)), (.ref a1)])
  refine own_step (fun t k => XS.ladd X1.here hx rfl (hb hby d3_29) rfl k) ?_
  show own_Fin _ _ _ _ _ _ _ _ (mkF m 30 #[.val (.ref a1), .val (.ref a1), .val (.ref a1), .val (.int (1 : Int32))] [(.long ((f1 1) + (9007199254740988 : Int64))), (.int (1 : Int32)), (.ref a1)])
  refine own_step (fun t k => XS.aloadN X1.here hx rfl (hb hby d3_30) rfl rfl k) ?_
  show own_Fin _ _ _ _ _ _ _ _ (mkF m 31 #[.val (.ref a1), .val (.ref a1), .val (.ref a1), .val (.int (1 : Int32))] [(.ref a1), (.long ((f1 1) + (9007199254740988 : Int64))), (.int (1 : Int32)), (.ref a1)])
  refine own_step (fun t k => XS.iloadN X1.here hx rfl (hb hby d3_31) rfl k) ?_
  show own_Fin _ _ _ _ _ _ _ _ (mkF m 32 #[.val (.ref a1), .val (.ref a1), .val (.ref a1), .val (.int (1 : Int32))] [(.int (1 : Int32)), (.ref a1), (.long ((f1 1) + (9007199254740988 : Int64))), (.int (1 : Int32)), (.ref a1)])
  refine own_laload X1 hx hZ e1 V_a1 (k := 1) rfl (by decide) (v := (f1 1)) rfl (hb hby d3_32) rfl ?_
  show own_Fin _ _ _ _ _ _ _ _ (mkF m 33 #[.val (.ref a1), .val (.ref a1), .val (.ref a1), .val (.int (1 : Int32))] [(.long (f1 1)), (.long ((f1 1) + (9007199254740988 : Int64))), (.int (1 : Int32)), (.ref a1)])
  refine own_step (fun t k => XS.lsub X1.here hx rfl (hb hby d3_33) rfl k) ?_
  show own_Fin _ _ _ _ _ _ _ _ (mkF m 34 #[.val (.ref a1), .val (.ref a1), .val (.ref a1), .val (.int (1 : Int32))] [(.long (((f1 1) + (9007199254740988 : Int64)) - (f1 1))), (.int (1 : Int32)), (.ref a1)])
  obtain ⟨T2, h2, X2, e2, W2, B2, st2⟩ := own_lastore X1 hx hZ e1 V_a1 (j := (1 : Int32)) (k := 1) rfl (by decide) (x := (((f1 1) + (9007199254740988 : Int64)) - (f1 1))) (pc := 34) (Ls := #[.val (.ref a1), .val (.ref a1), .val (.ref a1), .val (.int (1 : Int32))]) (rest := []) (hb hby d3_34) rfl
  refine own_step st2 ?_
  replace Zs : n0 ≤ h2.size := by rw [W2.size]; exact Zs
  replace K := K.wr W2 (Or.inl (by simp))
  replace V_a1 := B2
  replace Nf := Fr.snoc X2 Nf g_a1
  show own_Fin _ _ _ _ _ _ _ _ (mkF m 35 #[.val (.ref a1), .val (.ref a1), .val (.ref a1), .val (.int (1 : Int32))] [])
  refine own_step (fun t k => XS.iinc X2.here hx rfl (hb hby d3_35) rfl (l' := #[.val (.ref a1), .val (.ref a1), .val (.ref a1), .val (.int (2 : Int32))]) rfl k) ?_
  show own_Fin _ _ _ _ _ _ _ _ (mkF m 38 #[.val (.ref a1), .val (.ref a1), .val (.ref a1), .val (.int (2 : Int32))] [])
  refine own_step (fun t k => XS.goto X2.here hx rfl (pc0 := 38) (pc' := 16) rfl (hb hby d3_38) (by decide) (by decide) k) ?_
  show own_Fin _ _ _ _ _ _ _ _ (mkF m 16 #[.val (.ref a1), .val (.ref a1), .val (.ref a1), .val (.int (2 : Int32))] [])
  refine own_step (fun t k => XS.iloadN X2.here hx rfl (hb hby d3_16) rfl k) ?_
  show own_Fin _ _ _ _ _ _ _ _ (mkF m 17 #[.val (.ref a1), .val (.ref a1), .val (.ref a1), .val (.int (2 : Int32))] [(.int (2 : Int32))])
  refine own_step (fun t k => XS.iconst X2.here hx rfl (hb hby d3_17) k) ?_
  show own_Fin _ _ _ _ _ _ _ _ (mkF m 18 #[.val (.ref a1), .val (.ref a1), .val (.ref a1), .val (.int (2 : Int32))] [(.int (5 : Int32)), (.int (2 : Int32))])
  refine own_step (fun t k => XS.icmpNo X2.here hx rfl (hb hby d3_18) rfl (by decide) k) ?_
  show own_Fin _ _ _ _ _ _ _ _ (mkF m 21 #[.val (.ref a1), .val (.ref a1), .val (.ref a1), .val (.int (2 : Int32))] [])
  refine own_step (fun t k => XS.aloadN X2.here hx rfl (hb hby d3_21) rfl rfl k) ?_
  show own_Fin _ _ _ _ _ _ _ _ (mkF m 22 #[.val (.ref a1), .val (.ref a1), .val (.ref a1), .val (.int (2 : Int32))] [(.ref a1)])
  refine own_step (fun t k => XS.iloadN X2.here hx rfl (hb hby d3_22) rfl k) ?_
  show own_Fin _ _ _ _ _ _ _ _ (mkF m 23 #[.val (.ref a1), .val (.ref a1), .val (.ref a1), .val (.int (2 : Int32))] [(.int (2 : Int32)), (.ref a1)])
  refine own_step (fun t k => XS.aloadN X2.here hx rfl (hb hby d3_23) rfl rfl k) ?_
  show own_Fin _ _ _ _ _ _ _ _ (mkF m 24 #[.val (.ref a1), .val (.ref a1), .val (.ref a1), .val (.int (2 : Int32))] [(.ref a1), (.int (2 : Int32)), (.ref a1)])
  refine own_step (fun t k => XS.iloadN X2.here hx rfl (hb hby d3_24) rfl k) ?_
  show own_Fin _ _ _ _ _ _ _ _ (mkF m 25 #[.val (.ref a1), .val (.ref a1), .val (.ref a1), .val (.int (2 : Int32))] [(.int (2 : Int32)), (.ref a1), (.int (2 : Int32)), (.ref a1)])
  refine own_laload X2 hx hZ e2 V_a1 (k := 2) rfl (by decide) (v := (f1 2)) rfl (hb hby d3_25) rfl ?_
  show own_Fin _ _ _ _ _ _ _ _ (mkF m 26 #[.val (.ref a1), .val (.ref a1), .val (.ref a1), .val (.int (2 : Int32))] [(.long (f1 2)), (.int (2 : Int32)), (.ref a1)])
  refine own_step (fun t k => X2.ldc2Long hx hown (mvT hZ (hw _ (List.mem_of_getElem? (i := 12) rfl))) (g := (mkF m 26 #[.val (.ref a1), .val (.ref a1), .val (.ref a1), .val (.int (2 : Int32))] [(.long (f1 2)), (.int (2 : Int32)), (.ref a1)])) rfl (hb hby d3_26) _ k) ?_
  show own_Fin _ _ _ _ _ _ _ _ (mkF m 29 #[.val (.ref a1), .val (.ref a1), .val (.ref a1), .val (.int (2 : Int32))] [(.long (9007199254740988 : Int64)), (.long (f1 2)), (.int (2 : Int32)), (.ref a1)])
  refine own_step (fun t k => XS.ladd X2.here hx rfl (hb hby d3_29) rfl k) ?_
  show own_Fin _ _ _ _ _ _ _ _ (mkF m 30 #[.val (.ref a1), .val (.ref a1), .val (.ref a1), .val (.int (2 : Int32))] [(.long ((f1 2) + (9007199254740988 : Int64))), (.int (2 : Int32)), (.ref a1)])
  refine own_step (fun t k => XS.aloadN X2.here hx rfl (hb hby d3_30) rfl rfl k) ?_
  show own_Fin _ _ _ _ _ _ _ _ (mkF m 31 #[.val (.ref a1), .val (.ref a1), .val (.ref a1), .val (.int (2 : Int32))] [(.ref a1), (.long ((f1 2) + (9007199254740988 : Int64))), (.int (2 : Int32)), (.ref a1)])
  refine own_step (fun t k => XS.iloadN X2.here hx rfl (hb hby d3_31) rfl k) ?_
  show own_Fin _ _ _ _ _ _ _ _ (mkF m 32 #[.val (.ref a1), .val (.ref a1), .val (.ref a1), .val (.int (2 : Int32))] [(.int (2 : Int32)), (.ref a1), (.long ((f1 2) + (9007199254740988 : Int64))), (.int (2 : Int32)), (.ref a1)])
  refine own_laload X2 hx hZ e2 V_a1 (k := 2) rfl (by decide) (v := (f1 2)) rfl (hb hby d3_32) rfl ?_
  show own_Fin _ _ _ _ _ _ _ _ (mkF m 33 #[.val (.ref a1), .val (.ref a1), .val (.ref a1), .val (.int (2 : Int32))] [(.long (f1 2)), (.long ((f1 2) + (9007199254740988 : Int64))), (.int (2 : Int32)), (.ref a1)])
  refine own_step (fun t k => XS.lsub X2.here hx rfl (hb hby d3_33) rfl k) ?_
  show own_Fin _ _ _ _ _ _ _ _ (mkF m 34 #[.val (.ref a1), .val (.ref a1), .val (.ref a1), .val (.int (2 : Int32))] [(.long (((f1 2) + (9007199254740988 : Int64)) - (f1 2))), (.int (2 : Int32)), (.ref a1)])
  obtain ⟨T3, h3, X3, e3, W3, B3, st3⟩ := own_lastore X2 hx hZ e2 V_a1 (j := (2 : Int32)) (k := 2) rfl (by decide) (x := (((f1 2) + (9007199254740988 : Int64)) - (f1 2))) (pc := 34) (Ls := #[.val (.ref a1), .val (.ref a1), .val (.ref a1), .val (.int (2 : Int32))]) (rest := []) (hb hby d3_34) rfl
  refine own_step st3 ?_
  replace Zs : n0 ≤ h3.size := by rw [W3.size]; exact Zs
  replace K := K.wr W3 (Or.inl (by simp))
  replace V_a1 := B3
  replace Nf := Fr.snoc X3 Nf g_a1
  show own_Fin _ _ _ _ _ _ _ _ (mkF m 35 #[.val (.ref a1), .val (.ref a1), .val (.ref a1), .val (.int (2 : Int32))] [])
  refine own_step (fun t k => XS.iinc X3.here hx rfl (hb hby d3_35) rfl (l' := #[.val (.ref a1), .val (.ref a1), .val (.ref a1), .val (.int (3 : Int32))]) rfl k) ?_
  show own_Fin _ _ _ _ _ _ _ _ (mkF m 38 #[.val (.ref a1), .val (.ref a1), .val (.ref a1), .val (.int (3 : Int32))] [])
  refine own_step (fun t k => XS.goto X3.here hx rfl (pc0 := 38) (pc' := 16) rfl (hb hby d3_38) (by decide) (by decide) k) ?_
  show own_Fin _ _ _ _ _ _ _ _ (mkF m 16 #[.val (.ref a1), .val (.ref a1), .val (.ref a1), .val (.int (3 : Int32))] [])
  refine own_step (fun t k => XS.iloadN X3.here hx rfl (hb hby d3_16) rfl k) ?_
  show own_Fin _ _ _ _ _ _ _ _ (mkF m 17 #[.val (.ref a1), .val (.ref a1), .val (.ref a1), .val (.int (3 : Int32))] [(.int (3 : Int32))])
  refine own_step (fun t k => XS.iconst X3.here hx rfl (hb hby d3_17) k) ?_
  show own_Fin _ _ _ _ _ _ _ _ (mkF m 18 #[.val (.ref a1), .val (.ref a1), .val (.ref a1), .val (.int (3 : Int32))] [(.int (5 : Int32)), (.int (3 : Int32))])
  refine own_step (fun t k => XS.icmpNo X3.here hx rfl (hb hby d3_18) rfl (by decide) k) ?_
  show own_Fin _ _ _ _ _ _ _ _ (mkF m 21 #[.val (.ref a1), .val (.ref a1), .val (.ref a1), .val (.int (3 : Int32))] [])
  refine own_step (fun t k => XS.aloadN X3.here hx rfl (hb hby d3_21) rfl rfl k) ?_
  show own_Fin _ _ _ _ _ _ _ _ (mkF m 22 #[.val (.ref a1), .val (.ref a1), .val (.ref a1), .val (.int (3 : Int32))] [(.ref a1)])
  refine own_step (fun t k => XS.iloadN X3.here hx rfl (hb hby d3_22) rfl k) ?_
  show own_Fin _ _ _ _ _ _ _ _ (mkF m 23 #[.val (.ref a1), .val (.ref a1), .val (.ref a1), .val (.int (3 : Int32))] [(.int (3 : Int32)), (.ref a1)])
  refine own_step (fun t k => XS.aloadN X3.here hx rfl (hb hby d3_23) rfl rfl k) ?_
  show own_Fin _ _ _ _ _ _ _ _ (mkF m 24 #[.val (.ref a1), .val (.ref a1), .val (.ref a1), .val (.int (3 : Int32))] [(.ref a1), (.int (3 : Int32)), (.ref a1)])
  refine own_step (fun t k => XS.iloadN X3.here hx rfl (hb hby d3_24) rfl k) ?_
  show own_Fin _ _ _ _ _ _ _ _ (mkF m 25 #[.val (.ref a1), .val (.ref a1), .val (.ref a1), .val (.int (3 : Int32))] [(.int (3 : Int32)), (.ref a1), (.int (3 : Int32)), (.ref a1)])
  refine own_laload X3 hx hZ e3 V_a1 (k := 3) rfl (by decide) (v := (f1 3)) rfl (hb hby d3_25) rfl ?_
  show own_Fin _ _ _ _ _ _ _ _ (mkF m 26 #[.val (.ref a1), .val (.ref a1), .val (.ref a1), .val (.int (3 : Int32))] [(.long (f1 3)), (.int (3 : Int32)), (.ref a1)])
  refine own_step (fun t k => X3.ldc2Long hx hown (mvT hZ (hw _ (List.mem_of_getElem? (i := 12) rfl))) (g := (mkF m 26 #[.val (.ref a1), .val (.ref a1), .val (.ref a1), .val (.int (3 : Int32))] [(.long (f1 3)), (.int (3 : Int32)), (.ref a1)])) rfl (hb hby d3_26) _ k) ?_
  show own_Fin _ _ _ _ _ _ _ _ (mkF m 29 #[.val (.ref a1), .val (.ref a1), .val (.ref a1), .val (.int (3 : Int32))] [(.long (9007199254740988 : Int64)), (.long (f1 3)), (.int (3 : Int32)), (.ref a1)])
  refine own_step (fun t k => XS.ladd X3.here hx rfl (hb hby d3_29) rfl k) ?_
  show own_Fin _ _ _ _ _ _ _ _ (mkF m 30 #[.val (.ref a1), .val (.ref a1), .val (.ref a1), .val (.int (3 : Int32))] [(.long ((f1 3) + (9007199254740988 : Int64))), (.int (3 : Int32)), (.ref a1)])
  refine own_step (fun t k => XS.aloadN X3.here hx rfl (hb hby d3_30) rfl rfl k) ?_
  show own_Fin _ _ _ _ _ _ _ _ (mkF m 31 #[.val (.ref a1), .val (.ref a1), .val (.ref a1), .val (.int (3 : Int32))] [(.ref a1), (.long ((f1 3) + (9007199254740988 : Int64))), (.int (3 : Int32)), (.ref a1)])
  refine own_step (fun t k => XS.iloadN X3.here hx rfl (hb hby d3_31) rfl k) ?_
  show own_Fin _ _ _ _ _ _ _ _ (mkF m 32 #[.val (.ref a1), .val (.ref a1), .val (.ref a1), .val (.int (3 : Int32))] [(.int (3 : Int32)), (.ref a1), (.long ((f1 3) + (9007199254740988 : Int64))), (.int (3 : Int32)), (.ref a1)])
  refine own_laload X3 hx hZ e3 V_a1 (k := 3) rfl (by decide) (v := (f1 3)) rfl (hb hby d3_32) rfl ?_
  show own_Fin _ _ _ _ _ _ _ _ (mkF m 33 #[.val (.ref a1), .val (.ref a1), .val (.ref a1), .val (.int (3 : Int32))] [(.long (f1 3)), (.long ((f1 3) + (9007199254740988 : Int64))), (.int (3 : Int32)), (.ref a1)])
  refine own_step (fun t k => XS.lsub X3.here hx rfl (hb hby d3_33) rfl k) ?_
  show own_Fin _ _ _ _ _ _ _ _ (mkF m 34 #[.val (.ref a1), .val (.ref a1), .val (.ref a1), .val (.int (3 : Int32))] [(.long (((f1 3) + (9007199254740988 : Int64)) - (f1 3))), (.int (3 : Int32)), (.ref a1)])
  obtain ⟨T4, h4, X4, e4, W4, B4, st4⟩ := own_lastore X3 hx hZ e3 V_a1 (j := (3 : Int32)) (k := 3) rfl (by decide) (x := (((f1 3) + (9007199254740988 : Int64)) - (f1 3))) (pc := 34) (Ls := #[.val (.ref a1), .val (.ref a1), .val (.ref a1), .val (.int (3 : Int32))]) (rest := []) (hb hby d3_34) rfl
  refine own_step st4 ?_
  replace Zs : n0 ≤ h4.size := by rw [W4.size]; exact Zs
  replace K := K.wr W4 (Or.inl (by simp))
  replace V_a1 := B4
  replace Nf := Fr.snoc X4 Nf g_a1
  show own_Fin _ _ _ _ _ _ _ _ (mkF m 35 #[.val (.ref a1), .val (.ref a1), .val (.ref a1), .val (.int (3 : Int32))] [])
  refine own_step (fun t k => XS.iinc X4.here hx rfl (hb hby d3_35) rfl (l' := #[.val (.ref a1), .val (.ref a1), .val (.ref a1), .val (.int (4 : Int32))]) rfl k) ?_
  show own_Fin _ _ _ _ _ _ _ _ (mkF m 38 #[.val (.ref a1), .val (.ref a1), .val (.ref a1), .val (.int (4 : Int32))] [])
  refine own_step (fun t k => XS.goto X4.here hx rfl (pc0 := 38) (pc' := 16) rfl (hb hby d3_38) (by decide) (by decide) k) ?_
  show own_Fin _ _ _ _ _ _ _ _ (mkF m 16 #[.val (.ref a1), .val (.ref a1), .val (.ref a1), .val (.int (4 : Int32))] [])
  refine own_step (fun t k => XS.iloadN X4.here hx rfl (hb hby d3_16) rfl k) ?_
  show own_Fin _ _ _ _ _ _ _ _ (mkF m 17 #[.val (.ref a1), .val (.ref a1), .val (.ref a1), .val (.int (4 : Int32))] [(.int (4 : Int32))])
  refine own_step (fun t k => XS.iconst X4.here hx rfl (hb hby d3_17) k) ?_
  show own_Fin _ _ _ _ _ _ _ _ (mkF m 18 #[.val (.ref a1), .val (.ref a1), .val (.ref a1), .val (.int (4 : Int32))] [(.int (5 : Int32)), (.int (4 : Int32))])
  refine own_step (fun t k => XS.icmpNo X4.here hx rfl (hb hby d3_18) rfl (by decide) k) ?_
  show own_Fin _ _ _ _ _ _ _ _ (mkF m 21 #[.val (.ref a1), .val (.ref a1), .val (.ref a1), .val (.int (4 : Int32))] [])
  refine own_step (fun t k => XS.aloadN X4.here hx rfl (hb hby d3_21) rfl rfl k) ?_
  show own_Fin _ _ _ _ _ _ _ _ (mkF m 22 #[.val (.ref a1), .val (.ref a1), .val (.ref a1), .val (.int (4 : Int32))] [(.ref a1)])
  refine own_step (fun t k => XS.iloadN X4.here hx rfl (hb hby d3_22) rfl k) ?_
  show own_Fin _ _ _ _ _ _ _ _ (mkF m 23 #[.val (.ref a1), .val (.ref a1), .val (.ref a1), .val (.int (4 : Int32))] [(.int (4 : Int32)), (.ref a1)])
  refine own_step (fun t k => XS.aloadN X4.here hx rfl (hb hby d3_23) rfl rfl k) ?_
  show own_Fin _ _ _ _ _ _ _ _ (mkF m 24 #[.val (.ref a1), .val (.ref a1), .val (.ref a1), .val (.int (4 : Int32))] [(.ref a1), (.int (4 : Int32)), (.ref a1)])
  refine own_step (fun t k => XS.iloadN X4.here hx rfl (hb hby d3_24) rfl k) ?_
  show own_Fin _ _ _ _ _ _ _ _ (mkF m 25 #[.val (.ref a1), .val (.ref a1), .val (.ref a1), .val (.int (4 : Int32))] [(.int (4 : Int32)), (.ref a1), (.int (4 : Int32)), (.ref a1)])
  refine own_laload X4 hx hZ e4 V_a1 (k := 4) rfl (by decide) (v := (f1 4)) rfl (hb hby d3_25) rfl ?_
  show own_Fin _ _ _ _ _ _ _ _ (mkF m 26 #[.val (.ref a1), .val (.ref a1), .val (.ref a1), .val (.int (4 : Int32))] [(.long (f1 4)), (.int (4 : Int32)), (.ref a1)])
  refine own_step (fun t k => X4.ldc2Long hx hown (mvT hZ (hw _ (List.mem_of_getElem? (i := 12) rfl))) (g := (mkF m 26 #[.val (.ref a1), .val (.ref a1), .val (.ref a1), .val (.int (4 : Int32))] [(.long (f1 4)), (.int (4 : Int32)), (.ref a1)])) rfl (hb hby d3_26) _ k) ?_
  show own_Fin _ _ _ _ _ _ _ _ (mkF m 29 #[.val (.ref a1), .val (.ref a1), .val (.ref a1), .val (.int (4 : Int32))] [(.long (9007199254740988 : Int64)), (.long (f1 4)), (.int (4 : Int32)), (.ref a1)])
  refine own_step (fun t k => XS.ladd X4.here hx rfl (hb hby d3_29) rfl k) ?_
  show own_Fin _ _ _ _ _ _ _ _ (mkF m 30 #[.val (.ref a1), .val (.ref a1), .val (.ref a1), .val (.int (4 : Int32))] [(.long ((f1 4) + (9007199254740988 : Int64))), (.int (4 : Int32)), (.ref a1)])
  refine own_step (fun t k => XS.aloadN X4.here hx rfl (hb hby d3_30) rfl rfl k) ?_
  show own_Fin _ _ _ _ _ _ _ _ (mkF m 31 #[.val (.ref a1), .val (.ref a1), .val (.ref a1), .val (.int (4 : Int32))] [(.ref a1), (.long ((f1 4) + (9007199254740988 : Int64))), (.int (4 : Int32)), (.ref a1)])
  refine own_step (fun t k => XS.iloadN X4.here hx rfl (hb hby d3_31) rfl k) ?_
  show own_Fin _ _ _ _ _ _ _ _ (mkF m 32 #[.val (.ref a1), .val (.ref a1), .val (.ref a1), .val (.int (4 : Int32))] [(.int (4 : Int32)), (.ref a1), (.long ((f1 4) + (9007199254740988 : Int64))), (.int (4 : Int32)), (.ref a1)])
  refine own_laload X4 hx hZ e4 V_a1 (k := 4) rfl (by decide) (v := (f1 4)) rfl (hb hby d3_32) rfl ?_
  show own_Fin _ _ _ _ _ _ _ _ (mkF m 33 #[.val (.ref a1), .val (.ref a1), .val (.ref a1), .val (.int (4 : Int32))] [(.long (f1 4)), (.long ((f1 4) + (9007199254740988 : Int64))), (.int (4 : Int32)), (.ref a1)])
  refine own_step (fun t k => XS.lsub X4.here hx rfl (hb hby d3_33) rfl k) ?_
  show own_Fin _ _ _ _ _ _ _ _ (mkF m 34 #[.val (.ref a1), .val (.ref a1), .val (.ref a1), .val (.int (4 : Int32))] [(.long (((f1 4) + (9007199254740988 : Int64)) - (f1 4))), (.int (4 : Int32)), (.ref a1)])
  obtain ⟨T5, h5, X5, e5, W5, B5, st5⟩ := own_lastore X4 hx hZ e4 V_a1 (j := (4 : Int32)) (k := 4) rfl (by decide) (x := (((f1 4) + (9007199254740988 : Int64)) - (f1 4))) (pc := 34) (Ls := #[.val (.ref a1), .val (.ref a1), .val (.ref a1), .val (.int (4 : Int32))]) (rest := []) (hb hby d3_34) rfl
  refine own_step st5 ?_
  replace Zs : n0 ≤ h5.size := by rw [W5.size]; exact Zs
  replace K := K.wr W5 (Or.inl (by simp))
  replace V_a1 := B5
  replace Nf := Fr.snoc X5 Nf g_a1
  show own_Fin _ _ _ _ _ _ _ _ (mkF m 35 #[.val (.ref a1), .val (.ref a1), .val (.ref a1), .val (.int (4 : Int32))] [])
  refine own_step (fun t k => XS.iinc X5.here hx rfl (hb hby d3_35) rfl (l' := #[.val (.ref a1), .val (.ref a1), .val (.ref a1), .val (.int (5 : Int32))]) rfl k) ?_
  show own_Fin _ _ _ _ _ _ _ _ (mkF m 38 #[.val (.ref a1), .val (.ref a1), .val (.ref a1), .val (.int (5 : Int32))] [])
  refine own_step (fun t k => XS.goto X5.here hx rfl (pc0 := 38) (pc' := 16) rfl (hb hby d3_38) (by decide) (by decide) k) ?_
  show own_Fin _ _ _ _ _ _ _ _ (mkF m 16 #[.val (.ref a1), .val (.ref a1), .val (.ref a1), .val (.int (5 : Int32))] [])
  refine own_step (fun t k => XS.iloadN X5.here hx rfl (hb hby d3_16) rfl k) ?_
  show own_Fin _ _ _ _ _ _ _ _ (mkF m 17 #[.val (.ref a1), .val (.ref a1), .val (.ref a1), .val (.int (5 : Int32))] [(.int (5 : Int32))])
  refine own_step (fun t k => XS.iconst X5.here hx rfl (hb hby d3_17) k) ?_
  show own_Fin _ _ _ _ _ _ _ _ (mkF m 18 #[.val (.ref a1), .val (.ref a1), .val (.ref a1), .val (.int (5 : Int32))] [(.int (5 : Int32)), (.int (5 : Int32))])
  refine own_step (fun t k => XS.icmpYes X5.here hx rfl (pc0 := 18) (pc' := 41) rfl (hb hby d3_18) rfl (by decide) (by decide) (by decide) k) ?_
  show own_Fin _ _ _ _ _ _ _ _ (mkF m 41 #[.val (.ref a1), .val (.ref a1), .val (.ref a1), .val (.int (5 : Int32))] [])
  refine own_retV X5 hx hlk Bd.returns (hb hby d3_41) (by decide) (by decide) e5 ?_
  exact ⟨rfl, Nf, K, V_a1.congr (by intro i hi; rcases own_five hi with rfl | rfl | rfl | rfl | rfl; exact (own_sb0 f1 f1).symm; exact (own_sbn f1 f1 1 (by decide)).symm; exact (own_sbn f1 f1 2 (by decide)).symm; exact (own_sbn f1 f1 3 (by decide)).symm; exact (own_sbn f1 f1 4 (by decide)).symm)⟩
theorem d4_0 : decode prog_33_method_6_code 0 = .ok (.aload_n 0, 1) := by decide +kernel
theorem d4_1 : decode prog_33_method_6_code 1 = .ok (.iconst 0, 1) := by decide +kernel
theorem d4_2 : decode prog_33_method_6_code 2 = .ok (.aload_n 1, 1) := by decide +kernel
theorem d4_3 : decode prog_33_method_6_code 3 = .ok (.iconst 0, 1) := by decide +kernel
theorem d4_4 : decode prog_33_method_6_code 4 = .ok (.laload, 1) := by decide +kernel
theorem d4_5 : decode prog_33_method_6_code 5 = .ok (.ldc2_w 15, 3) := by decide +kernel
theorem d4_8 : decode prog_33_method_6_code 8 = .ok (.ladd, 1) := by decide +kernel
theorem d4_9 : decode prog_33_method_6_code 9 = .ok (.aload_n 2, 1) := by decide +kernel
theorem d4_10 : decode prog_33_method_6_code 10 = .ok (.iconst 0, 1) := by decide +kernel
theorem d4_11 : decode prog_33_method_6_code 11 = .ok (.laload, 1) := by decide +kernel
theorem d4_12 : decode prog_33_method_6_code 12 = .ok (.lsub, 1) := by decide +kernel
theorem d4_13 : decode prog_33_method_6_code 13 = .ok (.lastore, 1) := by decide +kernel
theorem d4_14 : decode prog_33_method_6_code 14 = .ok (.iconst 1, 1) := by decide +kernel
theorem d4_15 : decode prog_33_method_6_code 15 = .ok (.istore_n 3, 1) := by decide +kernel
theorem d4_16 : decode prog_33_method_6_code 16 = .ok (.iload_n 3, 1) := by decide +kernel
theorem d4_17 : decode prog_33_method_6_code 17 = .ok (.iconst 5, 1) := by decide +kernel
theorem d4_18 : decode prog_33_method_6_code 18 = .ok (.if_icmp .ge 23, 3) := by decide +kernel
theorem d4_21 : decode prog_33_method_6_code 21 = .ok (.aload_n 0, 1) := by decide +kernel
theorem d4_22 : decode prog_33_method_6_code 22 = .ok (.iload_n 3, 1) := by decide +kernel
theorem d4_23 : decode prog_33_method_6_code 23 = .ok (.aload_n 1, 1) := by decide +kernel
theorem d4_24 : decode prog_33_method_6_code 24 = .ok (.iload_n 3, 1) := by decide +kernel
theorem d4_25 : decode prog_33_method_6_code 25 = .ok (.laload, 1) := by decide +kernel
theorem d4_26 : decode prog_33_method_6_code 26 = .ok (.ldc2_w 17, 3) := by decide +kernel
theorem d4_29 : decode prog_33_method_6_code 29 = .ok (.ladd, 1) := by decide +kernel
theorem d4_30 : decode prog_33_method_6_code 30 = .ok (.aload_n 2, 1) := by decide +kernel
theorem d4_31 : decode prog_33_method_6_code 31 = .ok (.iload_n 3, 1) := by decide +kernel
theorem d4_32 : decode prog_33_method_6_code 32 = .ok (.laload, 1) := by decide +kernel
theorem d4_33 : decode prog_33_method_6_code 33 = .ok (.lsub, 1) := by decide +kernel
theorem d4_34 : decode prog_33_method_6_code 34 = .ok (.lastore, 1) := by decide +kernel
theorem d4_35 : decode prog_33_method_6_code 35 = .ok (.iinc 3 1, 3) := by decide +kernel
theorem d4_38 : decode prog_33_method_6_code 38 = .ok (.goto (-22), 3) := by decide +kernel
theorem d4_41 : decode prog_33_method_6_code 41 = .ok (.return_, 1) := by decide +kernel
theorem own_pn_4 : plainName "com/example/quietwire/quietwire/Field25519" = true := by first | (simp [plainName, overriddenIn]; done) | decide +kernel
theorem own_ef_4 (m : MethodId) (a2 : Addr) (a1 : Addr) : entryFrame m #[(.ref a2), (.ref a1), (.ref a2)] 4 = mkF m 0 #[.val (.ref a2), .val (.ref a1), .val (.ref a2), .unset] [] := by first | (simp [entryFrame, mkF, argsToLocals, Value.category]; done) | rfl
abbrev own_R4 : Room := { frames := 0, cells := 0, slots := 0, locals := 0 }
def own_Q4 (Z : State) (a2 : Addr) (a1 : Addr) (f1 : Nat → Int64) (f2 : Nat → Int64) (h0 : Heap) (n0 : Nat) (v : Option Value) (h : Heap) (L : List Loc) : Prop := v = none ∧ Fr n0 L ∧ Keep h0 h [a2] ∧ own_AJ Z h a2 5 (own_sb f1 f2)
set_option maxRecDepth 65536 in
set_option maxHeartbeats 40000000 in
theorem rm4 (l : Launch) (Z : State) (a0 : Array Value) (hw : ∀ d ∈ tables_1, d.before a0 Z = true) (ws : List Jvm.Cond) (a2 : Addr) (a1 : Addr) (f1 : Nat → Int64) (f2 : Nat → Int64) (h0 : Heap) (n0 : Nat) (Z0 : n0 ≤ h0.size) (V_a1 : own_AJ Z h0 a1 5 f1) (V_a2 : own_AJ Z h0 a2 5 f2) (g_a2 : n0 ≤ a2) (hne : a1 ≠ a2) :
    MetFree l (⟨"com/example/quietwire/quietwire/Field25519", "subtract", "([J[J[J)V"⟩ : MethodName) (head1 (Jvm.Cond.code (⟨"com/example/quietwire/quietwire/Field25519", "subtract", "([J[J[J)V"⟩ : MethodName) prog_33_method_6_code 4 none :: ws) own_R4) (fun a U => a = #[(.ref a2), (.ref a1), (.ref a2)] ∧ Z.Warmed39 U.vm ∧ U.heap = h0) (fun _ _ _ _ _ => True) (fun _ U o U' => ∃ v L, o = .returned v ∧ own_Q4 Z a2 a1 f1 f2 h0 n0 v U'.heap L ∧ FrameEnd U o U' L own_R4.cells own_R4.slots) := by
  refine MetFree.of_bodySF (plainFor_of_name own_pn_4) hisR ?_
  intro p e s m args below meth c s₁ Bd hml0 hP hK
  obtain ⟨rfl, hZ, hh⟩ := hP
  have hx := Bd.exec
  have hby := Bd.bytes
  have hlk := BodyLoose.notSynchronized Bd
  have hml : c.maxLocals = 4 := hml0
  have hown : s.vm.findClass "com/example/quietwire/quietwire/Field25519" = some m.cls := (findClass_of_methodNamed Bd.named : s.vm.findClass (⟨"com/example/quietwire/quietwire/Field25519", "subtract", "([J[J[J)V"⟩ : MethodName).cls = some m.cls)
  have hnm := (name_of_methodNamed Bd.named Bd.method).1
  have X0 : Stand p l e own_R4 s m #[(.ref a2), (.ref a1), (.ref a2)] below meth c s₁ [] 0 0 := Stand.of_body Bd
  have e0 : s₁.heap = h0 := by rw [← hh, Bd.state]; rfl
  have Nf := Fr.nil n0
  have Zs := Z0
  have K : Keep h0 h0 [a2] := Keep.refl _ _
  show own_Fin p e below s (own_Q4 Z a2 a1 f1 f2 h0 n0) 0 0 s₁ (entryFrame m #[(.ref a2), (.ref a1), (.ref a2)] 4)
  rw [own_ef_4 m a2 a1]
  show own_Fin _ _ _ _ _ _ _ _ (mkF m 0 #[.val (.ref a2), .val (.ref a1), .val (.ref a2), .unset] [])
  refine own_step (fun t k => XS.aloadN X0.here hx rfl (hb hby d4_0) rfl rfl k) ?_
  show own_Fin _ _ _ _ _ _ _ _ (mkF m 1 #[.val (.ref a2), .val (.ref a1), .val (.ref a2), .unset] [(.ref a2)])
  refine own_step (fun t k => XS.iconst X0.here hx rfl (hb hby d4_1) k) ?_
  show own_Fin _ _ _ _ _ _ _ _ (mkF m 2 #[.val (.ref a2), .val (.ref a1), .val (.ref a2), .unset] [(.int (0 : Int32)), (.ref a2)])
  refine own_step (fun t k => XS.aloadN X0.here hx rfl (hb hby d4_2) rfl rfl k) ?_
  show own_Fin _ _ _ _ _ _ _ _ (mkF m 3 #[.val (.ref a2), .val (.ref a1), .val (.ref a2), .unset] [(.ref a1), (.int (0 : Int32)), (.ref a2)])
  refine own_step (fun t k => XS.iconst X0.here hx rfl (hb hby d4_3) k) ?_
  show own_Fin _ _ _ _ _ _ _ _ (mkF m 4 #[.val (.ref a2), .val (.ref a1), .val (.ref a2), .unset] [(.int (0 : Int32)), (.ref a1), (.int (0 : Int32)), (.ref a2)])
  refine own_laload X0 hx hZ e0 V_a1 (k := 0) rfl (by decide) (v := (f1 0)) rfl (hb hby d4_4) rfl ?_
  show own_Fin _ _ _ _ _ _ _ _ (mkF m 5 #[.val (.ref a2), .val (.ref a1), .val (.ref a2), .unset] [(.long (f1 0)), (.int (0 : Int32)), (.ref a2)])
  refine own_step (fun t k => X0.ldc2Long hx hown (mvT hZ (hw _ (List.mem_of_getElem? (i := 11) rfl))) (g := (mkF m 5 #[.val (.ref a2), .val (.ref a1), .val (.ref a2), .unset] [(.long (f1 0)), (.int (0 : Int32)), (.ref a2)])) rfl (hb hby d4_5) _ k) ?_
  show own_Fin _ _ _ _ _ _ _ _ (mkF m 8 #[.val (.ref a2), .val (.ref a1), .val (.ref a2), .unset] [(.long (9007199254740916 : Int64)), (.long (f1 0)), (.int (0 : Int32)), (.ref a2)])
  refine own_step (fun t k => XS.ladd X0.here hx rfl (hb hby d4_8) rfl k) ?_
  show own_Fin _ _ _ _ _ _ _ _ (mkF m 9 #[.val (.ref a2), .val (.ref a1), .val (.ref a2), .unset] [(.long ((f1 0) + (9007199254740916 : Int64))), (.int (0 : Int32)), (.ref a2)])
  refine own_step (fun t k => XS.aloadN X0.here hx rfl (hb hby d4_9) rfl rfl k) ?_
  show own_Fin _ _ _ _ _ _ _ _ (mkF m 10 #[.val (.ref a2), .val (.ref a1), .val (.ref a2), .unset] [(.ref a2), (.long ((f1 0) + (9007199254740916 : Int64))), (.int (0 : Int32)), (.ref a2)])
  refine own_step (fun t k => XS.iconst X0.here hx rfl (hb hby d4_10) k) ?_
  show own_Fin _ _ _ _ _ _ _ _ (mkF m 11 #[.val (.ref a2), .val (.ref a1), .val (.ref a2), .unset] [(.int (0 : Int32)), (.ref a2), (.long ((f1 0) + (9007199254740916 : Int64))), (.int (0 : Int32)), (.ref a2)])
  refine own_laload X0 hx hZ e0 V_a2 (k := 0) rfl (by decide) (v := (f2 0)) rfl (hb hby d4_11) rfl ?_
  show own_Fin _ _ _ _ _ _ _ _ (mkF m 12 #[.val (.ref a2), .val (.ref a1), .val (.ref a2), .unset] [(.long (f2 0)), (.long ((f1 0) + (9007199254740916 : Int64))), (.int (0 : Int32)), (.ref a2)])
  refine own_step (fun t k => XS.lsub X0.here hx rfl (hb hby d4_12) rfl k) ?_
  show own_Fin _ _ _ _ _ _ _ _ (mkF m 13 #[.val (.ref a2), .val (.ref a1), .val (.ref a2), .unset] [(.long (((f1 0) + (9007199254740916 : Int64)) - (f2 0))), (.int (0 : Int32)), (.ref a2)])
  obtain ⟨T1, h1, X1, e1, W1, B1, st1⟩ := own_lastore X0 hx hZ e0 V_a2 (j := (0 : Int32)) (k := 0) rfl (by decide) (x := (((f1 0) + (9007199254740916 : Int64)) - (f2 0))) (pc := 13) (Ls := #[.val (.ref a2), .val (.ref a1), .val (.ref a2), .unset]) (rest := []) (hb hby d4_13) rfl
  refine own_step st1 ?_
  replace V_a1 := V_a1.other W1 hne
  replace Zs : n0 ≤ h1.size := by rw [W1.size]; exact Zs
  replace K := K.wr W1 (Or.inl (by simp))
  replace V_a2 := B1
  replace Nf := Fr.snoc X1 Nf g_a2
  show own_Fin _ _ _ _ _ _ _ _ (mkF m 14 #[.val (.ref a2), .val (.ref a1), .val (.ref a2), .unset] [])
  refine own_step (fun t k => XS.iconst X1.here hx rfl (hb hby d4_14) k) ?_
  show own_Fin _ _ _ _ _ _ _ _ (mkF m 15 #[.val (.ref a2), .val (.ref a1), .val (.ref a2), .unset] [(.int (1 : Int32))])
  refine own_step (fun t k => XS.istoreN X1.here hx rfl (hb hby d4_15) rfl (l' := #[.val (.ref a2), .val (.ref a1), .val (.ref a2), .val (.int (1 : Int32))]) rfl k) ?_
  show own_Fin _ _ _ _ _ _ _ _ (mkF m 16 #[.val (.ref a2), .val (.ref a1), .val (.ref a2), .val (.int (1 : Int32))] [])
  refine own_step (fun t k => XS.iloadN X1.here hx rfl (hb hby d4_16) rfl k) ?_
  show own_Fin _ _ _ _ _ _ _ _ (mkF m 17 #[.val (.ref a2), .val (.ref a1), .val (.ref a2), .val (.int (1 : Int32))] [(.int (1 : Int32))])
  refine own_step (fun t k => XS.iconst X1.here hx rfl (hb hby d4_17) k) ?_
  show own_Fin _ _ _ _ _ _ _ _ (mkF m 18 #[.val (.ref a2), .val (.ref a1), .val (.ref a2), .val (.int (1 : Int32))] [(.int (5 : Int32)), (.int (1 : Int32))])
  refine own_step (fun t k => XS.icmpNo X1.here hx rfl (hb hby d4_18) rfl (by decide) k) ?_
  show own_Fin _ _ _ _ _ _ _ _ (mkF m 21 #[.val (.ref a2), .val (.ref a1), .val (.ref a2), .val (.int (1 : Int32))] [])
  refine own_step (fun t k => XS.aloadN X1.here hx rfl (hb hby d4_21) rfl rfl k) ?_
  show own_Fin _ _ _ _ _ _ _ _ (mkF m 22 #[.val (.ref a2), .val (.ref a1), .val (.ref a2), .val (.int (1 : Int32))] [(.ref a2)])
  refine own_step (fun t k => XS.iloadN X1.here hx rfl (hb hby d4_22) rfl k) ?_
  show own_Fin _ _ _ _ _ _ _ _ (mkF m 23 #[.val (.ref a2), .val (.ref a1), .val (.ref a2), .val (.int (1 : Int32))] [(.int (1 : Int32)), (.ref a2)])
  refine own_step (fun t k => XS.aloadN X1.here hx rfl (hb hby d4_23) rfl rfl k) ?_
  show own_Fin _ _ _ _ _ _ _ _ (mkF m 24 #[.val (.ref a2), .val (.ref a1), .val (.ref a2), .val (.int (1 : Int32))] [(.ref a1), (.int (1 : Int32)), (.ref a2)])
  refine own_step (fun t k => XS.iloadN X1.here hx rfl (hb hby d4_24) rfl k) ?_
  show own_Fin _ _ _ _ _ _ _ _ (mkF m 25 #[.val (.ref a2), .val (.ref a1), .val (.ref a2), .val (.int (1 : Int32))] [(.int (1 : Int32)), (.ref a1), (.int (1 : Int32)), (.ref a2)])
  refine own_laload X1 hx hZ e1 V_a1 (k := 1) rfl (by decide) (v := (f1 1)) rfl (hb hby d4_25) rfl ?_
  show own_Fin _ _ _ _ _ _ _ _ (mkF m 26 #[.val (.ref a2), .val (.ref a1), .val (.ref a2), .val (.int (1 : Int32))] [(.long (f1 1)), (.int (1 : Int32)), (.ref a2)])
  refine own_step (fun t k => X1.ldc2Long hx hown (mvT hZ (hw _ (List.mem_of_getElem? (i := 12) rfl))) (g := (mkF m 26 #[.val (.ref a2), .val (.ref a1), .val (.ref a2), .val (.int (1 : Int32))] [(.long (f1 1)), (.int (1 : Int32)), (.ref a2)])) rfl (hb hby d4_26) _ k) ?_
  show own_Fin _ _ _ _ _ _ _ _ (mkF m 29 #[.val (.ref a2), .val (.ref a1), .val (.ref a2), .val (.int (1 : Int32))] [(.long (9007199254740988 : Int64)), (.long (f1 1)), (.int (1 : Int32)), (.ref a2)])
  refine own_step (fun t k => XS.ladd X1.here hx rfl (hb hby d4_29) rfl k) ?_
  show own_Fin _ _ _ _ _ _ _ _ (mkF m 30 #[.val (.ref a2), .val (.ref a1), .val (.ref a2), .val (.int (1 : Int32))] [(.long ((f1 1) + (9007199254740988 : Int64))), (.int (1 : Int32)), (.ref a2)])
  refine own_step (fun t k => XS.aloadN X1.here hx rfl (hb hby d4_30) rfl rfl k) ?_
  show own_Fin _ _ _ _ _ _ _ _ (mkF m 31 #[.val (.ref a2), .val (.ref a1), .val (.ref a2), .val (.int (1 : Int32))] [(.ref a2), (.long ((f1 1) + (9007199254740988 : Int64))), (.int (1 : Int32)), (.ref a2)])
  refine own_step (fun t k => XS.iloadN X1.here hx rfl (hb hby d4_31) rfl k) ?_
  show own_Fin _ _ _ _ _ _ _ _ (mkF m 32 #[.val (.ref a2), .val (.ref a1), .val (.ref a2), .val (.int (1 : Int32))] [(.int (1 : Int32)), (.ref a2), (.long ((f1 1) + (9007199254740988 : Int64))), (.int (1 : Int32)), (.ref a2)])
  refine own_laload X1 hx hZ e1 V_a2 (k := 1) rfl (by decide) (v := (f2 1)) rfl (hb hby d4_32) rfl ?_
  show own_Fin _ _ _ _ _ _ _ _ (mkF m 33 #[.val (.ref a2), .val (.ref a1), .val (.ref a2), .val (.int (1 : Int32))] [(.long (f2 1)), (.long ((f1 1) + (9007199254740988 : Int64))), (.int (1 : Int32)), (.ref a2)])
  refine own_step (fun t k => XS.lsub X1.here hx rfl (hb hby d4_33) rfl k) ?_
  show own_Fin _ _ _ _ _ _ _ _ (mkF m 34 #[.val (.ref a2), .val (.ref a1), .val (.ref a2), .val (.int (1 : Int32))] [(.long (((f1 1) + (9007199254740988 : Int64)) - (f2 1))), (.int (1 : Int32)), (.ref a2)])
  obtain ⟨T2, h2, X2, e2, W2, B2, st2⟩ := own_lastore X1 hx hZ e1 V_a2 (j := (1 : Int32)) (k := 1) rfl (by decide) (x := (((f1 1) + (9007199254740988 : Int64)) - (f2 1))) (pc := 34) (Ls := #[.val (.ref a2), .val (.ref a1), .val (.ref a2), .val (.int (1 : Int32))]) (rest := []) (hb hby d4_34) rfl
  refine own_step st2 ?_
  replace V_a1 := V_a1.other W2 hne
  replace Zs : n0 ≤ h2.size := by rw [W2.size]; exact Zs
  replace K := K.wr W2 (Or.inl (by simp))
  replace V_a2 := B2
  replace Nf := Fr.snoc X2 Nf g_a2
  show own_Fin _ _ _ _ _ _ _ _ (mkF m 35 #[.val (.ref a2), .val (.ref a1), .val (.ref a2), .val (.int (1 : Int32))] [])
  refine own_step (fun t k => XS.iinc X2.here hx rfl (hb hby d4_35) rfl (l' := #[.val (.ref a2), .val (.ref a1), .val (.ref a2), .val (.int (2 : Int32))]) rfl k) ?_
  show own_Fin _ _ _ _ _ _ _ _ (mkF m 38 #[.val (.ref a2), .val (.ref a1), .val (.ref a2), .val (.int (2 : Int32))] [])
  refine own_step (fun t k => XS.goto X2.here hx rfl (pc0 := 38) (pc' := 16) rfl (hb hby d4_38) (by decide) (by decide) k) ?_
  show own_Fin _ _ _ _ _ _ _ _ (mkF m 16 #[.val (.ref a2), .val (.ref a1), .val (.ref a2), .val (.int (2 : Int32))] [])
  refine own_step (fun t k => XS.iloadN X2.here hx rfl (hb hby d4_16) rfl k) ?_
  show own_Fin _ _ _ _ _ _ _ _ (mkF m 17 #[.val (.ref a2), .val (.ref a1), .val (.ref a2), .val (.int (2 : Int32))] [(.int (2 : Int32))])
  refine own_step (fun t k => XS.iconst X2.here hx rfl (hb hby d4_17) k) ?_
  show own_Fin _ _ _ _ _ _ _ _ (mkF m 18 #[.val (.ref a2), .val (.ref a1), .val (.ref a2), .val (.int (2 : Int32))] [(.int (5 : Int32)), (.int (2 : Int32))])
  refine own_step (fun t k => XS.icmpNo X2.here hx rfl (hb hby d4_18) rfl (by decide) k) ?_
  show own_Fin _ _ _ _ _ _ _ _ (mkF m 21 #[.val (.ref a2), .val (.ref a1), .val (.ref a2), .val (.int (2 : Int32))] [])
  refine own_step (fun t k => XS.aloadN X2.here hx rfl (hb hby d4_21) rfl rfl k) ?_
  show own_Fin _ _ _ _ _ _ _ _ (mkF m 22 #[.val (.ref a2), .val (.ref a1), .val (.ref a2), .val (.int (2 : Int32))] [(.ref a2)])
  refine own_step (fun t k => XS.iloadN X2.here hx rfl (hb hby d4_22) rfl k) ?_
  show own_Fin _ _ _ _ _ _ _ _ (mkF m 23 #[.val (.ref a2), .val (.ref a1), .val (.ref a2), .val (.int (2 : Int32))] [(.int (2 : Int32)), (.ref a2)])
  refine own_step (fun t k => XS.aloadN X2.here hx rfl (hb hby d4_23) rfl rfl k) ?_
  show own_Fin _ _ _ _ _ _ _ _ (mkF m 24 #[.val (.ref a2), .val (.ref a1), .val (.ref a2), .val (.int (2 : Int32))] [(.ref a1), (.int (2 : Int32)), (.ref a2)])
  refine own_step (fun t k => XS.iloadN X2.here hx rfl (hb hby d4_24) rfl k) ?_
  show own_Fin _ _ _ _ _ _ _ _ (mkF m 25 #[.val (.ref a2), .val (.ref a1), .val (.ref a2), .val (.int (2 : Int32))] [(.int (2 : Int32)), (.ref a1), (.int (2 : Int32)), (.ref a2)])
  refine own_laload X2 hx hZ e2 V_a1 (k := 2) rfl (by decide) (v := (f1 2)) rfl (hb hby d4_25) rfl ?_
  show own_Fin _ _ _ _ _ _ _ _ (mkF m 26 #[.val (.ref a2), .val (.ref a1), .val (.ref a2), .val (.int (2 : Int32))] [(.long (f1 2)), (.int (2 : Int32)), (.ref a2)])
  refine own_step (fun t k => X2.ldc2Long hx hown (mvT hZ (hw _ (List.mem_of_getElem? (i := 12) rfl))) (g := (mkF m 26 #[.val (.ref a2), .val (.ref a1), .val (.ref a2), .val (.int (2 : Int32))] [(.long (f1 2)), (.int (2 : Int32)), (.ref a2)])) rfl (hb hby d4_26) _ k) ?_
  show own_Fin _ _ _ _ _ _ _ _ (mkF m 29 #[.val (.ref a2), .val (.ref a1), .val (.ref a2), .val (.int (2 : Int32))] [(.long (9007199254740988 : Int64)), (.long (f1 2)), (.int (2 : Int32)), (.ref a2)])
  refine own_step (fun t k => XS.ladd X2.here hx rfl (hb hby d4_29) rfl k) ?_
  show own_Fin _ _ _ _ _ _ _ _ (mkF m 30 #[.val (.ref a2), .val (.ref a1), .val (.ref a2), .val (.int (2 : Int32))] [(.long ((f1 2) + (9007199254740988 : Int64))), (.int (2 : Int32)), (.ref a2)])
  refine own_step (fun t k => XS.aloadN X2.here hx rfl (hb hby d4_30) rfl rfl k) ?_
  show own_Fin _ _ _ _ _ _ _ _ (mkF m 31 #[.val (.ref a2), .val (.ref a1), .val (.ref a2), .val (.int (2 : Int32))] [(.ref a2), (.long ((f1 2) + (9007199254740988 : Int64))), (.int (2 : Int32)), (.ref a2)])
  refine own_step (fun t k => XS.iloadN X2.here hx rfl (hb hby d4_31) rfl k) ?_
  show own_Fin _ _ _ _ _ _ _ _ (mkF m 32 #[.val (.ref a2), .val (.ref a1), .val (.ref a2), .val (.int (2 : Int32))] [(.int (2 : Int32)), (.ref a2), (.long ((f1 2) + (9007199254740988 : Int64))), (.int (2 : Int32)), (.ref a2)])
  refine own_laload X2 hx hZ e2 V_a2 (k := 2) rfl (by decide) (v := (f2 2)) rfl (hb hby d4_32) rfl ?_
  show own_Fin _ _ _ _ _ _ _ _ (mkF m 33 #[.val (.ref a2), .val (.ref a1), .val (.ref a2), .val (.int (2 : Int32))] [(.long (f2 2)), (.long ((f1 2) + (9007199254740988 : Int64))), (.int (2 : Int32)), (.ref a2)])
  refine own_step (fun t k => XS.lsub X2.here hx rfl (hb hby d4_33) rfl k) ?_
  show own_Fin _ _ _ _ _ _ _ _ (mkF m 34 #[.val (.ref a2), .val (.ref a1), .val (.ref a2), .val (.int (2 : Int32))] [(.long (((f1 2) + (9007199254740988 : Int64)) - (f2 2))), (.int (2 : Int32)), (.ref a2)])
  obtain ⟨T3, h3, X3, e3, W3, B3, st3⟩ := own_lastore X2 hx hZ e2 V_a2 (j := (2 : Int32)) (k := 2) rfl (by decide) (x := (((f1 2) + (9007199254740988 : Int64)) - (f2 2))) (pc := 34) (Ls := #[.val (.ref a2), .val (.ref a1), .val (.ref a2), .val (.int (2 : Int32))]) (rest := []) (hb hby d4_34) rfl
  refine own_step st3 ?_
  replace V_a1 := V_a1.other W3 hne
  replace Zs : n0 ≤ h3.size := by rw [W3.size]; exact Zs
  replace K := K.wr W3 (Or.inl (by simp))
  replace V_a2 := B3
  replace Nf := Fr.snoc X3 Nf g_a2
  show own_Fin _ _ _ _ _ _ _ _ (mkF m 35 #[.val (.ref a2), .val (.ref a1), .val (.ref a2), .val (.int (2 : Int32))] [])
  refine own_step (fun t k => XS.iinc X3.here hx rfl (hb hby d4_35) rfl (l' := #[.val (.ref a2), .val (.ref a1), .val (.ref a2), .val (.int (3 : Int32))]) rfl k) ?_
  show own_Fin _ _ _ _ _ _ _ _ (mkF m 38 #[.val (.ref a2), .val (.ref a1), .val (.ref a2), .val (.int (3 : Int32))] [])
  refine own_step (fun t k => XS.goto X3.here hx rfl (pc0 := 38) (pc' := 16) rfl (hb hby d4_38) (by decide) (by decide) k) ?_
  show own_Fin _ _ _ _ _ _ _ _ (mkF m 16 #[.val (.ref a2), .val (.ref a1), .val (.ref a2), .val (.int (3 : Int32))] [])
  refine own_step (fun t k => XS.iloadN X3.here hx rfl (hb hby d4_16) rfl k) ?_
  show own_Fin _ _ _ _ _ _ _ _ (mkF m 17 #[.val (.ref a2), .val (.ref a1), .val (.ref a2), .val (.int (3 : Int32))] [(.int (3 : Int32))])
  refine own_step (fun t k => XS.iconst X3.here hx rfl (hb hby d4_17) k) ?_
  show own_Fin _ _ _ _ _ _ _ _ (mkF m 18 #[.val (.ref a2), .val (.ref a1), .val (.ref a2), .val (.int (3 : Int32))] [(.int (5 : Int32)), (.int (3 : Int32))])
  refine own_step (fun t k => XS.icmpNo X3.here hx rfl (hb hby d4_18) rfl (by decide) k) ?_
  show own_Fin _ _ _ _ _ _ _ _ (mkF m 21 #[.val (.ref a2), .val (.ref a1), .val (.ref a2), .val (.int (3 : Int32))] [])
  refine own_step (fun t k => XS.aloadN X3.here hx rfl (hb hby d4_21) rfl rfl k) ?_
  show own_Fin _ _ _ _ _ _ _ _ (mkF m 22 #[.val (.ref a2), .val (.ref a1), .val (.ref a2), .val (.int (3 : Int32))] [(.ref a2)])
  refine own_step (fun t k => XS.iloadN X3.here hx rfl (hb hby d4_22) rfl k) ?_
  show own_Fin _ _ _ _ _ _ _ _ (mkF m 23 #[.val (.ref a2), .val (.ref a1), .val (.ref a2), .val (.int (3 : Int32))] [(.int (3 : Int32)), (.ref a2)])
  refine own_step (fun t k => XS.aloadN X3.here hx rfl (hb hby d4_23) rfl rfl k) ?_
  show own_Fin _ _ _ _ _ _ _ _ (mkF m 24 #[.val (.ref a2), .val (.ref a1), .val (.ref a2), .val (.int (3 : Int32))] [(.ref a1), (.int (3 : Int32)), (.ref a2)])
  refine own_step (fun t k => XS.iloadN X3.here hx rfl (hb hby d4_24) rfl k) ?_
  show own_Fin _ _ _ _ _ _ _ _ (mkF m 25 #[.val (.ref a2), .val (.ref a1), .val (.ref a2), .val (.int (3 : Int32))] [(.int (3 : Int32)), (.ref a1), (.int (3 : Int32)), (.ref a2)])
  refine own_laload X3 hx hZ e3 V_a1 (k := 3) rfl (by decide) (v := (f1 3)) rfl (hb hby d4_25) rfl ?_
  show own_Fin _ _ _ _ _ _ _ _ (mkF m 26 #[.val (.ref a2), .val (.ref a1), .val (.ref a2), .val (.int (3 : Int32))] [(.long (f1 3)), (.int (3 : Int32)), (.ref a2)])
  refine own_step (fun t k => X3.ldc2Long hx hown (mvT hZ (hw _ (List.mem_of_getElem? (i := 12) rfl))) (g := (mkF m 26 #[.val (.ref a2), .val (.ref a1), .val (.ref a2), .val (.int (3 : Int32))] [(.long (f1 3)), (.int (3 : Int32)), (.ref a2)])) rfl (hb hby d4_26) _ k) ?_
  show own_Fin _ _ _ _ _ _ _ _ (mkF m 29 #[.val (.ref a2), .val (.ref a1), .val (.ref a2), .val (.int (3 : Int32))] [(.long (9007199254740988 : Int64)), (.long (f1 3)), (.int (3 : Int32)), (.ref a2)])
  refine own_step (fun t k => XS.ladd X3.here hx rfl (hb hby d4_29) rfl k) ?_
  show own_Fin _ _ _ _ _ _ _ _ (mkF m 30 #[.val (.ref a2), .val (.ref a1), .val (.ref a2), .val (.int (3 : Int32))] [(.long ((f1 3) + (9007199254740988 : Int64))), (.int (3 : Int32)), (.ref a2)])
  refine own_step (fun t k => XS.aloadN X3.here hx rfl (hb hby d4_30) rfl rfl k) ?_
  show own_Fin _ _ _ _ _ _ _ _ (mkF m 31 #[.val (.ref a2), .val (.ref a1), .val (.ref a2), .val (.int (3 : Int32))] [(.ref a2), (.long ((f1 3) + (9007199254740988 : Int64))), (.int (3 : Int32)), (.ref a2)])
  refine own_step (fun t k => XS.iloadN X3.here hx rfl (hb hby d4_31) rfl k) ?_
  show own_Fin _ _ _ _ _ _ _ _ (mkF m 32 #[.val (.ref a2), .val (.ref a1), .val (.ref a2), .val (.int (3 : Int32))] [(.int (3 : Int32)), (.ref a2), (.long ((f1 3) + (9007199254740988 : Int64))), (.int (3 : Int32)), (.ref a2)])
  refine own_laload X3 hx hZ e3 V_a2 (k := 3) rfl (by decide) (v := (f2 3)) rfl (hb hby d4_32) rfl ?_
  show own_Fin _ _ _ _ _ _ _ _ (mkF m 33 #[.val (.ref a2), .val (.ref a1), .val (.ref a2), .val (.int (3 : Int32))] [(.long (f2 3)), (.long ((f1 3) + (9007199254740988 : Int64))), (.int (3 : Int32)), (.ref a2)])
  refine own_step (fun t k => XS.lsub X3.here hx rfl (hb hby d4_33) rfl k) ?_
  show own_Fin _ _ _ _ _ _ _ _ (mkF m 34 #[.val (.ref a2), .val (.ref a1), .val (.ref a2), .val (.int (3 : Int32))] [(.long (((f1 3) + (9007199254740988 : Int64)) - (f2 3))), (.int (3 : Int32)), (.ref a2)])
  obtain ⟨T4, h4, X4, e4, W4, B4, st4⟩ := own_lastore X3 hx hZ e3 V_a2 (j := (3 : Int32)) (k := 3) rfl (by decide) (x := (((f1 3) + (9007199254740988 : Int64)) - (f2 3))) (pc := 34) (Ls := #[.val (.ref a2), .val (.ref a1), .val (.ref a2), .val (.int (3 : Int32))]) (rest := []) (hb hby d4_34) rfl
  refine own_step st4 ?_
  replace V_a1 := V_a1.other W4 hne
  replace Zs : n0 ≤ h4.size := by rw [W4.size]; exact Zs
  replace K := K.wr W4 (Or.inl (by simp))
  replace V_a2 := B4
  replace Nf := Fr.snoc X4 Nf g_a2
  show own_Fin _ _ _ _ _ _ _ _ (mkF m 35 #[.val (.ref a2), .val (.ref a1), .val (.ref a2), .val (.int (3 : Int32))] [])
  refine own_step (fun t k => XS.iinc X4.here hx rfl (hb hby d4_35) rfl (l' := #[.val (.ref a2), .val (.ref a1), .val (.ref a2), .val (.int (4 : Int32))]) rfl k) ?_
  show own_Fin _ _ _ _ _ _ _ _ (mkF m 38 #[.val (.ref a2), .val (.ref a1), .val (.ref a2), .val (.int (4 : Int32))] [])
  refine own_step (fun t k => XS.goto X4.here hx rfl (pc0 := 38) (pc' := 16) rfl (hb hby d4_38) (by decide) (by decide) k) ?_
  show own_Fin _ _ _ _ _ _ _ _ (mkF m 16 #[.val (.ref a2), .val (.ref a1), .val (.ref a2), .val (.int (4 : Int32))] [])
  refine own_step (fun t k => XS.iloadN X4.here hx rfl (hb hby d4_16) rfl k) ?_
  show own_Fin _ _ _ _ _ _ _ _ (mkF m 17 #[.val (.ref a2), .val (.ref a1), .val (.ref a2), .val (.int (4 : Int32))] [(.int (4 : Int32))])
  refine own_step (fun t k => XS.iconst X4.here hx rfl (hb hby d4_17) k) ?_
  show own_Fin _ _ _ _ _ _ _ _ (mkF m 18 #[.val (.ref a2), .val (.ref a1), .val (.ref a2), .val (.int (4 : Int32))] [(.int (5 : Int32)), (.int (4 : Int32))])
  refine own_step (fun t k => XS.icmpNo X4.here hx rfl (hb hby d4_18) rfl (by decide) k) ?_
  show own_Fin _ _ _ _ _ _ _ _ (mkF m 21 #[.val (.ref a2), .val (.ref a1), .val (.ref a2), .val (.int (4 : Int32))] [])
  refine own_step (fun t k => XS.aloadN X4.here hx rfl (hb hby d4_21) rfl rfl k) ?_
  show own_Fin _ _ _ _ _ _ _ _ (mkF m 22 #[.val (.ref a2), .val (.ref a1), .val (.ref a2), .val (.int (4 : Int32))] [(.ref a2)])
  refine own_step (fun t k => XS.iloadN X4.here hx rfl (hb hby d4_22) rfl k) ?_
  show own_Fin _ _ _ _ _ _ _ _ (mkF m 23 #[.val (.ref a2), .val (.ref a1), .val (.ref a2), .val (.int (4 : Int32))] [(.int (4 : Int32)), (.ref a2)])
  refine own_step (fun t k => XS.aloadN X4.here hx rfl (hb hby d4_23) rfl rfl k) ?_
  show own_Fin _ _ _ _ _ _ _ _ (mkF m 24 #[.val (.ref a2), .val (.ref a1), .val (.ref a2), .val (.int (4 : Int32))] [(.ref a1), (.int (4 : Int32)), (.ref a2)])
  refine own_step (fun t k => XS.iloadN X4.here hx rfl (hb hby d4_24) rfl k) ?_
  show own_Fin _ _ _ _ _ _ _ _ (mkF m 25 #[.val (.ref a2), .val (.ref a1), .val (.ref a2), .val (.int (4 : Int32))] [(.int (4 : Int32)), (.ref a1), (.int (4 : Int32)), (.ref a2)])
  refine own_laload X4 hx hZ e4 V_a1 (k := 4) rfl (by decide) (v := (f1 4)) rfl (hb hby d4_25) rfl ?_
  show own_Fin _ _ _ _ _ _ _ _ (mkF m 26 #[.val (.ref a2), .val (.ref a1), .val (.ref a2), .val (.int (4 : Int32))] [(.long (f1 4)), (.int (4 : Int32)), (.ref a2)])
  refine own_step (fun t k => X4.ldc2Long hx hown (mvT hZ (hw _ (List.mem_of_getElem? (i := 12) rfl))) (g := (mkF m 26 #[.val (.ref a2), .val (.ref a1), .val (.ref a2), .val (.int (4 : Int32))] [(.long (f1 4)), (.int (4 : Int32)), (.ref a2)])) rfl (hb hby d4_26) _ k) ?_
  show own_Fin _ _ _ _ _ _ _ _ (mkF m 29 #[.val (.ref a2), .val (.ref a1), .val (.ref a2), .val (.int (4 : Int32))] [(.long (9007199254740988 : Int64)), (.long (f1 4)), (.int (4 : Int32)), (.ref a2)])
  refine own_step (fun t k => XS.ladd X4.here hx rfl (hb hby d4_29) rfl k) ?_
  show own_Fin _ _ _ _ _ _ _ _ (mkF m 30 #[.val (.ref a2), .val (.ref a1), .val (.ref a2), .val (.int (4 : Int32))] [(.long ((f1 4) + (9007199254740988 : Int64))), (.int (4 : Int32)), (.ref a2)])
  refine own_step (fun t k => XS.aloadN X4.here hx rfl (hb hby d4_30) rfl rfl k) ?_
  show own_Fin _ _ _ _ _ _ _ _ (mkF m 31 #[.val (.ref a2), .val (.ref a1), .val (.ref a2), .val (.int (4 : Int32))] [(.ref a2), (.long ((f1 4) + (9007199254740988 : Int64))), (.int (4 : Int32)), (.ref a2)])
  refine own_step (fun t k => XS.iloadN X4.here hx rfl (hb hby d4_31) rfl k) ?_
  show own_Fin _ _ _ _ _ _ _ _ (mkF m 32 #[.val (.ref a2), .val (.ref a1), .val (.ref a2), .val (.int (4 : Int32))] [(.int (4 : Int32)), (.ref a2), (.long ((f1 4) + (9007199254740988 : Int64))), (.int (4 : Int32)), (.ref a2)])
  refine own_laload X4 hx hZ e4 V_a2 (k := 4) rfl (by decide) (v := (f2 4)) rfl (hb hby d4_32) rfl ?_
  show own_Fin _ _ _ _ _ _ _ _ (mkF m 33 #[.val (.ref a2), .val (.ref a1), .val (.ref a2), .val (.int (4 : Int32))] [(.long (f2 4)), (.long ((f1 4) + (9007199254740988 : Int64))), (.int (4 : Int32)), (.ref a2)])
  refine own_step (fun t k => XS.lsub X4.here hx rfl (hb hby d4_33) rfl k) ?_
  show own_Fin _ _ _ _ _ _ _ _ (mkF m 34 #[.val (.ref a2), .val (.ref a1), .val (.ref a2), .val (.int (4 : Int32))] [(.long (((f1 4) + (9007199254740988 : Int64)) - (f2 4))), (.int (4 : Int32)), (.ref a2)])
  obtain ⟨T5, h5, X5, e5, W5, B5, st5⟩ := own_lastore X4 hx hZ e4 V_a2 (j := (4 : Int32)) (k := 4) rfl (by decide) (x := (((f1 4) + (9007199254740988 : Int64)) - (f2 4))) (pc := 34) (Ls := #[.val (.ref a2), .val (.ref a1), .val (.ref a2), .val (.int (4 : Int32))]) (rest := []) (hb hby d4_34) rfl
  refine own_step st5 ?_
  replace V_a1 := V_a1.other W5 hne
  replace Zs : n0 ≤ h5.size := by rw [W5.size]; exact Zs
  replace K := K.wr W5 (Or.inl (by simp))
  replace V_a2 := B5
  replace Nf := Fr.snoc X5 Nf g_a2
  show own_Fin _ _ _ _ _ _ _ _ (mkF m 35 #[.val (.ref a2), .val (.ref a1), .val (.ref a2), .val (.int (4 : Int32))] [])
  refine own_step (fun t k => XS.iinc X5.here hx rfl (hb hby d4_35) rfl (l' := #[.val (.ref a2), .val (.ref a1), .val (.ref a2), .val (.int (5 : Int32))]) rfl k) ?_
  show own_Fin _ _ _ _ _ _ _ _ (mkF m 38 #[.val (.ref a2), .val (.ref a1), .val (.ref a2), .val (.int (5 : Int32))] [])
  refine own_step (fun t k => XS.goto X5.here hx rfl (pc0 := 38) (pc' := 16) rfl (hb hby d4_38) (by decide) (by decide) k) ?_
  show own_Fin _ _ _ _ _ _ _ _ (mkF m 16 #[.val (.ref a2), .val (.ref a1), .val (.ref a2), .val (.int (5 : Int32))] [])
  refine own_step (fun t k => XS.iloadN X5.here hx rfl (hb hby d4_16) rfl k) ?_
  show own_Fin _ _ _ _ _ _ _ _ (mkF m 17 #[.val (.ref a2), .val (.ref a1), .val (.ref a2), .val (.int (5 : Int32))] [(.int (5 : Int32))])
  refine own_step (fun t k => XS.iconst X5.here hx rfl (hb hby d4_17) k) ?_
  show own_Fin _ _ _ _ _ _ _ _ (mkF m 18 #[.val (.ref a2), .val (.ref a1), .val (.ref a2), .val (.int (5 : Int32))] [(.int (5 : Int32)), (.int (5 : Int32))])
  refine own_step (fun t k => XS.icmpYes X5.here hx rfl (pc0 := 18) (pc' := 41) rfl (hb hby d4_18) rfl (by decide) (by decide) (by decide) k) ?_
  show own_Fin _ _ _ _ _ _ _ _ (mkF m 41 #[.val (.ref a2), .val (.ref a1), .val (.ref a2), .val (.int (5 : Int32))] [])
  refine own_retV X5 hx hlk Bd.returns (hb hby d4_41) (by decide) (by decide) e5 ?_
  exact ⟨rfl, Nf, K, V_a2.congr (by intro i hi; rcases own_five hi with rfl | rfl | rfl | rfl | rfl; exact (own_sb0 f1 f2).symm; exact (own_sbn f1 f2 1 (by decide)).symm; exact (own_sbn f1 f2 2 (by decide)).symm; exact (own_sbn f1 f2 3 (by decide)).symm; exact (own_sbn f1 f2 4 (by decide)).symm)⟩
theorem d5_0 : decode prog_33_method_6_code 0 = .ok (.aload_n 0, 1) := by decide +kernel
theorem d5_1 : decode prog_33_method_6_code 1 = .ok (.iconst 0, 1) := by decide +kernel
theorem d5_2 : decode prog_33_method_6_code 2 = .ok (.aload_n 1, 1) := by decide +kernel
theorem d5_3 : decode prog_33_method_6_code 3 = .ok (.iconst 0, 1) := by decide +kernel
theorem d5_4 : decode prog_33_method_6_code 4 = .ok (.laload, 1) := by decide +kernel
theorem d5_5 : decode prog_33_method_6_code 5 = .ok (.ldc2_w 15, 3) := by decide +kernel
theorem d5_8 : decode prog_33_method_6_code 8 = .ok (.ladd, 1) := by decide +kernel
theorem d5_9 : decode prog_33_method_6_code 9 = .ok (.aload_n 2, 1) := by decide +kernel
theorem d5_10 : decode prog_33_method_6_code 10 = .ok (.iconst 0, 1) := by decide +kernel
theorem d5_11 : decode prog_33_method_6_code 11 = .ok (.laload, 1) := by decide +kernel
theorem d5_12 : decode prog_33_method_6_code 12 = .ok (.lsub, 1) := by decide +kernel
theorem d5_13 : decode prog_33_method_6_code 13 = .ok (.lastore, 1) := by decide +kernel
theorem d5_14 : decode prog_33_method_6_code 14 = .ok (.iconst 1, 1) := by decide +kernel
theorem d5_15 : decode prog_33_method_6_code 15 = .ok (.istore_n 3, 1) := by decide +kernel
theorem d5_16 : decode prog_33_method_6_code 16 = .ok (.iload_n 3, 1) := by decide +kernel
theorem d5_17 : decode prog_33_method_6_code 17 = .ok (.iconst 5, 1) := by decide +kernel
theorem d5_18 : decode prog_33_method_6_code 18 = .ok (.if_icmp .ge 23, 3) := by decide +kernel
theorem d5_21 : decode prog_33_method_6_code 21 = .ok (.aload_n 0, 1) := by decide +kernel
theorem d5_22 : decode prog_33_method_6_code 22 = .ok (.iload_n 3, 1) := by decide +kernel
theorem d5_23 : decode prog_33_method_6_code 23 = .ok (.aload_n 1, 1) := by decide +kernel
theorem d5_24 : decode prog_33_method_6_code 24 = .ok (.iload_n 3, 1) := by decide +kernel
theorem d5_25 : decode prog_33_method_6_code 25 = .ok (.laload, 1) := by decide +kernel
theorem d5_26 : decode prog_33_method_6_code 26 = .ok (.ldc2_w 17, 3) := by decide +kernel
theorem d5_29 : decode prog_33_method_6_code 29 = .ok (.ladd, 1) := by decide +kernel
theorem d5_30 : decode prog_33_method_6_code 30 = .ok (.aload_n 2, 1) := by decide +kernel
theorem d5_31 : decode prog_33_method_6_code 31 = .ok (.iload_n 3, 1) := by decide +kernel
theorem d5_32 : decode prog_33_method_6_code 32 = .ok (.laload, 1) := by decide +kernel
theorem d5_33 : decode prog_33_method_6_code 33 = .ok (.lsub, 1) := by decide +kernel
theorem d5_34 : decode prog_33_method_6_code 34 = .ok (.lastore, 1) := by decide +kernel
theorem d5_35 : decode prog_33_method_6_code 35 = .ok (.iinc 3 1, 3) := by decide +kernel
theorem d5_38 : decode prog_33_method_6_code 38 = .ok (.goto (-22), 3) := by decide +kernel
theorem d5_41 : decode prog_33_method_6_code 41 = .ok (.return_, 1) := by decide +kernel
theorem own_pn_5 : plainName "com/example/quietwire/quietwire/Field25519" = true := by first | (simp [plainName, overriddenIn]; done) | decide +kernel
theorem own_ef_5 (m : MethodId) (a3 : Addr) (a1 : Addr) (a2 : Addr) : entryFrame m #[(.ref a3), (.ref a1), (.ref a2)] 4 = mkF m 0 #[.val (.ref a3), .val (.ref a1), .val (.ref a2), .unset] [] := by first | (simp [entryFrame, mkF, argsToLocals, Value.category]; done) | rfl
abbrev own_R5 : Room := { frames := 0, cells := 0, slots := 0, locals := 0 }
def own_Q5 (Z : State) (a3 : Addr) (a1 : Addr) (a2 : Addr) (f1 : Nat → Int64) (f2 : Nat → Int64) (f3 : Nat → Int64) (h0 : Heap) (n0 : Nat) (v : Option Value) (h : Heap) (L : List Loc) : Prop := v = none ∧ Fr n0 L ∧ Keep h0 h [a3] ∧ own_AJ Z h a3 5 (own_sb f1 f2)
set_option maxRecDepth 65536 in
set_option maxHeartbeats 40000000 in
theorem rm5 (l : Launch) (Z : State) (a0 : Array Value) (hw : ∀ d ∈ tables_1, d.before a0 Z = true) (ws : List Jvm.Cond) (a3 : Addr) (a1 : Addr) (a2 : Addr) (f1 : Nat → Int64) (f2 : Nat → Int64) (f3 : Nat → Int64) (h0 : Heap) (n0 : Nat) (Z0 : n0 ≤ h0.size) (V_a1 : own_AJ Z h0 a1 5 f1) (V_a2 : own_AJ Z h0 a2 5 f2) (V_a3 : own_AJ Z h0 a3 5 f3) (g_a3 : n0 ≤ a3) (hne1 : a1 ≠ a3) (hne2 : a2 ≠ a3) :
    MetFree l (⟨"com/example/quietwire/quietwire/Field25519", "subtract", "([J[J[J)V"⟩ : MethodName) (head1 (Jvm.Cond.code (⟨"com/example/quietwire/quietwire/Field25519", "subtract", "([J[J[J)V"⟩ : MethodName) prog_33_method_6_code 4 none :: ws) own_R5) (fun a U => a = #[(.ref a3), (.ref a1), (.ref a2)] ∧ Z.Warmed39 U.vm ∧ U.heap = h0) (fun _ _ _ _ _ => True) (fun _ U o U' => ∃ v L, o = .returned v ∧ own_Q5 Z a3 a1 a2 f1 f2 f3 h0 n0 v U'.heap L ∧ FrameEnd U o U' L own_R5.cells own_R5.slots) := by
  refine MetFree.of_bodySF (plainFor_of_name own_pn_5) hisR ?_
  intro p e s m args below meth c s₁ Bd hml0 hP hK
  obtain ⟨rfl, hZ, hh⟩ := hP
  have hx := Bd.exec
  have hby := Bd.bytes
  have hlk := BodyLoose.notSynchronized Bd
  have hml : c.maxLocals = 4 := hml0
  have hown : s.vm.findClass "com/example/quietwire/quietwire/Field25519" = some m.cls := (findClass_of_methodNamed Bd.named : s.vm.findClass (⟨"com/example/quietwire/quietwire/Field25519", "subtract", "([J[J[J)V"⟩ : MethodName).cls = some m.cls)
  have hnm := (name_of_methodNamed Bd.named Bd.method).1
  have X0 : Stand p l e own_R5 s m #[(.ref a3), (.ref a1), (.ref a2)] below meth c s₁ [] 0 0 := Stand.of_body Bd
  have e0 : s₁.heap = h0 := by rw [← hh, Bd.state]; rfl
  have Nf := Fr.nil n0
  have Zs := Z0
  have K : Keep h0 h0 [a3] := Keep.refl _ _
  show own_Fin p e below s (own_Q5 Z a3 a1 a2 f1 f2 f3 h0 n0) 0 0 s₁ (entryFrame m #[(.ref a3), (.ref a1), (.ref a2)] 4)
  rw [own_ef_5 m a3 a1 a2]
  show own_Fin _ _ _ _ _ _ _ _ (mkF m 0 #[.val (.ref a3), .val (.ref a1), .val (.ref a2), .unset] [])
  refine own_step (fun t k => XS.aloadN X0.here hx rfl (hb hby d5_0) rfl rfl k) ?_
  show own_Fin _ _ _ _ _ _ _ _ (mkF m 1 #[.val (.ref a3), .val (.ref a1), .val (.ref a2), .unset] [(.ref a3)])
  refine own_step (fun t k => XS.iconst X0.here hx rfl (hb hby d5_1) k) ?_
  show own_Fin _ _ _ _ _ _ _ _ (mkF m 2 #[.val (.ref a3), .val (.ref a1), .val (.ref a2), .unset] [(.int (0 : Int32)), (.ref a3)])
  refine own_step (fun t k => XS.aloadN X0.here hx rfl (hb hby d5_2) rfl rfl k) ?_
  show own_Fin _ _ _ _ _ _ _ _ (mkF m 3 #[.val (.ref a3), .val (.ref a1), .val (.ref a2), .unset] [(.ref a1), (.int (0 : Int32)), (.ref a3)])
  refine own_step (fun t k => XS.iconst X0.here hx rfl (hb hby d5_3) k) ?_
  show own_Fin _ _ _ _ _ _ _ _ (mkF m 4 #[.val (.ref a3), .val (.ref a1), .val (.ref a2), .unset] [(.int (0 : Int32)), (.ref a1), (.int (0 : Int32)), (.ref a3)])
  refine own_laload X0 hx hZ e0 V_a1 (k := 0) rfl (by decide) (v := (f1 0)) rfl (hb hby d5_4) rfl ?_
  show own_Fin _ _ _ _ _ _ _ _ (mkF m 5 #[.val (.ref a3), .val (.ref a1), .val (.ref a2), .unset] [(.long (f1 0)), (.int (0 : Int32)), (.ref a3)])
  refine own_step (fun t k => X0.ldc2Long hx hown (mvT hZ (hw _ (List.mem_of_getElem? (i := 11) rfl))) (g := (mkF m 5 #[.val (.ref a3), .val (.ref a1), .val (.ref a2), .unset] [(.long (f1 0)), (.int (0 : Int32)), (.ref a3)])) rfl (hb hby d5_5) _ k) ?_
  show own_Fin _ _ _ _ _ _ _ _ (mkF m 8 #[.val (.ref a3), .val (.ref a1), .val (.ref a2), .unset] [(.long (9007199254740916 : Int64)), (.long (f1 0)), (.int (0 : Int32)), (.ref a3)])
  refine own_step (fun t k => XS.ladd X0.here hx rfl (hb hby d5_8) rfl k) ?_
  show own_Fin _ _ _ _ _ _ _ _ (mkF m 9 #[.val (.ref a3), .val (.ref a1), .val (.ref a2), .unset] [(.long ((f1 0) + (9007199254740916 : Int64))), (.int (0 : Int32)), (.ref a3)])
  refine own_step (fun t k => XS.aloadN X0.here hx rfl (hb hby d5_9) rfl rfl k) ?_
  show own_Fin _ _ _ _ _ _ _ _ (mkF m 10 #[.val (.ref a3), .val (.ref a1), .val (.ref a2), .unset] [(.ref a2), (.long ((f1 0) + (9007199254740916 : Int64))), (.int (0 : Int32)), (.ref a3)])
  refine own_step (fun t k => XS.iconst X0.here hx rfl (hb hby d5_10) k) ?_
  show own_Fin _ _ _ _ _ _ _ _ (mkF m 11 #[.val (.ref a3), .val (.ref a1), .val (.ref a2), .unset] [(.int (0 : Int32)), (.ref a2), (.long ((f1 0) + (9007199254740916 : Int64))), (.int (0 : Int32)), (.ref a3)])
  refine own_laload X0 hx hZ e0 V_a2 (k := 0) rfl (by decide) (v := (f2 0)) rfl (hb hby d5_11) rfl ?_
  show own_Fin _ _ _ _ _ _ _ _ (mkF m 12 #[.val (.ref a3), .val (.ref a1), .val (.ref a2), .unset] [(.long (f2 0)), (.long ((f1 0) + (9007199254740916 : Int64))), (.int (0 : Int32)), (.ref a3)])
  refine own_step (fun t k => XS.lsub X0.here hx rfl (hb hby d5_12) rfl k) ?_
  show own_Fin _ _ _ _ _ _ _ _ (mkF m 13 #[.val (.ref a3), .val (.ref a1), .val (.ref a2), .unset] [(.long (((f1 0) + (9007199254740916 : Int64)) - (f2 0))), (.int (0 : Int32)), (.ref a3)])
  obtain ⟨T1, h1, X1, e1, W1, B1, st1⟩ := own_lastore X0 hx hZ e0 V_a3 (j := (0 : Int32)) (k := 0) rfl (by decide) (x := (((f1 0) + (9007199254740916 : Int64)) - (f2 0))) (pc := 13) (Ls := #[.val (.ref a3), .val (.ref a1), .val (.ref a2), .unset]) (rest := []) (hb hby d5_13) rfl
  refine own_step st1 ?_
  replace V_a1 := V_a1.other W1 hne1
  replace V_a2 := V_a2.other W1 hne2
  replace Zs : n0 ≤ h1.size := by rw [W1.size]; exact Zs
  replace K := K.wr W1 (Or.inl (by simp))
  replace V_a3 := B1
  replace Nf := Fr.snoc X1 Nf g_a3
  show own_Fin _ _ _ _ _ _ _ _ (mkF m 14 #[.val (.ref a3), .val (.ref a1), .val (.ref a2), .unset] [])
  refine own_step (fun t k => XS.iconst X1.here hx rfl (hb hby d5_14) k) ?_
  show own_Fin _ _ _ _ _ _ _ _ (mkF m 15 #[.val (.ref a3), .val (.ref a1), .val (.ref a2), .unset] [(.int (1 : Int32))])
  refine own_step (fun t k => XS.istoreN X1.here hx rfl (hb hby d5_15) rfl (l' := #[.val (.ref a3), .val (.ref a1), .val (.ref a2), .val (.int (1 : Int32))]) rfl k) ?_
  show own_Fin _ _ _ _ _ _ _ _ (mkF m 16 #[.val (.ref a3), .val (.ref a1), .val (.ref a2), .val (.int (1 : Int32))] [])
  refine own_step (fun t k => XS.iloadN X1.here hx rfl (hb hby d5_16) rfl k) ?_
  show own_Fin _ _ _ _ _ _ _ _ (mkF m 17 #[.val (.ref a3), .val (.ref a1), .val (.ref a2), .val (.int (1 : Int32))] [(.int (1 : Int32))])
  refine own_step (fun t k => XS.iconst X1.here hx rfl (hb hby d5_17) k) ?_
  show own_Fin _ _ _ _ _ _ _ _ (mkF m 18 #[.val (.ref a3), .val (.ref a1), .val (.ref a2), .val (.int (1 : Int32))] [(.int (5 : Int32)), (.int (1 : Int32))])
  refine own_step (fun t k => XS.icmpNo X1.here hx rfl (hb hby d5_18) rfl (by decide) k) ?_
  show own_Fin _ _ _ _ _ _ _ _ (mkF m 21 #[.val (.ref a3), .val (.ref a1), .val (.ref a2), .val (.int (1 : Int32))] [])
  refine own_step (fun t k => XS.aloadN X1.here hx rfl (hb hby d5_21) rfl rfl k) ?_
  show own_Fin _ _ _ _ _ _ _ _ (mkF m 22 #[.val (.ref a3), .val (.ref a1), .val (.ref a2), .val (.int (1 : Int32))] [(.ref a3)])
  refine own_step (fun t k => XS.iloadN X1.here hx rfl (hb hby d5_22) rfl k) ?_
  show own_Fin _ _ _ _ _ _ _ _ (mkF m 23 #[.val (.ref a3), .val (.ref a1), .val (.ref a2), .val (.int (1 : Int32))] [(.int (1 : Int32)), (.ref a3)])
  refine own_step (fun t k => XS.aloadN X1.here hx rfl (hb hby d5_23) rfl rfl k) ?_
  show own_Fin _ _ _ _ _ _ _ _ (mkF m 24 #[.val (.ref a3), .val (.ref a1), .val (.ref a2), .val (.int (1 : Int32))] [(.ref a1), (.int (1 : Int32)), (.ref a3)])
  refine own_step (fun t k => XS.iloadN X1.here hx rfl (hb hby d5_24) rfl k) ?_
  show own_Fin _ _ _ _ _ _ _ _ (mkF m 25 #[.val (.ref a3), .val (.ref a1), .val (.ref a2), .val (.int (1 : Int32))] [(.int (1 : Int32)), (.ref a1), (.int (1 : Int32)), (.ref a3)])
  refine own_laload X1 hx hZ e1 V_a1 (k := 1) rfl (by decide) (v := (f1 1)) rfl (hb hby d5_25) rfl ?_
  show own_Fin _ _ _ _ _ _ _ _ (mkF m 26 #[.val (.ref a3), .val (.ref a1), .val (.ref a2), .val (.int (1 : Int32))] [(.long (f1 1)), (.int (1 : Int32)), (.ref a3)])
  refine own_step (fun t k => X1.ldc2Long hx hown (mvT hZ (hw _ (List.mem_of_getElem? (i := 12) rfl))) (g := (mkF m 26 #[.val (.ref a3), .val (.ref a1), .val (.ref a2), .val (.int (1 : Int32))] [(.long (f1 1)), (.int (1 : Int32)), (.ref a3)])) rfl (hb hby d5_26) _ k) ?_
  show own_Fin _ _ _ _ _ _ _ _ (mkF m 29 #[.val (.ref a3), .val (.ref a1), .val (.ref a2), .val (.int (1 : Int32))] [(.long (9007199254740988 : Int64)), (.long (f1 1)), (.int (1 : Int32)), (.ref a3)])
  refine own_step (fun t k => XS.ladd X1.here hx rfl (hb hby d5_29) rfl k) ?_
  show own_Fin _ _ _ _ _ _ _ _ (mkF m 30 #[.val (.ref a3), .val (.ref a1), .val (.ref a2), .val (.int (1 : Int32))] [(.long ((f1 1) + (9007199254740988 : Int64))), (.int (1 : Int32)), (.ref a3)])
  refine own_step (fun t k => XS.aloadN X1.here hx rfl (hb hby d5_30) rfl rfl k) ?_
  show own_Fin _ _ _ _ _ _ _ _ (mkF m 31 #[.val (.ref a3), .val (.ref a1), .val (.ref a2), .val (.int (1 : Int32))] [(.ref a2), (.long ((f1 1) + (9007199254740988 : Int64))), (.int (1 : Int32)), (.ref a3)])
  refine own_step (fun t k => XS.iloadN X1.here hx rfl (hb hby d5_31) rfl k) ?_
  show own_Fin _ _ _ _ _ _ _ _ (mkF m 32 #[.val (.ref a3), .val (.ref a1), .val (.ref a2), .val (.int (1 : Int32))] [(.int (1 : Int32)), (.ref a2), (.long ((f1 1) + (9007199254740988 : Int64))), (.int (1 : Int32)), (.ref a3)])
  refine own_laload X1 hx hZ e1 V_a2 (k := 1) rfl (by decide) (v := (f2 1)) rfl (hb hby d5_32) rfl ?_
  show own_Fin _ _ _ _ _ _ _ _ (mkF m 33 #[.val (.ref a3), .val (.ref a1), .val (.ref a2), .val (.int (1 : Int32))] [(.long (f2 1)), (.long ((f1 1) + (9007199254740988 : Int64))), (.int (1 : Int32)), (.ref a3)])
  refine own_step (fun t k => XS.lsub X1.here hx rfl (hb hby d5_33) rfl k) ?_
  show own_Fin _ _ _ _ _ _ _ _ (mkF m 34 #[.val (.ref a3), .val (.ref a1), .val (.ref a2), .val (.int (1 : Int32))] [(.long (((f1 1) + (9007199254740988 : Int64)) - (f2 1))), (.int (1 : Int32)), (.ref a3)])
  obtain ⟨T2, h2, X2, e2, W2, B2, st2⟩ := own_lastore X1 hx hZ e1 V_a3 (j := (1 : Int32)) (k := 1) rfl (by decide) (x := (((f1 1) + (9007199254740988 : Int64)) - (f2 1))) (pc := 34) (Ls := #[.val (.ref a3), .val (.ref a1), .val (.ref a2), .val (.int (1 : Int32))]) (rest := []) (hb hby d5_34) rfl
  refine own_step st2 ?_
  replace V_a1 := V_a1.other W2 hne1
  replace V_a2 := V_a2.other W2 hne2
  replace Zs : n0 ≤ h2.size := by rw [W2.size]; exact Zs
  replace K := K.wr W2 (Or.inl (by simp))
  replace V_a3 := B2
  replace Nf := Fr.snoc X2 Nf g_a3
  show own_Fin _ _ _ _ _ _ _ _ (mkF m 35 #[.val (.ref a3), .val (.ref a1), .val (.ref a2), .val (.int (1 : Int32))] [])
  refine own_step (fun t k => XS.iinc X2.here hx rfl (hb hby d5_35) rfl (l' := #[.val (.ref a3), .val (.ref a1), .val (.ref a2), .val (.int (2 : Int32))]) rfl k) ?_
  show own_Fin _ _ _ _ _ _ _ _ (mkF m 38 #[.val (.ref a3), .val (.ref a1), .val (.ref a2), .val (.int (2 : Int32))] [])
  refine own_step (fun t k => XS.goto X2.here hx rfl (pc0 := 38) (pc' := 16) rfl (hb hby d5_38) (by decide) (by decide) k) ?_
  show own_Fin _ _ _ _ _ _ _ _ (mkF m 16 #[.val (.ref a3), .val (.ref a1), .val (.ref a2), .val (.int (2 : Int32))] [])
  refine own_step (fun t k => XS.iloadN X2.here hx rfl (hb hby d5_16) rfl k) ?_
  show own_Fin _ _ _ _ _ _ _ _ (mkF m 17 #[.val (.ref a3), .val (.ref a1), .val (.ref a2), .val (.int (2 : Int32))] [(.int (2 : Int32))])
  refine own_step (fun t k => XS.iconst X2.here hx rfl (hb hby d5_17) k) ?_
  show own_Fin _ _ _ _ _ _ _ _ (mkF m 18 #[.val (.ref a3), .val (.ref a1), .val (.ref a2), .val (.int (2 : Int32))] [(.int (5 : Int32)), (.int (2 : Int32))])
  refine own_step (fun t k => XS.icmpNo X2.here hx rfl (hb hby d5_18) rfl (by decide) k) ?_
  show own_Fin _ _ _ _ _ _ _ _ (mkF m 21 #[.val (.ref a3), .val (.ref a1), .val (.ref a2), .val (.int (2 : Int32))] [])
  refine own_step (fun t k => XS.aloadN X2.here hx rfl (hb hby d5_21) rfl rfl k) ?_
  show own_Fin _ _ _ _ _ _ _ _ (mkF m 22 #[.val (.ref a3), .val (.ref a1), .val (.ref a2), .val (.int (2 : Int32))] [(.ref a3)])
  refine own_step (fun t k => XS.iloadN X2.here hx rfl (hb hby d5_22) rfl k) ?_
  show own_Fin _ _ _ _ _ _ _ _ (mkF m 23 #[.val (.ref a3), .val (.ref a1), .val (.ref a2), .val (.int (2 : Int32))] [(.int (2 : Int32)), (.ref a3)])
  refine own_step (fun t k => XS.aloadN X2.here hx rfl (hb hby d5_23) rfl rfl k) ?_
  show own_Fin _ _ _ _ _ _ _ _ (mkF m 24 #[.val (.ref a3), .val (.ref a1), .val (.ref a2), .val (.int (2 : Int32))] [(.ref a1), (.int (2 : Int32)), (.ref a3)])
  refine own_step (fun t k => XS.iloadN X2.here hx rfl (hb hby d5_24) rfl k) ?_
  show own_Fin _ _ _ _ _ _ _ _ (mkF m 25 #[.val (.ref a3), .val (.ref a1), .val (.ref a2), .val (.int (2 : Int32))] [(.int (2 : Int32)), (.ref a1), (.int (2 : Int32)), (.ref a3)])
  refine own_laload X2 hx hZ e2 V_a1 (k := 2) rfl (by decide) (v := (f1 2)) rfl (hb hby d5_25) rfl ?_
  show own_Fin _ _ _ _ _ _ _ _ (mkF m 26 #[.val (.ref a3), .val (.ref a1), .val (.ref a2), .val (.int (2 : Int32))] [(.long (f1 2)), (.int (2 : Int32)), (.ref a3)])
  refine own_step (fun t k => X2.ldc2Long hx hown (mvT hZ (hw _ (List.mem_of_getElem? (i := 12) rfl))) (g := (mkF m 26 #[.val (.ref a3), .val (.ref a1), .val (.ref a2), .val (.int (2 : Int32))] [(.long (f1 2)), (.int (2 : Int32)), (.ref a3)])) rfl (hb hby d5_26) _ k) ?_
  show own_Fin _ _ _ _ _ _ _ _ (mkF m 29 #[.val (.ref a3), .val (.ref a1), .val (.ref a2), .val (.int (2 : Int32))] [(.long (9007199254740988 : Int64)), (.long (f1 2)), (.int (2 : Int32)), (.ref a3)])
  refine own_step (fun t k => XS.ladd X2.here hx rfl (hb hby d5_29) rfl k) ?_
  show own_Fin _ _ _ _ _ _ _ _ (mkF m 30 #[.val (.ref a3), .val (.ref a1), .val (.ref a2), .val (.int (2 : Int32))] [(.long ((f1 2) + (9007199254740988 : Int64))), (.int (2 : Int32)), (.ref a3)])
  refine own_step (fun t k => XS.aloadN X2.here hx rfl (hb hby d5_30) rfl rfl k) ?_
  show own_Fin _ _ _ _ _ _ _ _ (mkF m 31 #[.val (.ref a3), .val (.ref a1), .val (.ref a2), .val (.int (2 : Int32))] [(.ref a2), (.long ((f1 2) + (9007199254740988 : Int64))), (.int (2 : Int32)), (.ref a3)])
  refine own_step (fun t k => XS.iloadN X2.here hx rfl (hb hby d5_31) rfl k) ?_
  show own_Fin _ _ _ _ _ _ _ _ (mkF m 32 #[.val (.ref a3), .val (.ref a1), .val (.ref a2), .val (.int (2 : Int32))] [(.int (2 : Int32)), (.ref a2), (.long ((f1 2) + (9007199254740988 : Int64))), (.int (2 : Int32)), (.ref a3)])
  refine own_laload X2 hx hZ e2 V_a2 (k := 2) rfl (by decide) (v := (f2 2)) rfl (hb hby d5_32) rfl ?_
  show own_Fin _ _ _ _ _ _ _ _ (mkF m 33 #[.val (.ref a3), .val (.ref a1), .val (.ref a2), .val (.int (2 : Int32))] [(.long (f2 2)), (.long ((f1 2) + (9007199254740988 : Int64))), (.int (2 : Int32)), (.ref a3)])
  refine own_step (fun t k => XS.lsub X2.here hx rfl (hb hby d5_33) rfl k) ?_
  show own_Fin _ _ _ _ _ _ _ _ (mkF m 34 #[.val (.ref a3), .val (.ref a1), .val (.ref a2), .val (.int (2 : Int32))] [(.long (((f1 2) + (9007199254740988 : Int64)) - (f2 2))), (.int (2 : Int32)), (.ref a3)])
  obtain ⟨T3, h3, X3, e3, W3, B3, st3⟩ := own_lastore X2 hx hZ e2 V_a3 (j := (2 : Int32)) (k := 2) rfl (by decide) (x := (((f1 2) + (9007199254740988 : Int64)) - (f2 2))) (pc := 34) (Ls := #[.val (.ref a3), .val (.ref a1), .val (.ref a2), .val (.int (2 : Int32))]) (rest := []) (hb hby d5_34) rfl
  refine own_step st3 ?_
  replace V_a1 := V_a1.other W3 hne1
  replace V_a2 := V_a2.other W3 hne2
  replace Zs : n0 ≤ h3.size := by rw [W3.size]; exact Zs
  replace K := K.wr W3 (Or.inl (by simp))
  replace V_a3 := B3
  replace Nf := Fr.snoc X3 Nf g_a3
  show own_Fin _ _ _ _ _ _ _ _ (mkF m 35 #[.val (.ref a3), .val (.ref a1), .val (.ref a2), .val (.int (2 : Int32))] [])
  refine own_step (fun t k => XS.iinc X3.here hx rfl (hb hby d5_35) rfl (l' := #[.val (.ref a3), .val (.ref a1), .val (.ref a2), .val (.int (3 : Int32))]) rfl k) ?_
  show own_Fin _ _ _ _ _ _ _ _ (mkF m 38 #[.val (.ref a3), .val (.ref a1), .val (.ref a2), .val (.int (3 : Int32))] [])
  refine own_step (fun t k => XS.goto X3.here hx rfl (pc0 := 38) (pc' := 16) rfl (hb hby d5_38) (by decide) (by decide) k) ?_
  show own_Fin _ _ _ _ _ _ _ _ (mkF m 16 #[.val (.ref a3), .val (.ref a1), .val (.ref a2), .val (.int (3 : Int32))] [])
  refine own_step (fun t k => XS.iloadN X3.here hx rfl (hb hby d5_16) rfl k) ?_
  show own_Fin _ _ _ _ _ _ _ _ (mkF m 17 #[.val (.ref a3), .val (.ref a1), .val (.ref a2), .val (.int (3 : Int32))] [(.int (3 : Int32))])
  refine own_step (fun t k => XS.iconst X3.here hx rfl (hb hby d5_17) k) ?_
  show own_Fin _ _ _ _ _ _ _ _ (mkF m 18 #[.val (.ref a3), .val (.ref a1), .val (.ref a2), .val (.int (3 : Int32))] [(.int (5 : Int32)), (.int (3 : Int32))])
  refine own_step (fun t k => XS.icmpNo X3.here hx rfl (hb hby d5_18) rfl (by decide) k) ?_
  show own_Fin _ _ _ _ _ _ _ _ (mkF m 21 #[.val (.ref a3), .val (.ref a1), .val (.ref a2), .val (.int (3 : Int32))] [])
  refine own_step (fun t k => XS.aloadN X3.here hx rfl (hb hby d5_21) rfl rfl k) ?_
  show own_Fin _ _ _ _ _ _ _ _ (mkF m 22 #[.val (.ref a3), .val (.ref a1), .val (.ref a2), .val (.int (3 : Int32))] [(.ref a3)])
  refine own_step (fun t k => XS.iloadN X3.here hx rfl (hb hby d5_22) rfl k) ?_
  show own_Fin _ _ _ _ _ _ _ _ (mkF m 23 #[.val (.ref a3), .val (.ref a1), .val (.ref a2), .val (.int (3 : Int32))] [(.int (3 : Int32)), (.ref a3)])
  refine own_step (fun t k => XS.aloadN X3.here hx rfl (hb hby d5_23) rfl rfl k) ?_
  show own_Fin _ _ _ _ _ _ _ _ (mkF m 24 #[.val (.ref a3), .val (.ref a1), .val (.ref a2), .val (.int (3 : Int32))] [(.ref a1), (.int (3 : Int32)), (.ref a3)])
  refine own_step (fun t k => XS.iloadN X3.here hx rfl (hb hby d5_24) rfl k) ?_
  show own_Fin _ _ _ _ _ _ _ _ (mkF m 25 #[.val (.ref a3), .val (.ref a1), .val (.ref a2), .val (.int (3 : Int32))] [(.int (3 : Int32)), (.ref a1), (.int (3 : Int32)), (.ref a3)])
  refine own_laload X3 hx hZ e3 V_a1 (k := 3) rfl (by decide) (v := (f1 3)) rfl (hb hby d5_25) rfl ?_
  show own_Fin _ _ _ _ _ _ _ _ (mkF m 26 #[.val (.ref a3), .val (.ref a1), .val (.ref a2), .val (.int (3 : Int32))] [(.long (f1 3)), (.int (3 : Int32)), (.ref a3)])
  refine own_step (fun t k => X3.ldc2Long hx hown (mvT hZ (hw _ (List.mem_of_getElem? (i := 12) rfl))) (g := (mkF m 26 #[.val (.ref a3), .val (.ref a1), .val (.ref a2), .val (.int (3 : Int32))] [(.long (f1 3)), (.int (3 : Int32)), (.ref a3)])) rfl (hb hby d5_26) _ k) ?_
  show own_Fin _ _ _ _ _ _ _ _ (mkF m 29 #[.val (.ref a3), .val (.ref a1), .val (.ref a2), .val (.int (3 : Int32))] [(.long (9007199254740988 : Int64)), (.long (f1 3)), (.int (3 : Int32)), (.ref a3)])
  refine own_step (fun t k => XS.ladd X3.here hx rfl (hb hby d5_29) rfl k) ?_
  show own_Fin _ _ _ _ _ _ _ _ (mkF m 30 #[.val (.ref a3), .val (.ref a1), .val (.ref a2), .val (.int (3 : Int32))] [(.long ((f1 3) + (9007199254740988 : Int64))), (.int (3 : Int32)), (.ref a3)])
  refine own_step (fun t k => XS.aloadN X3.here hx rfl (hb hby d5_30) rfl rfl k) ?_
  show own_Fin _ _ _ _ _ _ _ _ (mkF m 31 #[.val (.ref a3), .val (.ref a1), .val (.ref a2), .val (.int (3 : Int32))] [(.ref a2), (.long ((f1 3) + (9007199254740988 : Int64))), (.int (3 : Int32)), (.ref a3)])
  refine own_step (fun t k => XS.iloadN X3.here hx rfl (hb hby d5_31) rfl k) ?_
  show own_Fin _ _ _ _ _ _ _ _ (mkF m 32 #[.val (.ref a3), .val (.ref a1), .val (.ref a2), .val (.int (3 : Int32))] [(.int (3 : Int32)), (.ref a2), (.long ((f1 3) + (9007199254740988 : Int64))), (.int (3 : Int32)), (.ref a3)])
  refine own_laload X3 hx hZ e3 V_a2 (k := 3) rfl (by decide) (v := (f2 3)) rfl (hb hby d5_32) rfl ?_
  show own_Fin _ _ _ _ _ _ _ _ (mkF m 33 #[.val (.ref a3), .val (.ref a1), .val (.ref a2), .val (.int (3 : Int32))] [(.long (f2 3)), (.long ((f1 3) + (9007199254740988 : Int64))), (.int (3 : Int32)), (.ref a3)])
  refine own_step (fun t k => XS.lsub X3.here hx rfl (hb hby d5_33) rfl k) ?_
  show own_Fin _ _ _ _ _ _ _ _ (mkF m 34 #[.val (.ref a3), .val (.ref a1), .val (.ref a2), .val (.int (3 : Int32))] [(.long (((f1 3) + (9007199254740988 : Int64)) - (f2 3))), (.int (3 : Int32)), (.ref a3)])
  obtain ⟨T4, h4, X4, e4, W4, B4, st4⟩ := own_lastore X3 hx hZ e3 V_a3 (j := (3 : Int32)) (k := 3) rfl (by decide) (x := (((f1 3) + (9007199254740988 : Int64)) - (f2 3))) (pc := 34) (Ls := #[.val (.ref a3), .val (.ref a1), .val (.ref a2), .val (.int (3 : Int32))]) (rest := []) (hb hby d5_34) rfl
  refine own_step st4 ?_
  replace V_a1 := V_a1.other W4 hne1
  replace V_a2 := V_a2.other W4 hne2
  replace Zs : n0 ≤ h4.size := by rw [W4.size]; exact Zs
  replace K := K.wr W4 (Or.inl (by simp))
  replace V_a3 := B4
  replace Nf := Fr.snoc X4 Nf g_a3
  show own_Fin _ _ _ _ _ _ _ _ (mkF m 35 #[.val (.ref a3), .val (.ref a1), .val (.ref a2), .val (.int (3 : Int32))] [])
  refine own_step (fun t k => XS.iinc X4.here hx rfl (hb hby d5_35) rfl (l' := #[.val (.ref a3), .val (.ref a1), .val (.ref a2), .val (.int (4 : Int32))]) rfl k) ?_
  show own_Fin _ _ _ _ _ _ _ _ (mkF m 38 #[.val (.ref a3), .val (.ref a1), .val (.ref a2), .val (.int (4 : Int32))] [])
  refine own_step (fun t k => XS.goto X4.here hx rfl (pc0 := 38) (pc' := 16) rfl (hb hby d5_38) (by decide) (by decide) k) ?_
  show own_Fin _ _ _ _ _ _ _ _ (mkF m 16 #[.val (.ref a3), .val (.ref a1), .val (.ref a2), .val (.int (4 : Int32))] [])
  refine own_step (fun t k => XS.iloadN X4.here hx rfl (hb hby d5_16) rfl k) ?_
  show own_Fin _ _ _ _ _ _ _ _ (mkF m 17 #[.val (.ref a3), .val (.ref a1), .val (.ref a2), .val (.int (4 : Int32))] [(.int (4 : Int32))])
  refine own_step (fun t k => XS.iconst X4.here hx rfl (hb hby d5_17) k) ?_
  show own_Fin _ _ _ _ _ _ _ _ (mkF m 18 #[.val (.ref a3), .val (.ref a1), .val (.ref a2), .val (.int (4 : Int32))] [(.int (5 : Int32)), (.int (4 : Int32))])
  refine own_step (fun t k => XS.icmpNo X4.here hx rfl (hb hby d5_18) rfl (by decide) k) ?_
  show own_Fin _ _ _ _ _ _ _ _ (mkF m 21 #[.val (.ref a3), .val (.ref a1), .val (.ref a2), .val (.int (4 : Int32))] [])
  refine own_step (fun t k => XS.aloadN X4.here hx rfl (hb hby d5_21) rfl rfl k) ?_
  show own_Fin _ _ _ _ _ _ _ _ (mkF m 22 #[.val (.ref a3), .val (.ref a1), .val (.ref a2), .val (.int (4 : Int32))] [(.ref a3)])
  refine own_step (fun t k => XS.iloadN X4.here hx rfl (hb hby d5_22) rfl k) ?_
  show own_Fin _ _ _ _ _ _ _ _ (mkF m 23 #[.val (.ref a3), .val (.ref a1), .val (.ref a2), .val (.int (4 : Int32))] [(.int (4 : Int32)), (.ref a3)])
  refine own_step (fun t k => XS.aloadN X4.here hx rfl (hb hby d5_23) rfl rfl k) ?_
  show own_Fin _ _ _ _ _ _ _ _ (mkF m 24 #[.val (.ref a3), .val (.ref a1), .val (.ref a2), .val (.int (4 : Int32))] [(.ref a1), (.int (4 : Int32)), (.ref a3)])
  refine own_step (fun t k => XS.iloadN X4.here hx rfl (hb hby d5_24) rfl k) ?_
  show own_Fin _ _ _ _ _ _ _ _ (mkF m 25 #[.val (.ref a3), .val (.ref a1), .val (.ref a2), .val (.int (4 : Int32))] [(.int (4 : Int32)), (.ref a1), (.int (4 : Int32)), (.ref a3)])
  refine own_laload X4 hx hZ e4 V_a1 (k := 4) rfl (by decide) (v := (f1 4)) rfl (hb hby d5_25) rfl ?_
  show own_Fin _ _ _ _ _ _ _ _ (mkF m 26 #[.val (.ref a3), .val (.ref a1), .val (.ref a2), .val (.int (4 : Int32))] [(.long (f1 4)), (.int (4 : Int32)), (.ref a3)])
  refine own_step (fun t k => X4.ldc2Long hx hown (mvT hZ (hw _ (List.mem_of_getElem? (i := 12) rfl))) (g := (mkF m 26 #[.val (.ref a3), .val (.ref a1), .val (.ref a2), .val (.int (4 : Int32))] [(.long (f1 4)), (.int (4 : Int32)), (.ref a3)])) rfl (hb hby d5_26) _ k) ?_
  show own_Fin _ _ _ _ _ _ _ _ (mkF m 29 #[.val (.ref a3), .val (.ref a1), .val (.ref a2), .val (.int (4 : Int32))] [(.long (9007199254740988 : Int64)), (.long (f1 4)), (.int (4 : Int32)), (.ref a3)])
  refine own_step (fun t k => XS.ladd X4.here hx rfl (hb hby d5_29) rfl k) ?_
  show own_Fin _ _ _ _ _ _ _ _ (mkF m 30 #[.val (.ref a3), .val (.ref a1), .val (.ref a2), .val (.int (4 : Int32))] [(.long ((f1 4) + (9007199254740988 : Int64))), (.int (4 : Int32)), (.ref a3)])
  refine own_step (fun t k => XS.aloadN X4.here hx rfl (hb hby d5_30) rfl rfl k) ?_
  show own_Fin _ _ _ _ _ _ _ _ (mkF m 31 #[.val (.ref a3), .val (.ref a1), .val (.ref a2), .val (.int (4 : Int32))] [(.ref a2), (.long ((f1 4) + (9007199254740988 : Int64))), (.int (4 : Int32)), (.ref a3)])
  refine own_step (fun t k => XS.iloadN X4.here hx rfl (hb hby d5_31) rfl k) ?_
  show own_Fin _ _ _ _ _ _ _ _ (mkF m 32 #[.val (.ref a3), .val (.ref a1), .val (.ref a2), .val (.int (4 : Int32))] [(.int (4 : Int32)), (.ref a2), (.long ((f1 4) + (9007199254740988 : Int64))), (.int (4 : Int32)), (.ref a3)])
  refine own_laload X4 hx hZ e4 V_a2 (k := 4) rfl (by decide) (v := (f2 4)) rfl (hb hby d5_32) rfl ?_
  show own_Fin _ _ _ _ _ _ _ _ (mkF m 33 #[.val (.ref a3), .val (.ref a1), .val (.ref a2), .val (.int (4 : Int32))] [(.long (f2 4)), (.long ((f1 4) + (9007199254740988 : Int64))), (.int (4 : Int32)), (.ref a3)])
  refine own_step (fun t k => XS.lsub X4.here hx rfl (hb hby d5_33) rfl k) ?_
  show own_Fin _ _ _ _ _ _ _ _ (mkF m 34 #[.val (.ref a3), .val (.ref a1), .val (.ref a2), .val (.int (4 : Int32))] [(.long (((f1 4) + (9007199254740988 : Int64)) - (f2 4))), (.int (4 : Int32)), (.ref a3)])
  obtain ⟨T5, h5, X5, e5, W5, B5, st5⟩ := own_lastore X4 hx hZ e4 V_a3 (j := (4 : Int32)) (k := 4) rfl (by decide) (x := (((f1 4) + (9007199254740988 : Int64)) - (f2 4))) (pc := 34) (Ls := #[.val (.ref a3), .val (.ref a1), .val (.ref a2), .val (.int (4 : Int32))]) (rest := []) (hb hby d5_34) rfl
  refine own_step st5 ?_
  replace V_a1 := V_a1.other W5 hne1
  replace V_a2 := V_a2.other W5 hne2
  replace Zs : n0 ≤ h5.size := by rw [W5.size]; exact Zs
  replace K := K.wr W5 (Or.inl (by simp))
  replace V_a3 := B5
  replace Nf := Fr.snoc X5 Nf g_a3
  show own_Fin _ _ _ _ _ _ _ _ (mkF m 35 #[.val (.ref a3), .val (.ref a1), .val (.ref a2), .val (.int (4 : Int32))] [])
  refine own_step (fun t k => XS.iinc X5.here hx rfl (hb hby d5_35) rfl (l' := #[.val (.ref a3), .val (.ref a1), .val (.ref a2), .val (.int (5 : Int32))]) rfl k) ?_
  show own_Fin _ _ _ _ _ _ _ _ (mkF m 38 #[.val (.ref a3), .val (.ref a1), .val (.ref a2), .val (.int (5 : Int32))] [])
  refine own_step (fun t k => XS.goto X5.here hx rfl (pc0 := 38) (pc' := 16) rfl (hb hby d5_38) (by decide) (by decide) k) ?_
  show own_Fin _ _ _ _ _ _ _ _ (mkF m 16 #[.val (.ref a3), .val (.ref a1), .val (.ref a2), .val (.int (5 : Int32))] [])
  refine own_step (fun t k => XS.iloadN X5.here hx rfl (hb hby d5_16) rfl k) ?_
  show own_Fin _ _ _ _ _ _ _ _ (mkF m 17 #[.val (.ref a3), .val (.ref a1), .val (.ref a2), .val (.int (5 : Int32))] [(.int (5 : Int32))])
  refine own_step (fun t k => XS.iconst X5.here hx rfl (hb hby d5_17) k) ?_
  show own_Fin _ _ _ _ _ _ _ _ (mkF m 18 #[.val (.ref a3), .val (.ref a1), .val (.ref a2), .val (.int (5 : Int32))] [(.int (5 : Int32)), (.int (5 : Int32))])
  refine own_step (fun t k => XS.icmpYes X5.here hx rfl (pc0 := 18) (pc' := 41) rfl (hb hby d5_18) rfl (by decide) (by decide) (by decide) k) ?_
  show own_Fin _ _ _ _ _ _ _ _ (mkF m 41 #[.val (.ref a3), .val (.ref a1), .val (.ref a2), .val (.int (5 : Int32))] [])
  refine own_retV X5 hx hlk Bd.returns (hb hby d5_41) (by decide) (by decide) e5 ?_
  exact ⟨rfl, Nf, K, V_a3.congr (by intro i hi; rcases own_five hi with rfl | rfl | rfl | rfl | rfl; exact (own_sb0 f1 f2).symm; exact (own_sbn f1 f2 1 (by decide)).symm; exact (own_sbn f1 f2 2 (by decide)).symm; exact (own_sbn f1 f2 3 (by decide)).symm; exact (own_sbn f1 f2 4 (by decide)).symm)⟩
theorem d6_0 : decode method_3_code 0 = .ok (.lload_n 0, 1) := by decide +kernel
theorem d6_1 : decode method_3_code 1 = .ok (.lconst 0, 1) := by decide +kernel
theorem d6_2 : decode method_3_code 2 = .ok (.lcmp, 1) := by decide +kernel
theorem d6_3 : decode method_3_code 3 = .ok (.ifCond .lt 27, 3) := by decide +kernel
theorem d6_6 : decode method_3_code 6 = .ok (.lload_n 0, 1) := by decide +kernel
theorem d6_7 : decode method_3_code 7 = .ok (.ldc2_w 9, 3) := by decide +kernel
theorem d6_10 : decode method_3_code 10 = .ok (.lcmp, 1) := by decide +kernel
theorem d6_11 : decode method_3_code 11 = .ok (.ifCond .ge 19, 3) := by decide +kernel
theorem d6_14 : decode method_3_code 14 = .ok (.lload_n 0, 1) := by decide +kernel
theorem d6_15 : decode method_3_code 15 = .ok (.lload_n 2, 1) := by decide +kernel
theorem d6_16 : decode method_3_code 16 = .ok (.lsub, 1) := by decide +kernel
theorem d6_17 : decode method_3_code 17 = .ok (.lload 4, 2) := by decide +kernel
theorem d6_19 : decode method_3_code 19 = .ok (.ladd, 1) := by decide +kernel
theorem d6_20 : decode method_3_code 20 = .ok (.lload 6, 2) := by decide +kernel
theorem d6_22 : decode method_3_code 22 = .ok (.lcmp, 1) := by decide +kernel
theorem d6_23 : decode method_3_code 23 = .ok (.ifCond .ne 7, 3) := by decide +kernel
theorem d6_26 : decode method_3_code 26 = .ok (.iconst 1, 1) := by decide +kernel
theorem d6_27 : decode method_3_code 27 = .ok (.goto 4, 3) := by decide +kernel
theorem d6_30 : decode method_3_code 30 = .ok (.iconst 0, 1) := by decide +kernel
theorem d6_31 : decode method_3_code 31 = .ok (.ireturn, 1) := by decide +kernel
theorem own_pn_6 : plainName "com/example/quietwire/quietwire/Field25519SubtractPinLaw" = true := by first | (simp [plainName, overriddenIn]; done) | decide +kernel
theorem own_ef_6 (m : MethodId) (q1 : Int64) (q2 : Int64) (q3 : Int64) (q4 : Int64) : entryFrame m #[(.long q1), (.long q2), (.long q3), (.long q4)] 8 = mkF m 0 #[.val (.long q1), .second, .val (.long q2), .second, .val (.long q3), .second, .val (.long q4), .second] [] := by first | (simp [entryFrame, mkF, argsToLocals, Value.category]; done) | rfl
abbrev own_R6 : Room := { frames := 0, cells := 0, slots := 0, locals := 0 }
def own_Q6 (Z : State) (q1 : Int64) (q2 : Int64) (q3 : Int64) (q4 : Int64) (h0 : Heap) (n0 : Nat) (v : Option Value) (h : Heap) (L : List Loc) : Prop := ∃ r : Int32, v = some (.int r) ∧ own_B r (0 ≤ q1.toInt ∧ q1.toInt < 18014398509481984 ∧ ((q1 - q2) + q3).toInt = q4.toInt) ∧ Fr n0 L ∧ h = h0
set_option maxRecDepth 65536 in
set_option maxHeartbeats 40000000 in
theorem rm6 (l : Launch) (Z : State) (a0 : Array Value) (hw : ∀ d ∈ tables_1, d.before a0 Z = true) (ws : List Jvm.Cond) (q1 : Int64) (q2 : Int64) (q3 : Int64) (q4 : Int64) (h0 : Heap) (n0 : Nat) (Z0 : n0 ≤ h0.size) :
    MetFree l (⟨"com/example/quietwire/quietwire/Field25519SubtractPinLaw", "ok", "(JJJJ)Z"⟩ : MethodName) (head1 (Jvm.Cond.code (⟨"com/example/quietwire/quietwire/Field25519SubtractPinLaw", "ok", "(JJJJ)Z"⟩ : MethodName) method_3_code 8 (some .boolean) :: ws) own_R6) (fun a U => a = #[(.long q1), (.long q2), (.long q3), (.long q4)] ∧ Z.Warmed39 U.vm ∧ U.heap = h0) (fun _ _ _ _ _ => True) (fun _ U o U' => ∃ v L, o = .returned v ∧ own_Q6 Z q1 q2 q3 q4 h0 n0 v U'.heap L ∧ FrameEnd U o U' L own_R6.cells own_R6.slots) := by
  refine MetFree.of_bodySF (plainFor_of_name own_pn_6) hisR ?_
  intro p e s m args below meth c s₁ Bd hml0 hP hK
  obtain ⟨rfl, hZ, hh⟩ := hP
  have hx := Bd.exec
  have hby := Bd.bytes
  have hlk := BodyLoose.notSynchronized Bd
  have hml : c.maxLocals = 8 := hml0
  have hown : s.vm.findClass "com/example/quietwire/quietwire/Field25519SubtractPinLaw" = some m.cls := (findClass_of_methodNamed Bd.named : s.vm.findClass (⟨"com/example/quietwire/quietwire/Field25519SubtractPinLaw", "ok", "(JJJJ)Z"⟩ : MethodName).cls = some m.cls)
  have hnm := (name_of_methodNamed Bd.named Bd.method).1
  have X0 : Stand p l e own_R6 s m #[(.long q1), (.long q2), (.long q3), (.long q4)] below meth c s₁ [] 0 0 := Stand.of_body Bd
  have e0 : s₁.heap = h0 := by rw [← hh, Bd.state]; rfl
  have Nf := Fr.nil n0
  have Zs := Z0
  show own_Fin p e below s (own_Q6 Z q1 q2 q3 q4 h0 n0) 0 0 s₁ (entryFrame m #[(.long q1), (.long q2), (.long q3), (.long q4)] 8)
  rw [own_ef_6 m q1 q2 q3 q4]
  show own_Fin _ _ _ _ _ _ _ _ (mkF m 0 #[.val (.long q1), .second, .val (.long q2), .second, .val (.long q3), .second, .val (.long q4), .second] [])
  refine own_step (fun t k => XS.lloadN X0.here hx rfl (hb hby d6_0) rfl k) ?_
  show own_Fin _ _ _ _ _ _ _ _ (mkF m 1 #[.val (.long q1), .second, .val (.long q2), .second, .val (.long q3), .second, .val (.long q4), .second] [(.long q1)])
  refine own_step (fun t k => XS.lconst X0.here hx rfl (hb hby d6_1) k) ?_
  show own_Fin _ _ _ _ _ _ _ _ (mkF m 2 #[.val (.long q1), .second, .val (.long q2), .second, .val (.long q3), .second, .val (.long q4), .second] [(.long (0 : Int64)), (.long q1)])
  refine own_step (fun t k => XS.lcmp X0.here hx rfl (hb hby d6_2) rfl k) ?_
  show own_Fin _ _ _ _ _ _ _ _ (mkF m 3 #[.val (.long q1), .second, .val (.long q2), .second, .val (.long q3), .second, .val (.long q4), .second] [(.int (lcmpW q1 (0 : Int64)))])
  by_cases hc1 : (q1).toInt < 0
  · skip
    refine own_step (fun t k => XS.ifYes X0.here hx rfl (pc0 := 3) (pc' := 30) rfl (hb hby d6_3) rfl (own_ll (x := q1) (y := (0 : Int64)) rfl rfl hc1).1 (by decide) (by decide) k) ?_
    show own_Fin _ _ _ _ _ _ _ _ (mkF m 30 #[.val (.long q1), .second, .val (.long q2), .second, .val (.long q3), .second, .val (.long q4), .second] [])
    refine own_step (fun t k => XS.iconst X0.here hx rfl (hb hby d6_30) k) ?_
    show own_Fin _ _ _ _ _ _ _ _ (mkF m 31 #[.val (.long q1), .second, .val (.long q2), .second, .val (.long q3), .second, .val (.long q4), .second] [(.int (0 : Int32))])
    refine own_retZ X0 hx hlk Bd.returns (hb hby d6_31) (z' := (0 : Int32)) (by decide) (by decide) (by decide) e0 ?_
    exact ⟨_, rfl, own_B0 (by omega), Nf, rfl⟩
  · skip
    refine own_step (fun t k => XS.ifNo X0.here hx rfl (hb hby d6_3) rfl (own_ln (x := q1) (y := (0 : Int64)) rfl rfl hc1).1 k) ?_
    show own_Fin _ _ _ _ _ _ _ _ (mkF m 6 #[.val (.long q1), .second, .val (.long q2), .second, .val (.long q3), .second, .val (.long q4), .second] [])
    refine own_step (fun t k => XS.lloadN X0.here hx rfl (hb hby d6_6) rfl k) ?_
    show own_Fin _ _ _ _ _ _ _ _ (mkF m 7 #[.val (.long q1), .second, .val (.long q2), .second, .val (.long q3), .second, .val (.long q4), .second] [(.long q1)])
    refine own_step (fun t k => X0.ldc2Long hx hown (mvT hZ (hw _ (List.mem_of_getElem? (i := 17) rfl))) (g := (mkF m 7 #[.val (.long q1), .second, .val (.long q2), .second, .val (.long q3), .second, .val (.long q4), .second] [(.long q1)])) rfl (hb hby d6_7) _ k) ?_
    show own_Fin _ _ _ _ _ _ _ _ (mkF m 10 #[.val (.long q1), .second, .val (.long q2), .second, .val (.long q3), .second, .val (.long q4), .second] [(.long (18014398509481984 : Int64)), (.long q1)])
    refine own_step (fun t k => XS.lcmp X0.here hx rfl (hb hby d6_10) rfl k) ?_
    show own_Fin _ _ _ _ _ _ _ _ (mkF m 11 #[.val (.long q1), .second, .val (.long q2), .second, .val (.long q3), .second, .val (.long q4), .second] [(.int (lcmpW q1 (18014398509481984 : Int64)))])
    by_cases hc2 : (q1).toInt < 18014398509481984
    · skip
      refine own_step (fun t k => XS.ifNo X0.here hx rfl (hb hby d6_11) rfl (own_ll (x := q1) (y := (18014398509481984 : Int64)) rfl rfl hc2).2.1 k) ?_
      show own_Fin _ _ _ _ _ _ _ _ (mkF m 14 #[.val (.long q1), .second, .val (.long q2), .second, .val (.long q3), .second, .val (.long q4), .second] [])
      refine own_step (fun t k => XS.lloadN X0.here hx rfl (hb hby d6_14) rfl k) ?_
      show own_Fin _ _ _ _ _ _ _ _ (mkF m 15 #[.val (.long q1), .second, .val (.long q2), .second, .val (.long q3), .second, .val (.long q4), .second] [(.long q1)])
      refine own_step (fun t k => XS.lloadN X0.here hx rfl (hb hby d6_15) rfl k) ?_
      show own_Fin _ _ _ _ _ _ _ _ (mkF m 16 #[.val (.long q1), .second, .val (.long q2), .second, .val (.long q3), .second, .val (.long q4), .second] [(.long q2), (.long q1)])
      refine own_step (fun t k => XS.lsub X0.here hx rfl (hb hby d6_16) rfl k) ?_
      show own_Fin _ _ _ _ _ _ _ _ (mkF m 17 #[.val (.long q1), .second, .val (.long q2), .second, .val (.long q3), .second, .val (.long q4), .second] [(.long (q1 - q2))])
      refine own_step (fun t k => XS.lload X0.here hx rfl (hb hby d6_17) rfl k) ?_
      show own_Fin _ _ _ _ _ _ _ _ (mkF m 19 #[.val (.long q1), .second, .val (.long q2), .second, .val (.long q3), .second, .val (.long q4), .second] [(.long q3), (.long (q1 - q2))])
      refine own_step (fun t k => XS.ladd X0.here hx rfl (hb hby d6_19) rfl k) ?_
      show own_Fin _ _ _ _ _ _ _ _ (mkF m 20 #[.val (.long q1), .second, .val (.long q2), .second, .val (.long q3), .second, .val (.long q4), .second] [(.long ((q1 - q2) + q3))])
      refine own_step (fun t k => XS.lload X0.here hx rfl (hb hby d6_20) rfl k) ?_
      show own_Fin _ _ _ _ _ _ _ _ (mkF m 22 #[.val (.long q1), .second, .val (.long q2), .second, .val (.long q3), .second, .val (.long q4), .second] [(.long q4), (.long ((q1 - q2) + q3))])
      refine own_step (fun t k => XS.lcmp X0.here hx rfl (hb hby d6_22) rfl k) ?_
      show own_Fin _ _ _ _ _ _ _ _ (mkF m 23 #[.val (.long q1), .second, .val (.long q2), .second, .val (.long q3), .second, .val (.long q4), .second] [(.int (lcmpW ((q1 - q2) + q3) q4))])
      by_cases hc3 : (((q1 - q2) + q3)).toInt = (q4).toInt
      · skip
        refine own_step (fun t k => XS.ifNo X0.here hx rfl (hb hby d6_23) rfl (own_le (x := ((q1 - q2) + q3)) (y := q4) rfl rfl hc3).2 k) ?_
        show own_Fin _ _ _ _ _ _ _ _ (mkF m 26 #[.val (.long q1), .second, .val (.long q2), .second, .val (.long q3), .second, .val (.long q4), .second] [])
        refine own_step (fun t k => XS.iconst X0.here hx rfl (hb hby d6_26) k) ?_
        show own_Fin _ _ _ _ _ _ _ _ (mkF m 27 #[.val (.long q1), .second, .val (.long q2), .second, .val (.long q3), .second, .val (.long q4), .second] [(.int (1 : Int32))])
        refine own_step (fun t k => XS.goto X0.here hx rfl (pc0 := 27) (pc' := 31) rfl (hb hby d6_27) (by decide) (by decide) k) ?_
        show own_Fin _ _ _ _ _ _ _ _ (mkF m 31 #[.val (.long q1), .second, .val (.long q2), .second, .val (.long q3), .second, .val (.long q4), .second] [(.int (1 : Int32))])
        refine own_retZ X0 hx hlk Bd.returns (hb hby d6_31) (z' := (1 : Int32)) (by decide) (by decide) (by decide) e0 ?_
        exact ⟨_, rfl, own_B1 (by omega), Nf, rfl⟩
      · skip
        refine own_step (fun t k => XS.ifYes X0.here hx rfl (pc0 := 23) (pc' := 30) rfl (hb hby d6_23) rfl (own_lu (x := ((q1 - q2) + q3)) (y := q4) rfl rfl hc3).2 (by decide) (by decide) k) ?_
        show own_Fin _ _ _ _ _ _ _ _ (mkF m 30 #[.val (.long q1), .second, .val (.long q2), .second, .val (.long q3), .second, .val (.long q4), .second] [])
        refine own_step (fun t k => XS.iconst X0.here hx rfl (hb hby d6_30) k) ?_
        show own_Fin _ _ _ _ _ _ _ _ (mkF m 31 #[.val (.long q1), .second, .val (.long q2), .second, .val (.long q3), .second, .val (.long q4), .second] [(.int (0 : Int32))])
        refine own_retZ X0 hx hlk Bd.returns (hb hby d6_31) (z' := (0 : Int32)) (by decide) (by decide) (by decide) e0 ?_
        exact ⟨_, rfl, own_B0 (by omega), Nf, rfl⟩
    · skip
      refine own_step (fun t k => XS.ifYes X0.here hx rfl (pc0 := 11) (pc' := 30) rfl (hb hby d6_11) rfl (own_ln (x := q1) (y := (18014398509481984 : Int64)) rfl rfl hc2).2.1 (by decide) (by decide) k) ?_
      show own_Fin _ _ _ _ _ _ _ _ (mkF m 30 #[.val (.long q1), .second, .val (.long q2), .second, .val (.long q3), .second, .val (.long q4), .second] [])
      refine own_step (fun t k => XS.iconst X0.here hx rfl (hb hby d6_30) k) ?_
      show own_Fin _ _ _ _ _ _ _ _ (mkF m 31 #[.val (.long q1), .second, .val (.long q2), .second, .val (.long q3), .second, .val (.long q4), .second] [(.int (0 : Int32))])
      refine own_retZ X0 hx hlk Bd.returns (hb hby d6_31) (z' := (0 : Int32)) (by decide) (by decide) (by decide) e0 ?_
      exact ⟨_, rfl, own_B0 (by omega), Nf, rfl⟩
theorem own_pd_0 : parseMethodDescriptor "(J)J" = some ⟨[.long], some .long⟩ := by decide +kernel
theorem own_pd_1 : parseMethodDescriptor "([J[J[J)V" = some ⟨[(.array .long), (.array .long), (.array .long)], none⟩ := by decide +kernel
theorem own_pd_2 : parseMethodDescriptor "(JJJJ)Z" = some ⟨[.long, .long, .long, .long], some .boolean⟩ := by decide +kernel
theorem own_pn_0 : plainName "com/example/quietwire/quietwire/Field25519SubtractPinLaw" = true := by first | (simp [plainName, overriddenIn]; done) | decide +kernel
theorem own_ef_0 (m : MethodId) (q1 : Int64) (q2 : Int64) (q3 : Int64) (q4 : Int64) (q5 : Int64) (q6 : Int64) : entryFrame m #[(.long q1), (.long q2), (.long q3), (.long q4), (.long q5), (.long q6)] maxLocals = mkF m 0 #[.val (.long q1), .second, .val (.long q2), .second, .val (.long q3), .second, .val (.long q4), .second, .val (.long q5), .second, .val (.long q6), .second, .unset, .unset, .unset, .unset, .unset, .unset, .unset, .unset, .unset, .unset, .unset, .unset, .unset, .unset, .unset, .unset, .unset, .unset, .unset, .unset, .unset, .unset, .unset, .unset, .unset, .unset, .unset, .unset] [] := by first | (simp [entryFrame, mkF, argsToLocals, Value.category, maxLocals]; done) | rfl
def own_Q0 (Z : State) (q1 : Int64) (q2 : Int64) (q3 : Int64) (q4 : Int64) (q5 : Int64) (q6 : Int64) (h0 : Heap) (n0 : Nat) (v : Option Value) (h : Heap) (L : List Loc) : Prop := v = some (.int 1) ∧ Fr n0 L
set_option maxRecDepth 65536 in
set_option maxHeartbeats 40000000 in
theorem rm0 (l : Launch) (Z : State) (a0 : Array Value) (hw : ∀ d ∈ tables_1, d.before a0 Z = true) (ws : List Jvm.Cond) (q1 : Int64) (q2 : Int64) (q3 : Int64) (q4 : Int64) (q5 : Int64) (q6 : Int64) (h0 : Heap) (n0 : Nat) (Z0 : n0 ≤ h0.size) :
    MetFree l x (head1 (Jvm.Cond.code x code maxLocals ret :: ws) room_1) (fun a U => a = #[(.long q1), (.long q2), (.long q3), (.long q4), (.long q5), (.long q6)] ∧ Z.Warmed39 U.vm ∧ U.heap = h0) (fun _ _ _ _ _ => True) (fun _ U o U' => ∃ v L, o = .returned v ∧ own_Q0 Z q1 q2 q3 q4 q5 q6 h0 n0 v U'.heap L ∧ FrameEnd U o U' L 16 128) := by
  refine MetFree.of_bodySF (plainFor_of_name own_pn_0) hisR ?_
  intro p e s m args below meth c s₁ Bd hml0 hP hK
  obtain ⟨rfl, hZ, hh⟩ := hP
  have hx := Bd.exec
  have hby := Bd.bytes
  have hlk := BodyLoose.notSynchronized Bd
  have hml : c.maxLocals = 40 := hml0
  have hown : s.vm.findClass "com/example/quietwire/quietwire/Field25519SubtractPinLaw" = some m.cls := (findClass_of_methodNamed Bd.named : s.vm.findClass x.cls = some m.cls)
  have hnm := (name_of_methodNamed Bd.named Bd.method).1
  have X0 : Stand p l e room_1 s m #[(.long q1), (.long q2), (.long q3), (.long q4), (.long q5), (.long q6)] below meth c s₁ [] 0 0 := Stand.of_body Bd
  have e0 : s₁.heap = h0 := by rw [← hh, Bd.state]; rfl
  have Nf := Fr.nil n0
  have Zs := Z0
  show own_Fin p e below s (own_Q0 Z q1 q2 q3 q4 q5 q6 h0 n0) 16 128 s₁ (entryFrame m #[(.long q1), (.long q2), (.long q3), (.long q4), (.long q5), (.long q6)] maxLocals)
  rw [own_ef_0 m q1 q2 q3 q4 q5 q6]
  show own_Fin _ _ _ _ _ _ _ _ (mkF m 0 #[.val (.long q1), .second, .val (.long q2), .second, .val (.long q3), .second, .val (.long q4), .second, .val (.long q5), .second, .val (.long q6), .second, .unset, .unset, .unset, .unset, .unset, .unset, .unset, .unset, .unset, .unset, .unset, .unset, .unset, .unset, .unset, .unset, .unset, .unset, .unset, .unset, .unset, .unset, .unset, .unset, .unset, .unset, .unset, .unset] [])
  obtain ⟨Ls1, hLs1⟩ : ∃ z : Array Slot, z = #[.val (.long q1), .second, .val (.long q2), .second, .val (.long q3), .second, .val (.long q4), .second, .val (.long q5), .second, .val (.long q6), .second, .unset, .unset, .unset, .unset, .unset, .unset, .unset, .unset, .unset, .unset, .unset, .unset, .unset, .unset, .unset, .unset, .unset, .unset, .unset, .unset, .unset, .unset, .unset, .unset, .unset, .unset, .unset, .unset] := ⟨_, rfl⟩
  rw [← hLs1]
  refine own_step (fun t k => XS.iconst X0.here hx rfl (hb hby at_0) k) ?_
  show own_Fin _ _ _ _ _ _ _ _ (mkF m 1 Ls1 [(.int (5 : Int32))])
  obtain ⟨T2, h2, k2, X2, e2, E2, A2, st2⟩ := newP X0 hx hZ (hw _ (List.mem_of_getElem? (i := 0) rfl)) e0 (g := (mkF m 1 Ls1 [(.int (5 : Int32))])) rfl (hb hby at_1) rfl (by decide) (cap := 5) (by decide) (by decide) (by decide) (by decide)
  obtain ⟨b2, g2⟩ : ∃ z, z = h0.size := ⟨_, rfl⟩
  rw [← g2] at A2 st2
  refine own_step st2 ?_
  have g_b2 : n0 ≤ b2 := Nat.le_trans Zs (Nat.le_of_eq g2.symm)
  replace Zs := Nat.le_trans Zs E2.1
  have V_b2 := own_AJ.new (n := 5) A2 (by decide)
  show own_Fin _ _ _ _ _ _ _ _ (mkF m 3 Ls1 [(.ref b2)])
  refine own_step (fun t k => XS.dup X2.here hx rfl (hb hby at_3) rfl rfl k) ?_
  show own_Fin _ _ _ _ _ _ _ _ (mkF m 4 Ls1 [(.ref b2), (.ref b2)])
  refine own_step (fun t k => XS.iconst X2.here hx rfl (hb hby at_4) k) ?_
  show own_Fin _ _ _ _ _ _ _ _ (mkF m 5 Ls1 [(.int (0 : Int32)), (.ref b2), (.ref b2)])
  refine own_step (fun t k => XS.lloadN (v := q1) X2.here hx rfl (hb hby at_5) (by rw [hLs1]; rfl) k) ?_
  show own_Fin _ _ _ _ _ _ _ _ (mkF m 6 Ls1 [(.long q1), (.int (0 : Int32)), (.ref b2), (.ref b2)])
  obtain ⟨_, _, ⟨T3, L3, k3, n3⟩, -, X3, ⟨Lc3, hQ3, l3, y3, z3⟩, st3⟩ := Jvm.LawKit.callS X2 hx (y := (⟨"com/example/quietwire/quietwire/Field25519SubtractPinLaw", "limb", "(J)J"⟩ : MethodName)) hown (mvT hZ (hw _ (List.mem_of_getElem? (i := 1) rfl))) (mvT hZ (hw _ (List.mem_of_getElem? (i := 2) rfl))) (mvT hZ (hw _ (List.mem_of_getElem? (i := 3) rfl))) (mvT hZ (hw _ (List.mem_of_getElem? (i := 4) rfl))) (by decide) (backOf (W := 3) (rm1 l Z a0 hw [] q1 h2 n0 Zs) hZ (hw _ (List.mem_of_getElem? (i := 4) rfl)) (hw _ (List.mem_of_getElem? (i := 3) rfl)) (by decide) (by decide)) (g := (mkF m 6 Ls1 [(.long q1), (.int (0 : Int32)), (.ref b2), (.ref b2)])) rfl (by rw [hml]; show Array.size Ls1 = _; rw [hLs1]; rfl) (argsL := [(.long q1)]) (rest := [(.int (0 : Int32)), (.ref b2), (.ref b2)]) (lenOf own_pd_0 rfl) rfl (by show 2 * 0 + _ ≤ _; exact Nat.le_of_eq rfl) (hb hby at_6) (fun _ _ => ⟨rfl, e2, (by decide : 1 + 0 ≤ _), (by decide : 5 + 0 ≤ _)⟩)
  dsimp only [Pt.U, Pt.locs, Pt.cells, Pt.slots] at X3 l3 y3 z3 st3 hQ3
  rw [l3, y3, z3] at X3
  obtain ⟨r3, rfl, hR3, Nq3, hh3⟩ := hQ3
  replace Nf := Fr.app Nf Nq3
  refine own_step st3 ?_
  show own_Fin _ _ _ _ _ _ _ _ (mkF m 9 Ls1 [(.long r3), (.int (0 : Int32)), (.ref b2), (.ref b2)])
  obtain ⟨T4, h4, X4, e4, W4, B4, st4⟩ := own_lastore X3 hx hZ hh3 V_b2 (j := (0 : Int32)) (k := 0) rfl (by decide) (x := r3) (pc := 9) (Ls := Ls1) (rest := [(.ref b2)]) (hb hby at_9) rfl
  refine own_step st4 ?_
  replace Zs : n0 ≤ h4.size := by rw [W4.size]; exact Zs
  replace V_b2 := B4
  replace Nf := Fr.snoc X4 Nf g_b2
  show own_Fin _ _ _ _ _ _ _ _ (mkF m 10 Ls1 [(.ref b2)])
  refine own_step (fun t k => XS.dup X4.here hx rfl (hb hby at_10) rfl rfl k) ?_
  show own_Fin _ _ _ _ _ _ _ _ (mkF m 11 Ls1 [(.ref b2), (.ref b2)])
  refine own_step (fun t k => XS.iconst X4.here hx rfl (hb hby at_11) k) ?_
  show own_Fin _ _ _ _ _ _ _ _ (mkF m 12 Ls1 [(.int (1 : Int32)), (.ref b2), (.ref b2)])
  refine own_step (fun t k => XS.lloadN (v := q2) X4.here hx rfl (hb hby at_12) (by rw [hLs1]; rfl) k) ?_
  show own_Fin _ _ _ _ _ _ _ _ (mkF m 13 Ls1 [(.long q2), (.int (1 : Int32)), (.ref b2), (.ref b2)])
  obtain ⟨_, _, ⟨T5, L5, k5, n5⟩, -, X5, ⟨Lc5, hQ5, l5, y5, z5⟩, st5⟩ := Jvm.LawKit.callS X4 hx (y := (⟨"com/example/quietwire/quietwire/Field25519SubtractPinLaw", "limb", "(J)J"⟩ : MethodName)) hown (mvT hZ (hw _ (List.mem_of_getElem? (i := 1) rfl))) (mvT hZ (hw _ (List.mem_of_getElem? (i := 2) rfl))) (mvT hZ (hw _ (List.mem_of_getElem? (i := 3) rfl))) (mvT hZ (hw _ (List.mem_of_getElem? (i := 4) rfl))) (by decide) (backOf (W := 3) (rm1 l Z a0 hw [] q2 h4 n0 Zs) hZ (hw _ (List.mem_of_getElem? (i := 4) rfl)) (hw _ (List.mem_of_getElem? (i := 3) rfl)) (by decide) (by decide)) (g := (mkF m 13 Ls1 [(.long q2), (.int (1 : Int32)), (.ref b2), (.ref b2)])) rfl (by rw [hml]; show Array.size Ls1 = _; rw [hLs1]; rfl) (argsL := [(.long q2)]) (rest := [(.int (1 : Int32)), (.ref b2), (.ref b2)]) (lenOf own_pd_0 rfl) rfl (by show 2 * 0 + _ ≤ _; exact Nat.le_of_eq rfl) (hb hby at_13) (fun _ _ => ⟨rfl, e4, (by decide : 1 + 0 ≤ _), (by decide : 5 + 0 ≤ _)⟩)
  dsimp only [Pt.U, Pt.locs, Pt.cells, Pt.slots] at X5 l5 y5 z5 st5 hQ5
  rw [l5, y5, z5] at X5
  obtain ⟨r5, rfl, hR5, Nq5, hh5⟩ := hQ5
  replace Nf := Fr.app Nf Nq5
  refine own_step st5 ?_
  show own_Fin _ _ _ _ _ _ _ _ (mkF m 16 Ls1 [(.long r5), (.int (1 : Int32)), (.ref b2), (.ref b2)])
  obtain ⟨T6, h6, X6, e6, W6, B6, st6⟩ := own_lastore X5 hx hZ hh5 V_b2 (j := (1 : Int32)) (k := 1) rfl (by decide) (x := r5) (pc := 16) (Ls := Ls1) (rest := [(.ref b2)]) (hb hby at_16) rfl
  refine own_step st6 ?_
  replace Zs : n0 ≤ h6.size := by rw [W6.size]; exact Zs
  replace V_b2 := B6
  replace Nf := Fr.snoc X6 Nf g_b2
  show own_Fin _ _ _ _ _ _ _ _ (mkF m 17 Ls1 [(.ref b2)])
  refine own_step (fun t k => XS.dup X6.here hx rfl (hb hby at_17) rfl rfl k) ?_
  show own_Fin _ _ _ _ _ _ _ _ (mkF m 18 Ls1 [(.ref b2), (.ref b2)])
  refine own_step (fun t k => XS.iconst X6.here hx rfl (hb hby at_18) k) ?_
  show own_Fin _ _ _ _ _ _ _ _ (mkF m 19 Ls1 [(.int (2 : Int32)), (.ref b2), (.ref b2)])
  refine own_step (fun t k => XS.lload (v := q3) X6.here hx rfl (hb hby at_19) (by rw [hLs1]; rfl) k) ?_
  show own_Fin _ _ _ _ _ _ _ _ (mkF m 21 Ls1 [(.long q3), (.int (2 : Int32)), (.ref b2), (.ref b2)])
  obtain ⟨_, _, ⟨T7, L7, k7, n7⟩, -, X7, ⟨Lc7, hQ7, l7, y7, z7⟩, st7⟩ := Jvm.LawKit.callS X6 hx (y := (⟨"com/example/quietwire/quietwire/Field25519SubtractPinLaw", "limb", "(J)J"⟩ : MethodName)) hown (mvT hZ (hw _ (List.mem_of_getElem? (i := 1) rfl))) (mvT hZ (hw _ (List.mem_of_getElem? (i := 2) rfl))) (mvT hZ (hw _ (List.mem_of_getElem? (i := 3) rfl))) (mvT hZ (hw _ (List.mem_of_getElem? (i := 4) rfl))) (by decide) (backOf (W := 3) (rm1 l Z a0 hw [] q3 h6 n0 Zs) hZ (hw _ (List.mem_of_getElem? (i := 4) rfl)) (hw _ (List.mem_of_getElem? (i := 3) rfl)) (by decide) (by decide)) (g := (mkF m 21 Ls1 [(.long q3), (.int (2 : Int32)), (.ref b2), (.ref b2)])) rfl (by rw [hml]; show Array.size Ls1 = _; rw [hLs1]; rfl) (argsL := [(.long q3)]) (rest := [(.int (2 : Int32)), (.ref b2), (.ref b2)]) (lenOf own_pd_0 rfl) rfl (by show 2 * 0 + _ ≤ _; exact Nat.le_of_eq rfl) (hb hby at_21) (fun _ _ => ⟨rfl, e6, (by decide : 1 + 0 ≤ _), (by decide : 5 + 0 ≤ _)⟩)
  dsimp only [Pt.U, Pt.locs, Pt.cells, Pt.slots] at X7 l7 y7 z7 st7 hQ7
  rw [l7, y7, z7] at X7
  obtain ⟨r7, rfl, hR7, Nq7, hh7⟩ := hQ7
  replace Nf := Fr.app Nf Nq7
  refine own_step st7 ?_
  show own_Fin _ _ _ _ _ _ _ _ (mkF m 24 Ls1 [(.long r7), (.int (2 : Int32)), (.ref b2), (.ref b2)])
  obtain ⟨T8, h8, X8, e8, W8, B8, st8⟩ := own_lastore X7 hx hZ hh7 V_b2 (j := (2 : Int32)) (k := 2) rfl (by decide) (x := r7) (pc := 24) (Ls := Ls1) (rest := [(.ref b2)]) (hb hby at_24) rfl
  refine own_step st8 ?_
  replace Zs : n0 ≤ h8.size := by rw [W8.size]; exact Zs
  replace V_b2 := B8
  replace Nf := Fr.snoc X8 Nf g_b2
  show own_Fin _ _ _ _ _ _ _ _ (mkF m 25 Ls1 [(.ref b2)])
  refine own_step (fun t k => XS.dup X8.here hx rfl (hb hby at_25) rfl rfl k) ?_
  show own_Fin _ _ _ _ _ _ _ _ (mkF m 26 Ls1 [(.ref b2), (.ref b2)])
  refine own_step (fun t k => XS.iconst X8.here hx rfl (hb hby at_26) k) ?_
  show own_Fin _ _ _ _ _ _ _ _ (mkF m 27 Ls1 [(.int (3 : Int32)), (.ref b2), (.ref b2)])
  refine own_step (fun t k => XS.lload (v := q4) X8.here hx rfl (hb hby at_27) (by rw [hLs1]; rfl) k) ?_
  show own_Fin _ _ _ _ _ _ _ _ (mkF m 29 Ls1 [(.long q4), (.int (3 : Int32)), (.ref b2), (.ref b2)])
  obtain ⟨_, _, ⟨T9, L9, k9, n9⟩, -, X9, ⟨Lc9, hQ9, l9, y9, z9⟩, st9⟩ := Jvm.LawKit.callS X8 hx (y := (⟨"com/example/quietwire/quietwire/Field25519SubtractPinLaw", "limb", "(J)J"⟩ : MethodName)) hown (mvT hZ (hw _ (List.mem_of_getElem? (i := 1) rfl))) (mvT hZ (hw _ (List.mem_of_getElem? (i := 2) rfl))) (mvT hZ (hw _ (List.mem_of_getElem? (i := 3) rfl))) (mvT hZ (hw _ (List.mem_of_getElem? (i := 4) rfl))) (by decide) (backOf (W := 3) (rm1 l Z a0 hw [] q4 h8 n0 Zs) hZ (hw _ (List.mem_of_getElem? (i := 4) rfl)) (hw _ (List.mem_of_getElem? (i := 3) rfl)) (by decide) (by decide)) (g := (mkF m 29 Ls1 [(.long q4), (.int (3 : Int32)), (.ref b2), (.ref b2)])) rfl (by rw [hml]; show Array.size Ls1 = _; rw [hLs1]; rfl) (argsL := [(.long q4)]) (rest := [(.int (3 : Int32)), (.ref b2), (.ref b2)]) (lenOf own_pd_0 rfl) rfl (by show 2 * 0 + _ ≤ _; exact Nat.le_of_eq rfl) (hb hby at_29) (fun _ _ => ⟨rfl, e8, (by decide : 1 + 0 ≤ _), (by decide : 5 + 0 ≤ _)⟩)
  dsimp only [Pt.U, Pt.locs, Pt.cells, Pt.slots] at X9 l9 y9 z9 st9 hQ9
  rw [l9, y9, z9] at X9
  obtain ⟨r9, rfl, hR9, Nq9, hh9⟩ := hQ9
  replace Nf := Fr.app Nf Nq9
  refine own_step st9 ?_
  show own_Fin _ _ _ _ _ _ _ _ (mkF m 32 Ls1 [(.long r9), (.int (3 : Int32)), (.ref b2), (.ref b2)])
  obtain ⟨T10, h10, X10, e10, W10, B10, st10⟩ := own_lastore X9 hx hZ hh9 V_b2 (j := (3 : Int32)) (k := 3) rfl (by decide) (x := r9) (pc := 32) (Ls := Ls1) (rest := [(.ref b2)]) (hb hby at_32) rfl
  refine own_step st10 ?_
  replace Zs : n0 ≤ h10.size := by rw [W10.size]; exact Zs
  replace V_b2 := B10
  replace Nf := Fr.snoc X10 Nf g_b2
  show own_Fin _ _ _ _ _ _ _ _ (mkF m 33 Ls1 [(.ref b2)])
  refine own_step (fun t k => XS.dup X10.here hx rfl (hb hby at_33) rfl rfl k) ?_
  show own_Fin _ _ _ _ _ _ _ _ (mkF m 34 Ls1 [(.ref b2), (.ref b2)])
  refine own_step (fun t k => XS.iconst X10.here hx rfl (hb hby at_34) k) ?_
  show own_Fin _ _ _ _ _ _ _ _ (mkF m 35 Ls1 [(.int (4 : Int32)), (.ref b2), (.ref b2)])
  refine own_step (fun t k => XS.lload (v := q5) X10.here hx rfl (hb hby at_35) (by rw [hLs1]; rfl) k) ?_
  show own_Fin _ _ _ _ _ _ _ _ (mkF m 37 Ls1 [(.long q5), (.int (4 : Int32)), (.ref b2), (.ref b2)])
  obtain ⟨_, _, ⟨T11, L11, k11, n11⟩, -, X11, ⟨Lc11, hQ11, l11, y11, z11⟩, st11⟩ := Jvm.LawKit.callS X10 hx (y := (⟨"com/example/quietwire/quietwire/Field25519SubtractPinLaw", "limb", "(J)J"⟩ : MethodName)) hown (mvT hZ (hw _ (List.mem_of_getElem? (i := 1) rfl))) (mvT hZ (hw _ (List.mem_of_getElem? (i := 2) rfl))) (mvT hZ (hw _ (List.mem_of_getElem? (i := 3) rfl))) (mvT hZ (hw _ (List.mem_of_getElem? (i := 4) rfl))) (by decide) (backOf (W := 3) (rm1 l Z a0 hw [] q5 h10 n0 Zs) hZ (hw _ (List.mem_of_getElem? (i := 4) rfl)) (hw _ (List.mem_of_getElem? (i := 3) rfl)) (by decide) (by decide)) (g := (mkF m 37 Ls1 [(.long q5), (.int (4 : Int32)), (.ref b2), (.ref b2)])) rfl (by rw [hml]; show Array.size Ls1 = _; rw [hLs1]; rfl) (argsL := [(.long q5)]) (rest := [(.int (4 : Int32)), (.ref b2), (.ref b2)]) (lenOf own_pd_0 rfl) rfl (by show 2 * 0 + _ ≤ _; exact Nat.le_of_eq rfl) (hb hby at_37) (fun _ _ => ⟨rfl, e10, (by decide : 1 + 0 ≤ _), (by decide : 5 + 0 ≤ _)⟩)
  dsimp only [Pt.U, Pt.locs, Pt.cells, Pt.slots] at X11 l11 y11 z11 st11 hQ11
  rw [l11, y11, z11] at X11
  obtain ⟨r11, rfl, hR11, Nq11, hh11⟩ := hQ11
  replace Nf := Fr.app Nf Nq11
  refine own_step st11 ?_
  show own_Fin _ _ _ _ _ _ _ _ (mkF m 40 Ls1 [(.long r11), (.int (4 : Int32)), (.ref b2), (.ref b2)])
  obtain ⟨T12, h12, X12, e12, W12, B12, st12⟩ := own_lastore X11 hx hZ hh11 V_b2 (j := (4 : Int32)) (k := 4) rfl (by decide) (x := r11) (pc := 40) (Ls := Ls1) (rest := [(.ref b2)]) (hb hby at_40) rfl
  refine own_step st12 ?_
  replace Zs : n0 ≤ h12.size := by rw [W12.size]; exact Zs
  replace V_b2 := B12
  replace Nf := Fr.snoc X12 Nf g_b2
  show own_Fin _ _ _ _ _ _ _ _ (mkF m 41 Ls1 [(.ref b2)])
  obtain ⟨Ls13, hLs13⟩ : ∃ z : Array Slot, z = #[.val (.long q1), .second, .val (.long q2), .second, .val (.long q3), .second, .val (.long q4), .second, .val (.long q5), .second, .val (.long q6), .second, .val (.ref b2), .unset, .unset, .unset, .unset, .unset, .unset, .unset, .unset, .unset, .unset, .unset, .unset, .unset, .unset, .unset, .unset, .unset, .unset, .unset, .unset, .unset, .unset, .unset, .unset, .unset, .unset, .unset] := ⟨_, rfl⟩
  refine own_step (fun t k => XS.astore X12.here hx rfl (hb hby at_41) rfl rfl (l' := Ls13) (by rw [hLs1, hLs13]; rfl) k) ?_
  show own_Fin _ _ _ _ _ _ _ _ (mkF m 43 Ls13 [])
  refine own_step (fun t k => XS.iconst X12.here hx rfl (hb hby at_43) k) ?_
  show own_Fin _ _ _ _ _ _ _ _ (mkF m 44 Ls13 [(.int (5 : Int32))])
  obtain ⟨T14, h14, k14, X14, e14, E14, A14, st14⟩ := newP X12 hx hZ (hw _ (List.mem_of_getElem? (i := 0) rfl)) e12 (g := (mkF m 44 Ls13 [(.int (5 : Int32))])) rfl (hb hby at_44) rfl (by decide) (cap := 5) (by decide) (by decide) (by decide) (by decide)
  obtain ⟨b14, g14⟩ : ∃ z, z = h12.size := ⟨_, rfl⟩
  rw [← g14] at A14 st14
  refine own_step st14 ?_
  have ne_b2_b14 : b2 ≠ b14 := Nat.ne_of_lt (Nat.lt_of_lt_of_le V_b2.lt (Nat.le_of_eq g14.symm))
  have g_b14 : n0 ≤ b14 := Nat.le_trans Zs (Nat.le_of_eq g14.symm)
  replace V_b2 := V_b2.ext E14
  replace Zs := Nat.le_trans Zs E14.1
  have V_b14 := own_AJ.new (n := 5) A14 (by decide)
  show own_Fin _ _ _ _ _ _ _ _ (mkF m 46 Ls13 [(.ref b14)])
  refine own_step (fun t k => XS.dup X14.here hx rfl (hb hby at_46) rfl rfl k) ?_
  show own_Fin _ _ _ _ _ _ _ _ (mkF m 47 Ls13 [(.ref b14), (.ref b14)])
  refine own_step (fun t k => XS.iconst X14.here hx rfl (hb hby at_47) k) ?_
  show own_Fin _ _ _ _ _ _ _ _ (mkF m 48 Ls13 [(.int (0 : Int32)), (.ref b14), (.ref b14)])
  refine own_step (fun t k => XS.lloadN (v := q2) X14.here hx rfl (hb hby at_48) (by rw [hLs13]; rfl) k) ?_
  show own_Fin _ _ _ _ _ _ _ _ (mkF m 49 Ls13 [(.long q2), (.int (0 : Int32)), (.ref b14), (.ref b14)])
  refine own_step (fun t k => XS.lload (v := q6) X14.here hx rfl (hb hby at_49) (by rw [hLs13]; rfl) k) ?_
  show own_Fin _ _ _ _ _ _ _ _ (mkF m 51 Ls13 [(.long q6), (.long q2), (.int (0 : Int32)), (.ref b14), (.ref b14)])
  refine own_step (fun t k => XS.lxor X14.here hx rfl (hb hby at_51) rfl k) ?_
  show own_Fin _ _ _ _ _ _ _ _ (mkF m 52 Ls13 [(.long (q2 ^^^ q6)), (.int (0 : Int32)), (.ref b14), (.ref b14)])
  obtain ⟨_, _, ⟨T15, L15, k15, n15⟩, -, X15, ⟨Lc15, hQ15, l15, y15, z15⟩, st15⟩ := Jvm.LawKit.callS X14 hx (y := (⟨"com/example/quietwire/quietwire/Field25519SubtractPinLaw", "limb", "(J)J"⟩ : MethodName)) hown (mvT hZ (hw _ (List.mem_of_getElem? (i := 1) rfl))) (mvT hZ (hw _ (List.mem_of_getElem? (i := 2) rfl))) (mvT hZ (hw _ (List.mem_of_getElem? (i := 3) rfl))) (mvT hZ (hw _ (List.mem_of_getElem? (i := 4) rfl))) (by decide) (backOf (W := 3) (rm1 l Z a0 hw [] (q2 ^^^ q6) h14 n0 Zs) hZ (hw _ (List.mem_of_getElem? (i := 4) rfl)) (hw _ (List.mem_of_getElem? (i := 3) rfl)) (by decide) (by decide)) (g := (mkF m 52 Ls13 [(.long (q2 ^^^ q6)), (.int (0 : Int32)), (.ref b14), (.ref b14)])) rfl (by rw [hml]; show Array.size Ls13 = _; rw [hLs13]; rfl) (argsL := [(.long (q2 ^^^ q6))]) (rest := [(.int (0 : Int32)), (.ref b14), (.ref b14)]) (lenOf own_pd_0 rfl) rfl (by show 2 * 0 + _ ≤ _; exact Nat.le_of_eq rfl) (hb hby at_52) (fun _ _ => ⟨rfl, e14, (by decide : 2 + 0 ≤ _), (by decide : 10 + 0 ≤ _)⟩)
  dsimp only [Pt.U, Pt.locs, Pt.cells, Pt.slots] at X15 l15 y15 z15 st15 hQ15
  rw [l15, y15, z15] at X15
  obtain ⟨r15, rfl, hR15, Nq15, hh15⟩ := hQ15
  replace Nf := Fr.app Nf Nq15
  refine own_step st15 ?_
  show own_Fin _ _ _ _ _ _ _ _ (mkF m 55 Ls13 [(.long r15), (.int (0 : Int32)), (.ref b14), (.ref b14)])
  obtain ⟨T16, h16, X16, e16, W16, B16, st16⟩ := own_lastore X15 hx hZ hh15 V_b14 (j := (0 : Int32)) (k := 0) rfl (by decide) (x := r15) (pc := 55) (Ls := Ls13) (rest := [(.ref b14)]) (hb hby at_55) rfl
  refine own_step st16 ?_
  replace V_b2 := V_b2.other W16 ne_b2_b14
  replace Zs : n0 ≤ h16.size := by rw [W16.size]; exact Zs
  replace V_b14 := B16
  replace Nf := Fr.snoc X16 Nf g_b14
  show own_Fin _ _ _ _ _ _ _ _ (mkF m 56 Ls13 [(.ref b14)])
  refine own_step (fun t k => XS.dup X16.here hx rfl (hb hby at_56) rfl rfl k) ?_
  show own_Fin _ _ _ _ _ _ _ _ (mkF m 57 Ls13 [(.ref b14), (.ref b14)])
  refine own_step (fun t k => XS.iconst X16.here hx rfl (hb hby at_57) k) ?_
  show own_Fin _ _ _ _ _ _ _ _ (mkF m 58 Ls13 [(.int (1 : Int32)), (.ref b14), (.ref b14)])
  refine own_step (fun t k => XS.lload (v := q3) X16.here hx rfl (hb hby at_58) (by rw [hLs13]; rfl) k) ?_
  show own_Fin _ _ _ _ _ _ _ _ (mkF m 60 Ls13 [(.long q3), (.int (1 : Int32)), (.ref b14), (.ref b14)])
  refine own_step (fun t k => XS.lload (v := q6) X16.here hx rfl (hb hby at_60) (by rw [hLs13]; rfl) k) ?_
  show own_Fin _ _ _ _ _ _ _ _ (mkF m 62 Ls13 [(.long q6), (.long q3), (.int (1 : Int32)), (.ref b14), (.ref b14)])
  refine own_step (fun t k => XS.lxor X16.here hx rfl (hb hby at_62) rfl k) ?_
  show own_Fin _ _ _ _ _ _ _ _ (mkF m 63 Ls13 [(.long (q3 ^^^ q6)), (.int (1 : Int32)), (.ref b14), (.ref b14)])
  obtain ⟨_, _, ⟨T17, L17, k17, n17⟩, -, X17, ⟨Lc17, hQ17, l17, y17, z17⟩, st17⟩ := Jvm.LawKit.callS X16 hx (y := (⟨"com/example/quietwire/quietwire/Field25519SubtractPinLaw", "limb", "(J)J"⟩ : MethodName)) hown (mvT hZ (hw _ (List.mem_of_getElem? (i := 1) rfl))) (mvT hZ (hw _ (List.mem_of_getElem? (i := 2) rfl))) (mvT hZ (hw _ (List.mem_of_getElem? (i := 3) rfl))) (mvT hZ (hw _ (List.mem_of_getElem? (i := 4) rfl))) (by decide) (backOf (W := 3) (rm1 l Z a0 hw [] (q3 ^^^ q6) h16 n0 Zs) hZ (hw _ (List.mem_of_getElem? (i := 4) rfl)) (hw _ (List.mem_of_getElem? (i := 3) rfl)) (by decide) (by decide)) (g := (mkF m 63 Ls13 [(.long (q3 ^^^ q6)), (.int (1 : Int32)), (.ref b14), (.ref b14)])) rfl (by rw [hml]; show Array.size Ls13 = _; rw [hLs13]; rfl) (argsL := [(.long (q3 ^^^ q6))]) (rest := [(.int (1 : Int32)), (.ref b14), (.ref b14)]) (lenOf own_pd_0 rfl) rfl (by show 2 * 0 + _ ≤ _; exact Nat.le_of_eq rfl) (hb hby at_63) (fun _ _ => ⟨rfl, e16, (by decide : 2 + 0 ≤ _), (by decide : 10 + 0 ≤ _)⟩)
  dsimp only [Pt.U, Pt.locs, Pt.cells, Pt.slots] at X17 l17 y17 z17 st17 hQ17
  rw [l17, y17, z17] at X17
  obtain ⟨r17, rfl, hR17, Nq17, hh17⟩ := hQ17
  replace Nf := Fr.app Nf Nq17
  refine own_step st17 ?_
  show own_Fin _ _ _ _ _ _ _ _ (mkF m 66 Ls13 [(.long r17), (.int (1 : Int32)), (.ref b14), (.ref b14)])
  obtain ⟨T18, h18, X18, e18, W18, B18, st18⟩ := own_lastore X17 hx hZ hh17 V_b14 (j := (1 : Int32)) (k := 1) rfl (by decide) (x := r17) (pc := 66) (Ls := Ls13) (rest := [(.ref b14)]) (hb hby at_66) rfl
  refine own_step st18 ?_
  replace V_b2 := V_b2.other W18 ne_b2_b14
  replace Zs : n0 ≤ h18.size := by rw [W18.size]; exact Zs
  replace V_b14 := B18
  replace Nf := Fr.snoc X18 Nf g_b14
  show own_Fin _ _ _ _ _ _ _ _ (mkF m 67 Ls13 [(.ref b14)])
  refine own_step (fun t k => XS.dup X18.here hx rfl (hb hby at_67) rfl rfl k) ?_
  show own_Fin _ _ _ _ _ _ _ _ (mkF m 68 Ls13 [(.ref b14), (.ref b14)])
  refine own_step (fun t k => XS.iconst X18.here hx rfl (hb hby at_68) k) ?_
  show own_Fin _ _ _ _ _ _ _ _ (mkF m 69 Ls13 [(.int (2 : Int32)), (.ref b14), (.ref b14)])
  refine own_step (fun t k => XS.lload (v := q4) X18.here hx rfl (hb hby at_69) (by rw [hLs13]; rfl) k) ?_
  show own_Fin _ _ _ _ _ _ _ _ (mkF m 71 Ls13 [(.long q4), (.int (2 : Int32)), (.ref b14), (.ref b14)])
  refine own_step (fun t k => XS.lload (v := q6) X18.here hx rfl (hb hby at_71) (by rw [hLs13]; rfl) k) ?_
  show own_Fin _ _ _ _ _ _ _ _ (mkF m 73 Ls13 [(.long q6), (.long q4), (.int (2 : Int32)), (.ref b14), (.ref b14)])
  refine own_step (fun t k => XS.lxor X18.here hx rfl (hb hby at_73) rfl k) ?_
  show own_Fin _ _ _ _ _ _ _ _ (mkF m 74 Ls13 [(.long (q4 ^^^ q6)), (.int (2 : Int32)), (.ref b14), (.ref b14)])
  obtain ⟨_, _, ⟨T19, L19, k19, n19⟩, -, X19, ⟨Lc19, hQ19, l19, y19, z19⟩, st19⟩ := Jvm.LawKit.callS X18 hx (y := (⟨"com/example/quietwire/quietwire/Field25519SubtractPinLaw", "limb", "(J)J"⟩ : MethodName)) hown (mvT hZ (hw _ (List.mem_of_getElem? (i := 1) rfl))) (mvT hZ (hw _ (List.mem_of_getElem? (i := 2) rfl))) (mvT hZ (hw _ (List.mem_of_getElem? (i := 3) rfl))) (mvT hZ (hw _ (List.mem_of_getElem? (i := 4) rfl))) (by decide) (backOf (W := 3) (rm1 l Z a0 hw [] (q4 ^^^ q6) h18 n0 Zs) hZ (hw _ (List.mem_of_getElem? (i := 4) rfl)) (hw _ (List.mem_of_getElem? (i := 3) rfl)) (by decide) (by decide)) (g := (mkF m 74 Ls13 [(.long (q4 ^^^ q6)), (.int (2 : Int32)), (.ref b14), (.ref b14)])) rfl (by rw [hml]; show Array.size Ls13 = _; rw [hLs13]; rfl) (argsL := [(.long (q4 ^^^ q6))]) (rest := [(.int (2 : Int32)), (.ref b14), (.ref b14)]) (lenOf own_pd_0 rfl) rfl (by show 2 * 0 + _ ≤ _; exact Nat.le_of_eq rfl) (hb hby at_74) (fun _ _ => ⟨rfl, e18, (by decide : 2 + 0 ≤ _), (by decide : 10 + 0 ≤ _)⟩)
  dsimp only [Pt.U, Pt.locs, Pt.cells, Pt.slots] at X19 l19 y19 z19 st19 hQ19
  rw [l19, y19, z19] at X19
  obtain ⟨r19, rfl, hR19, Nq19, hh19⟩ := hQ19
  replace Nf := Fr.app Nf Nq19
  refine own_step st19 ?_
  show own_Fin _ _ _ _ _ _ _ _ (mkF m 77 Ls13 [(.long r19), (.int (2 : Int32)), (.ref b14), (.ref b14)])
  obtain ⟨T20, h20, X20, e20, W20, B20, st20⟩ := own_lastore X19 hx hZ hh19 V_b14 (j := (2 : Int32)) (k := 2) rfl (by decide) (x := r19) (pc := 77) (Ls := Ls13) (rest := [(.ref b14)]) (hb hby at_77) rfl
  refine own_step st20 ?_
  replace V_b2 := V_b2.other W20 ne_b2_b14
  replace Zs : n0 ≤ h20.size := by rw [W20.size]; exact Zs
  replace V_b14 := B20
  replace Nf := Fr.snoc X20 Nf g_b14
  show own_Fin _ _ _ _ _ _ _ _ (mkF m 78 Ls13 [(.ref b14)])
  refine own_step (fun t k => XS.dup X20.here hx rfl (hb hby at_78) rfl rfl k) ?_
  show own_Fin _ _ _ _ _ _ _ _ (mkF m 79 Ls13 [(.ref b14), (.ref b14)])
  refine own_step (fun t k => XS.iconst X20.here hx rfl (hb hby at_79) k) ?_
  show own_Fin _ _ _ _ _ _ _ _ (mkF m 80 Ls13 [(.int (3 : Int32)), (.ref b14), (.ref b14)])
  refine own_step (fun t k => XS.lload (v := q5) X20.here hx rfl (hb hby at_80) (by rw [hLs13]; rfl) k) ?_
  show own_Fin _ _ _ _ _ _ _ _ (mkF m 82 Ls13 [(.long q5), (.int (3 : Int32)), (.ref b14), (.ref b14)])
  refine own_step (fun t k => XS.lload (v := q6) X20.here hx rfl (hb hby at_82) (by rw [hLs13]; rfl) k) ?_
  show own_Fin _ _ _ _ _ _ _ _ (mkF m 84 Ls13 [(.long q6), (.long q5), (.int (3 : Int32)), (.ref b14), (.ref b14)])
  refine own_step (fun t k => XS.lxor X20.here hx rfl (hb hby at_84) rfl k) ?_
  show own_Fin _ _ _ _ _ _ _ _ (mkF m 85 Ls13 [(.long (q5 ^^^ q6)), (.int (3 : Int32)), (.ref b14), (.ref b14)])
  obtain ⟨_, _, ⟨T21, L21, k21, n21⟩, -, X21, ⟨Lc21, hQ21, l21, y21, z21⟩, st21⟩ := Jvm.LawKit.callS X20 hx (y := (⟨"com/example/quietwire/quietwire/Field25519SubtractPinLaw", "limb", "(J)J"⟩ : MethodName)) hown (mvT hZ (hw _ (List.mem_of_getElem? (i := 1) rfl))) (mvT hZ (hw _ (List.mem_of_getElem? (i := 2) rfl))) (mvT hZ (hw _ (List.mem_of_getElem? (i := 3) rfl))) (mvT hZ (hw _ (List.mem_of_getElem? (i := 4) rfl))) (by decide) (backOf (W := 3) (rm1 l Z a0 hw [] (q5 ^^^ q6) h20 n0 Zs) hZ (hw _ (List.mem_of_getElem? (i := 4) rfl)) (hw _ (List.mem_of_getElem? (i := 3) rfl)) (by decide) (by decide)) (g := (mkF m 85 Ls13 [(.long (q5 ^^^ q6)), (.int (3 : Int32)), (.ref b14), (.ref b14)])) rfl (by rw [hml]; show Array.size Ls13 = _; rw [hLs13]; rfl) (argsL := [(.long (q5 ^^^ q6))]) (rest := [(.int (3 : Int32)), (.ref b14), (.ref b14)]) (lenOf own_pd_0 rfl) rfl (by show 2 * 0 + _ ≤ _; exact Nat.le_of_eq rfl) (hb hby at_85) (fun _ _ => ⟨rfl, e20, (by decide : 2 + 0 ≤ _), (by decide : 10 + 0 ≤ _)⟩)
  dsimp only [Pt.U, Pt.locs, Pt.cells, Pt.slots] at X21 l21 y21 z21 st21 hQ21
  rw [l21, y21, z21] at X21
  obtain ⟨r21, rfl, hR21, Nq21, hh21⟩ := hQ21
  replace Nf := Fr.app Nf Nq21
  refine own_step st21 ?_
  show own_Fin _ _ _ _ _ _ _ _ (mkF m 88 Ls13 [(.long r21), (.int (3 : Int32)), (.ref b14), (.ref b14)])
  obtain ⟨T22, h22, X22, e22, W22, B22, st22⟩ := own_lastore X21 hx hZ hh21 V_b14 (j := (3 : Int32)) (k := 3) rfl (by decide) (x := r21) (pc := 88) (Ls := Ls13) (rest := [(.ref b14)]) (hb hby at_88) rfl
  refine own_step st22 ?_
  replace V_b2 := V_b2.other W22 ne_b2_b14
  replace Zs : n0 ≤ h22.size := by rw [W22.size]; exact Zs
  replace V_b14 := B22
  replace Nf := Fr.snoc X22 Nf g_b14
  show own_Fin _ _ _ _ _ _ _ _ (mkF m 89 Ls13 [(.ref b14)])
  refine own_step (fun t k => XS.dup X22.here hx rfl (hb hby at_89) rfl rfl k) ?_
  show own_Fin _ _ _ _ _ _ _ _ (mkF m 90 Ls13 [(.ref b14), (.ref b14)])
  refine own_step (fun t k => XS.iconst X22.here hx rfl (hb hby at_90) k) ?_
  show own_Fin _ _ _ _ _ _ _ _ (mkF m 91 Ls13 [(.int (4 : Int32)), (.ref b14), (.ref b14)])
  refine own_step (fun t k => XS.lloadN (v := q1) X22.here hx rfl (hb hby at_91) (by rw [hLs13]; rfl) k) ?_
  show own_Fin _ _ _ _ _ _ _ _ (mkF m 92 Ls13 [(.long q1), (.int (4 : Int32)), (.ref b14), (.ref b14)])
  refine own_step (fun t k => XS.lload (v := q6) X22.here hx rfl (hb hby at_92) (by rw [hLs13]; rfl) k) ?_
  show own_Fin _ _ _ _ _ _ _ _ (mkF m 94 Ls13 [(.long q6), (.long q1), (.int (4 : Int32)), (.ref b14), (.ref b14)])
  refine own_step (fun t k => XS.lxor X22.here hx rfl (hb hby at_94) rfl k) ?_
  show own_Fin _ _ _ _ _ _ _ _ (mkF m 95 Ls13 [(.long (q1 ^^^ q6)), (.int (4 : Int32)), (.ref b14), (.ref b14)])
  obtain ⟨_, _, ⟨T23, L23, k23, n23⟩, -, X23, ⟨Lc23, hQ23, l23, y23, z23⟩, st23⟩ := Jvm.LawKit.callS X22 hx (y := (⟨"com/example/quietwire/quietwire/Field25519SubtractPinLaw", "limb", "(J)J"⟩ : MethodName)) hown (mvT hZ (hw _ (List.mem_of_getElem? (i := 1) rfl))) (mvT hZ (hw _ (List.mem_of_getElem? (i := 2) rfl))) (mvT hZ (hw _ (List.mem_of_getElem? (i := 3) rfl))) (mvT hZ (hw _ (List.mem_of_getElem? (i := 4) rfl))) (by decide) (backOf (W := 3) (rm1 l Z a0 hw [] (q1 ^^^ q6) h22 n0 Zs) hZ (hw _ (List.mem_of_getElem? (i := 4) rfl)) (hw _ (List.mem_of_getElem? (i := 3) rfl)) (by decide) (by decide)) (g := (mkF m 95 Ls13 [(.long (q1 ^^^ q6)), (.int (4 : Int32)), (.ref b14), (.ref b14)])) rfl (by rw [hml]; show Array.size Ls13 = _; rw [hLs13]; rfl) (argsL := [(.long (q1 ^^^ q6))]) (rest := [(.int (4 : Int32)), (.ref b14), (.ref b14)]) (lenOf own_pd_0 rfl) rfl (by show 2 * 0 + _ ≤ _; exact Nat.le_of_eq rfl) (hb hby at_95) (fun _ _ => ⟨rfl, e22, (by decide : 2 + 0 ≤ _), (by decide : 10 + 0 ≤ _)⟩)
  dsimp only [Pt.U, Pt.locs, Pt.cells, Pt.slots] at X23 l23 y23 z23 st23 hQ23
  rw [l23, y23, z23] at X23
  obtain ⟨r23, rfl, hR23, Nq23, hh23⟩ := hQ23
  replace Nf := Fr.app Nf Nq23
  refine own_step st23 ?_
  show own_Fin _ _ _ _ _ _ _ _ (mkF m 98 Ls13 [(.long r23), (.int (4 : Int32)), (.ref b14), (.ref b14)])
  obtain ⟨T24, h24, X24, e24, W24, B24, st24⟩ := own_lastore X23 hx hZ hh23 V_b14 (j := (4 : Int32)) (k := 4) rfl (by decide) (x := r23) (pc := 98) (Ls := Ls13) (rest := [(.ref b14)]) (hb hby at_98) rfl
  refine own_step st24 ?_
  replace V_b2 := V_b2.other W24 ne_b2_b14
  replace Zs : n0 ≤ h24.size := by rw [W24.size]; exact Zs
  replace V_b14 := B24
  replace Nf := Fr.snoc X24 Nf g_b14
  show own_Fin _ _ _ _ _ _ _ _ (mkF m 99 Ls13 [(.ref b14)])
  obtain ⟨Ls25, hLs25⟩ : ∃ z : Array Slot, z = #[.val (.long q1), .second, .val (.long q2), .second, .val (.long q3), .second, .val (.long q4), .second, .val (.long q5), .second, .val (.long q6), .second, .val (.ref b2), .val (.ref b14), .unset, .unset, .unset, .unset, .unset, .unset, .unset, .unset, .unset, .unset, .unset, .unset, .unset, .unset, .unset, .unset, .unset, .unset, .unset, .unset, .unset, .unset, .unset, .unset, .unset, .unset] := ⟨_, rfl⟩
  refine own_step (fun t k => XS.astore X24.here hx rfl (hb hby at_99) rfl rfl (l' := Ls25) (by rw [hLs13, hLs25]; rfl) k) ?_
  show own_Fin _ _ _ _ _ _ _ _ (mkF m 101 Ls25 [])
  refine own_step (fun t k => XS.lload (v := q6) X24.here hx rfl (hb hby at_101) (by rw [hLs25]; rfl) k) ?_
  show own_Fin _ _ _ _ _ _ _ _ (mkF m 103 Ls25 [(.long q6)])
  refine own_step (fun t k => X24.ldc2Long hx hown (mvT hZ (hw _ (List.mem_of_getElem? (i := 6) rfl))) (g := (mkF m 103 Ls25 [(.long q6)])) rfl (hb hby at_103) _ k) ?_
  show own_Fin _ _ _ _ _ _ _ _ (mkF m 106 Ls25 [(.long (3 : Int64)), (.long q6)])
  refine own_step (fun t k => XS.land X24.here hx rfl (hb hby at_106) rfl k) ?_
  show own_Fin _ _ _ _ _ _ _ _ (mkF m 107 Ls25 [(.long (q6 &&& (3 : Int64)))])
  refine own_step (fun t k => XS.l2i X24.here hx rfl (hb hby at_107) rfl k) ?_
  show own_Fin _ _ _ _ _ _ _ _ (mkF m 108 Ls25 [(.int ((q6 &&& (3 : Int64)).toInt32))])
  generalize hmd : ((q6 &&& (3 : Int64)).toInt32) = md
  obtain ⟨Ls26, hLs26⟩ : ∃ z : Array Slot, z = #[.val (.long q1), .second, .val (.long q2), .second, .val (.long q3), .second, .val (.long q4), .second, .val (.long q5), .second, .val (.long q6), .second, .val (.ref b2), .val (.ref b14), .val (.int md), .unset, .unset, .unset, .unset, .unset, .unset, .unset, .unset, .unset, .unset, .unset, .unset, .unset, .unset, .unset, .unset, .unset, .unset, .unset, .unset, .unset, .unset, .unset, .unset, .unset] := ⟨_, rfl⟩
  refine own_step (fun t k => XS.istore X24.here hx rfl (hb hby at_108) rfl (l' := Ls26) (by rw [hLs25, hLs26]; rfl) k) ?_
  show own_Fin _ _ _ _ _ _ _ _ (mkF m 110 Ls26 [])
  refine own_step (fun t k => XS.iload (v := md) X24.here hx rfl (hb hby at_110) (by rw [hLs26]; rfl) k) ?_
  show own_Fin _ _ _ _ _ _ _ _ (mkF m 112 Ls26 [(.int md)])
  refine own_step (fun t k => XS.iconst X24.here hx rfl (hb hby at_112) k) ?_
  show own_Fin _ _ _ _ _ _ _ _ (mkF m 113 Ls26 [(.int (3 : Int32)), (.int md)])
  by_cases hc27 : (md).toInt = 3
  · skip
    refine own_step (fun t k => XS.icmpNo X24.here hx rfl (hb hby at_113) rfl (own_ce (x := md) (y := (3 : Int32)) rfl rfl hc27).2 k) ?_
    show own_Fin _ _ _ _ _ _ _ _ (mkF m 116 Ls26 [])
    refine own_step (fun t k => XS.aload (v := (.ref b2)) X24.here hx rfl (hb hby at_116) (by rw [hLs26]; rfl) rfl k) ?_
    show own_Fin _ _ _ _ _ _ _ _ (mkF m 118 Ls26 [(.ref b2)])
    obtain ⟨Ls28, hLs28⟩ : ∃ z : Array Slot, z = #[.val (.long q1), .second, .val (.long q2), .second, .val (.long q3), .second, .val (.long q4), .second, .val (.long q5), .second, .val (.long q6), .second, .val (.ref b2), .val (.ref b2), .val (.int md), .unset, .unset, .unset, .unset, .unset, .unset, .unset, .unset, .unset, .unset, .unset, .unset, .unset, .unset, .unset, .unset, .unset, .unset, .unset, .unset, .unset, .unset, .unset, .unset, .unset] := ⟨_, rfl⟩
    refine own_step (fun t k => XS.astore X24.here hx rfl (hb hby at_118) rfl rfl (l' := Ls28) (by rw [hLs26, hLs28]; rfl) k) ?_
    show own_Fin _ _ _ _ _ _ _ _ (mkF m 120 Ls28 [])
    refine own_step (fun t k => XS.aload (v := (.ref b2)) X24.here hx rfl (hb hby at_120) (by rw [hLs28]; rfl) rfl k) ?_
    show own_Fin _ _ _ _ _ _ _ _ (mkF m 122 Ls28 [(.ref b2)])
    refine own_step (fun t k => XS.iconst X24.here hx rfl (hb hby at_122) k) ?_
    show own_Fin _ _ _ _ _ _ _ _ (mkF m 123 Ls28 [(.int (0 : Int32)), (.ref b2)])
    refine own_laload X24 hx hZ e24 V_b2 (k := 0) rfl (by decide) (v := r3) rfl (hb hby at_123) rfl ?_
    show own_Fin _ _ _ _ _ _ _ _ (mkF m 124 Ls28 [(.long r3)])
    obtain ⟨Ls29, hLs29⟩ : ∃ z : Array Slot, z = #[.val (.long q1), .second, .val (.long q2), .second, .val (.long q3), .second, .val (.long q4), .second, .val (.long q5), .second, .val (.long q6), .second, .val (.ref b2), .val (.ref b2), .val (.int md), .val (.long r3), .second, .unset, .unset, .unset, .unset, .unset, .unset, .unset, .unset, .unset, .unset, .unset, .unset, .unset, .unset, .unset, .unset, .unset, .unset, .unset, .unset, .unset, .unset, .unset] := ⟨_, rfl⟩
    refine own_step (fun t k => XS.lstore X24.here hx rfl (hb hby at_124) rfl (l' := Ls29) (by rw [hLs28, hLs29]; rfl) k) ?_
    show own_Fin _ _ _ _ _ _ _ _ (mkF m 126 Ls29 [])
    refine own_step (fun t k => XS.aload (v := (.ref b2)) X24.here hx rfl (hb hby at_126) (by rw [hLs29]; rfl) rfl k) ?_
    show own_Fin _ _ _ _ _ _ _ _ (mkF m 128 Ls29 [(.ref b2)])
    refine own_step (fun t k => XS.iconst X24.here hx rfl (hb hby at_128) k) ?_
    show own_Fin _ _ _ _ _ _ _ _ (mkF m 129 Ls29 [(.int (1 : Int32)), (.ref b2)])
    refine own_laload X24 hx hZ e24 V_b2 (k := 1) rfl (by decide) (v := r5) rfl (hb hby at_129) rfl ?_
    show own_Fin _ _ _ _ _ _ _ _ (mkF m 130 Ls29 [(.long r5)])
    obtain ⟨Ls30, hLs30⟩ : ∃ z : Array Slot, z = #[.val (.long q1), .second, .val (.long q2), .second, .val (.long q3), .second, .val (.long q4), .second, .val (.long q5), .second, .val (.long q6), .second, .val (.ref b2), .val (.ref b2), .val (.int md), .val (.long r3), .second, .val (.long r5), .second, .unset, .unset, .unset, .unset, .unset, .unset, .unset, .unset, .unset, .unset, .unset, .unset, .unset, .unset, .unset, .unset, .unset, .unset, .unset, .unset, .unset] := ⟨_, rfl⟩
    refine own_step (fun t k => XS.lstore X24.here hx rfl (hb hby at_130) rfl (l' := Ls30) (by rw [hLs29, hLs30]; rfl) k) ?_
    show own_Fin _ _ _ _ _ _ _ _ (mkF m 132 Ls30 [])
    refine own_step (fun t k => XS.aload (v := (.ref b2)) X24.here hx rfl (hb hby at_132) (by rw [hLs30]; rfl) rfl k) ?_
    show own_Fin _ _ _ _ _ _ _ _ (mkF m 134 Ls30 [(.ref b2)])
    refine own_step (fun t k => XS.iconst X24.here hx rfl (hb hby at_134) k) ?_
    show own_Fin _ _ _ _ _ _ _ _ (mkF m 135 Ls30 [(.int (2 : Int32)), (.ref b2)])
    refine own_laload X24 hx hZ e24 V_b2 (k := 2) rfl (by decide) (v := r7) rfl (hb hby at_135) rfl ?_
    show own_Fin _ _ _ _ _ _ _ _ (mkF m 136 Ls30 [(.long r7)])
    obtain ⟨Ls31, hLs31⟩ : ∃ z : Array Slot, z = #[.val (.long q1), .second, .val (.long q2), .second, .val (.long q3), .second, .val (.long q4), .second, .val (.long q5), .second, .val (.long q6), .second, .val (.ref b2), .val (.ref b2), .val (.int md), .val (.long r3), .second, .val (.long r5), .second, .val (.long r7), .second, .unset, .unset, .unset, .unset, .unset, .unset, .unset, .unset, .unset, .unset, .unset, .unset, .unset, .unset, .unset, .unset, .unset, .unset, .unset] := ⟨_, rfl⟩
    refine own_step (fun t k => XS.lstore X24.here hx rfl (hb hby at_136) rfl (l' := Ls31) (by rw [hLs30, hLs31]; rfl) k) ?_
    show own_Fin _ _ _ _ _ _ _ _ (mkF m 138 Ls31 [])
    refine own_step (fun t k => XS.aload (v := (.ref b2)) X24.here hx rfl (hb hby at_138) (by rw [hLs31]; rfl) rfl k) ?_
    show own_Fin _ _ _ _ _ _ _ _ (mkF m 140 Ls31 [(.ref b2)])
    refine own_step (fun t k => XS.iconst X24.here hx rfl (hb hby at_140) k) ?_
    show own_Fin _ _ _ _ _ _ _ _ (mkF m 141 Ls31 [(.int (3 : Int32)), (.ref b2)])
    refine own_laload X24 hx hZ e24 V_b2 (k := 3) rfl (by decide) (v := r9) rfl (hb hby at_141) rfl ?_
    show own_Fin _ _ _ _ _ _ _ _ (mkF m 142 Ls31 [(.long r9)])
    obtain ⟨Ls32, hLs32⟩ : ∃ z : Array Slot, z = #[.val (.long q1), .second, .val (.long q2), .second, .val (.long q3), .second, .val (.long q4), .second, .val (.long q5), .second, .val (.long q6), .second, .val (.ref b2), .val (.ref b2), .val (.int md), .val (.long r3), .second, .val (.long r5), .second, .val (.long r7), .second, .val (.long r9), .second, .unset, .unset, .unset, .unset, .unset, .unset, .unset, .unset, .unset, .unset, .unset, .unset, .unset, .unset, .unset, .unset, .unset] := ⟨_, rfl⟩
    refine own_step (fun t k => XS.lstore X24.here hx rfl (hb hby at_142) rfl (l' := Ls32) (by rw [hLs31, hLs32]; rfl) k) ?_
    show own_Fin _ _ _ _ _ _ _ _ (mkF m 144 Ls32 [])
    refine own_step (fun t k => XS.aload (v := (.ref b2)) X24.here hx rfl (hb hby at_144) (by rw [hLs32]; rfl) rfl k) ?_
    show own_Fin _ _ _ _ _ _ _ _ (mkF m 146 Ls32 [(.ref b2)])
    refine own_step (fun t k => XS.iconst X24.here hx rfl (hb hby at_146) k) ?_
    show own_Fin _ _ _ _ _ _ _ _ (mkF m 147 Ls32 [(.int (4 : Int32)), (.ref b2)])
    refine own_laload X24 hx hZ e24 V_b2 (k := 4) rfl (by decide) (v := r11) rfl (hb hby at_147) rfl ?_
    show own_Fin _ _ _ _ _ _ _ _ (mkF m 148 Ls32 [(.long r11)])
    obtain ⟨Ls33, hLs33⟩ : ∃ z : Array Slot, z = #[.val (.long q1), .second, .val (.long q2), .second, .val (.long q3), .second, .val (.long q4), .second, .val (.long q5), .second, .val (.long q6), .second, .val (.ref b2), .val (.ref b2), .val (.int md), .val (.long r3), .second, .val (.long r5), .second, .val (.long r7), .second, .val (.long r9), .second, .val (.long r11), .second, .unset, .unset, .unset, .unset, .unset, .unset, .unset, .unset, .unset, .unset, .unset, .unset, .unset, .unset, .unset] := ⟨_, rfl⟩
    refine own_step (fun t k => XS.lstore X24.here hx rfl (hb hby at_148) rfl (l' := Ls33) (by rw [hLs32, hLs33]; rfl) k) ?_
    show own_Fin _ _ _ _ _ _ _ _ (mkF m 150 Ls33 [])
    refine own_step (fun t k => XS.aload (v := (.ref b2)) X24.here hx rfl (hb hby at_150) (by rw [hLs33]; rfl) rfl k) ?_
    show own_Fin _ _ _ _ _ _ _ _ (mkF m 152 Ls33 [(.ref b2)])
    refine own_step (fun t k => XS.iconst X24.here hx rfl (hb hby at_152) k) ?_
    show own_Fin _ _ _ _ _ _ _ _ (mkF m 153 Ls33 [(.int (0 : Int32)), (.ref b2)])
    refine own_laload X24 hx hZ e24 V_b2 (k := 0) rfl (by decide) (v := r3) rfl (hb hby at_153) rfl ?_
    show own_Fin _ _ _ _ _ _ _ _ (mkF m 154 Ls33 [(.long r3)])
    obtain ⟨Ls34, hLs34⟩ : ∃ z : Array Slot, z = #[.val (.long q1), .second, .val (.long q2), .second, .val (.long q3), .second, .val (.long q4), .second, .val (.long q5), .second, .val (.long q6), .second, .val (.ref b2), .val (.ref b2), .val (.int md), .val (.long r3), .second, .val (.long r5), .second, .val (.long r7), .second, .val (.long r9), .second, .val (.long r11), .second, .val (.long r3), .second, .unset, .unset, .unset, .unset, .unset, .unset, .unset, .unset, .unset, .unset, .unset, .unset, .unset] := ⟨_, rfl⟩
    refine own_step (fun t k => XS.lstore X24.here hx rfl (hb hby at_154) rfl (l' := Ls34) (by rw [hLs33, hLs34]; rfl) k) ?_
    show own_Fin _ _ _ _ _ _ _ _ (mkF m 156 Ls34 [])
    refine own_step (fun t k => XS.aload (v := (.ref b2)) X24.here hx rfl (hb hby at_156) (by rw [hLs34]; rfl) rfl k) ?_
    show own_Fin _ _ _ _ _ _ _ _ (mkF m 158 Ls34 [(.ref b2)])
    refine own_step (fun t k => XS.iconst X24.here hx rfl (hb hby at_158) k) ?_
    show own_Fin _ _ _ _ _ _ _ _ (mkF m 159 Ls34 [(.int (1 : Int32)), (.ref b2)])
    refine own_laload X24 hx hZ e24 V_b2 (k := 1) rfl (by decide) (v := r5) rfl (hb hby at_159) rfl ?_
    show own_Fin _ _ _ _ _ _ _ _ (mkF m 160 Ls34 [(.long r5)])
    obtain ⟨Ls35, hLs35⟩ : ∃ z : Array Slot, z = #[.val (.long q1), .second, .val (.long q2), .second, .val (.long q3), .second, .val (.long q4), .second, .val (.long q5), .second, .val (.long q6), .second, .val (.ref b2), .val (.ref b2), .val (.int md), .val (.long r3), .second, .val (.long r5), .second, .val (.long r7), .second, .val (.long r9), .second, .val (.long r11), .second, .val (.long r3), .second, .val (.long r5), .second, .unset, .unset, .unset, .unset, .unset, .unset, .unset, .unset, .unset, .unset, .unset] := ⟨_, rfl⟩
    refine own_step (fun t k => XS.lstore X24.here hx rfl (hb hby at_160) rfl (l' := Ls35) (by rw [hLs34, hLs35]; rfl) k) ?_
    show own_Fin _ _ _ _ _ _ _ _ (mkF m 162 Ls35 [])
    refine own_step (fun t k => XS.aload (v := (.ref b2)) X24.here hx rfl (hb hby at_162) (by rw [hLs35]; rfl) rfl k) ?_
    show own_Fin _ _ _ _ _ _ _ _ (mkF m 164 Ls35 [(.ref b2)])
    refine own_step (fun t k => XS.iconst X24.here hx rfl (hb hby at_164) k) ?_
    show own_Fin _ _ _ _ _ _ _ _ (mkF m 165 Ls35 [(.int (2 : Int32)), (.ref b2)])
    refine own_laload X24 hx hZ e24 V_b2 (k := 2) rfl (by decide) (v := r7) rfl (hb hby at_165) rfl ?_
    show own_Fin _ _ _ _ _ _ _ _ (mkF m 166 Ls35 [(.long r7)])
    obtain ⟨Ls36, hLs36⟩ : ∃ z : Array Slot, z = #[.val (.long q1), .second, .val (.long q2), .second, .val (.long q3), .second, .val (.long q4), .second, .val (.long q5), .second, .val (.long q6), .second, .val (.ref b2), .val (.ref b2), .val (.int md), .val (.long r3), .second, .val (.long r5), .second, .val (.long r7), .second, .val (.long r9), .second, .val (.long r11), .second, .val (.long r3), .second, .val (.long r5), .second, .val (.long r7), .second, .unset, .unset, .unset, .unset, .unset, .unset, .unset, .unset, .unset] := ⟨_, rfl⟩
    refine own_step (fun t k => XS.lstore X24.here hx rfl (hb hby at_166) rfl (l' := Ls36) (by rw [hLs35, hLs36]; rfl) k) ?_
    show own_Fin _ _ _ _ _ _ _ _ (mkF m 168 Ls36 [])
    refine own_step (fun t k => XS.aload (v := (.ref b2)) X24.here hx rfl (hb hby at_168) (by rw [hLs36]; rfl) rfl k) ?_
    show own_Fin _ _ _ _ _ _ _ _ (mkF m 170 Ls36 [(.ref b2)])
    refine own_step (fun t k => XS.iconst X24.here hx rfl (hb hby at_170) k) ?_
    show own_Fin _ _ _ _ _ _ _ _ (mkF m 171 Ls36 [(.int (3 : Int32)), (.ref b2)])
    refine own_laload X24 hx hZ e24 V_b2 (k := 3) rfl (by decide) (v := r9) rfl (hb hby at_171) rfl ?_
    show own_Fin _ _ _ _ _ _ _ _ (mkF m 172 Ls36 [(.long r9)])
    obtain ⟨Ls37, hLs37⟩ : ∃ z : Array Slot, z = #[.val (.long q1), .second, .val (.long q2), .second, .val (.long q3), .second, .val (.long q4), .second, .val (.long q5), .second, .val (.long q6), .second, .val (.ref b2), .val (.ref b2), .val (.int md), .val (.long r3), .second, .val (.long r5), .second, .val (.long r7), .second, .val (.long r9), .second, .val (.long r11), .second, .val (.long r3), .second, .val (.long r5), .second, .val (.long r7), .second, .val (.long r9), .second, .unset, .unset, .unset, .unset, .unset, .unset, .unset] := ⟨_, rfl⟩
    refine own_step (fun t k => XS.lstore X24.here hx rfl (hb hby at_172) rfl (l' := Ls37) (by rw [hLs36, hLs37]; rfl) k) ?_
    show own_Fin _ _ _ _ _ _ _ _ (mkF m 174 Ls37 [])
    refine own_step (fun t k => XS.aload (v := (.ref b2)) X24.here hx rfl (hb hby at_174) (by rw [hLs37]; rfl) rfl k) ?_
    show own_Fin _ _ _ _ _ _ _ _ (mkF m 176 Ls37 [(.ref b2)])
    refine own_step (fun t k => XS.iconst X24.here hx rfl (hb hby at_176) k) ?_
    show own_Fin _ _ _ _ _ _ _ _ (mkF m 177 Ls37 [(.int (4 : Int32)), (.ref b2)])
    refine own_laload X24 hx hZ e24 V_b2 (k := 4) rfl (by decide) (v := r11) rfl (hb hby at_177) rfl ?_
    show own_Fin _ _ _ _ _ _ _ _ (mkF m 178 Ls37 [(.long r11)])
    obtain ⟨Ls38, hLs38⟩ : ∃ z : Array Slot, z = #[.val (.long q1), .second, .val (.long q2), .second, .val (.long q3), .second, .val (.long q4), .second, .val (.long q5), .second, .val (.long q6), .second, .val (.ref b2), .val (.ref b2), .val (.int md), .val (.long r3), .second, .val (.long r5), .second, .val (.long r7), .second, .val (.long r9), .second, .val (.long r11), .second, .val (.long r3), .second, .val (.long r5), .second, .val (.long r7), .second, .val (.long r9), .second, .val (.long r11), .second, .unset, .unset, .unset, .unset, .unset] := ⟨_, rfl⟩
    refine own_step (fun t k => XS.lstore X24.here hx rfl (hb hby at_178) rfl (l' := Ls38) (by rw [hLs37, hLs38]; rfl) k) ?_
    show own_Fin _ _ _ _ _ _ _ _ (mkF m 180 Ls38 [])
    refine own_step (fun t k => XS.iload (v := md) X24.here hx rfl (hb hby at_180) (by rw [hLs38]; rfl) k) ?_
    show own_Fin _ _ _ _ _ _ _ _ (mkF m 182 Ls38 [(.int md)])
    refine own_step (fun t k => XS.iconst X24.here hx rfl (hb hby at_182) k) ?_
    show own_Fin _ _ _ _ _ _ _ _ (mkF m 183 Ls38 [(.int (1 : Int32)), (.int md)])
    have hc39 : ¬ ((md).toInt = 1) := by omega
    refine own_step (fun t k => XS.icmpNo X24.here hx rfl (hb hby at_183) rfl (own_cu (x := md) (y := (1 : Int32)) rfl rfl hc39).1 k) ?_
    show own_Fin _ _ _ _ _ _ _ _ (mkF m 186 Ls38 [])
    refine own_step (fun t k => XS.iload (v := md) X24.here hx rfl (hb hby at_186) (by rw [hLs38]; rfl) k) ?_
    show own_Fin _ _ _ _ _ _ _ _ (mkF m 188 Ls38 [(.int md)])
    refine own_step (fun t k => XS.iconst X24.here hx rfl (hb hby at_188) k) ?_
    show own_Fin _ _ _ _ _ _ _ _ (mkF m 189 Ls38 [(.int (3 : Int32)), (.int md)])
    have hc40 : (md).toInt = 3 := by omega
    refine own_step (fun t k => XS.icmpNo X24.here hx rfl (hb hby at_189) rfl (own_ce (x := md) (y := (3 : Int32)) rfl rfl hc40).2 k) ?_
    show own_Fin _ _ _ _ _ _ _ _ (mkF m 192 Ls38 [])
    refine own_step (fun t k => XS.aload (v := (.ref b2)) X24.here hx rfl (hb hby at_192) (by rw [hLs38]; rfl) rfl k) ?_
    show own_Fin _ _ _ _ _ _ _ _ (mkF m 194 Ls38 [(.ref b2)])
    obtain ⟨Ls41, hLs41⟩ : ∃ z : Array Slot, z = #[.val (.long q1), .second, .val (.long q2), .second, .val (.long q3), .second, .val (.long q4), .second, .val (.long q5), .second, .val (.long q6), .second, .val (.ref b2), .val (.ref b2), .val (.int md), .val (.long r3), .second, .val (.long r5), .second, .val (.long r7), .second, .val (.long r9), .second, .val (.long r11), .second, .val (.long r3), .second, .val (.long r5), .second, .val (.long r7), .second, .val (.long r9), .second, .val (.long r11), .second, .val (.ref b2), .unset, .unset, .unset, .unset] := ⟨_, rfl⟩
    refine own_step (fun t k => XS.astore X24.here hx rfl (hb hby at_194) rfl rfl (l' := Ls41) (by rw [hLs38, hLs41]; rfl) k) ?_
    show own_Fin _ _ _ _ _ _ _ _ (mkF m 196 Ls41 [])
    refine own_step (fun t k => XS.goto X24.here hx rfl (pc0 := 196) (pc' := 244) rfl (hb hby at_196) (by decide) (by decide) k) ?_
    show own_Fin _ _ _ _ _ _ _ _ (mkF m 244 Ls41 [])
    obtain ⟨fE, V_b2, hfE_0, hfE_1, hfE_2, hfE_3, hfE_4⟩ : ∃ f, own_AJ Z h24 b2 5 f ∧ f 0 = r3 ∧ f 1 = r5 ∧ f 2 = r7 ∧ f 3 = r9 ∧ f 4 = r11 := ⟨_, V_b2, rfl, rfl, rfl, rfl, rfl⟩
    refine own_step (fun t k => XS.aload (v := (.ref b2)) X24.here hx rfl (hb hby at_244) (by rw [hLs41]; rfl) rfl k) ?_
    show own_Fin _ _ _ _ _ _ _ _ (mkF m 246 Ls41 [(.ref b2)])
    refine own_step (fun t k => XS.aload (v := (.ref b2)) X24.here hx rfl (hb hby at_246) (by rw [hLs41]; rfl) rfl k) ?_
    show own_Fin _ _ _ _ _ _ _ _ (mkF m 248 Ls41 [(.ref b2), (.ref b2)])
    refine own_step (fun t k => XS.aload (v := (.ref b2)) X24.here hx rfl (hb hby at_248) (by rw [hLs41]; rfl) rfl k) ?_
    show own_Fin _ _ _ _ _ _ _ _ (mkF m 250 Ls41 [(.ref b2), (.ref b2), (.ref b2)])
    obtain ⟨_, _, ⟨T42, L42, k42, n42⟩, -, X42, ⟨Lc42, hQ42, l42, y42, z42⟩, st42⟩ := Jvm.LawKit.callS X24 hx (y := (⟨"com/example/quietwire/quietwire/Field25519", "subtract", "([J[J[J)V"⟩ : MethodName)) hown (mvT hZ (hw _ (List.mem_of_getElem? (i := 7) rfl))) (mvT hZ (hw _ (List.mem_of_getElem? (i := 8) rfl))) (mvT hZ (hw _ (List.mem_of_getElem? (i := 9) rfl))) (mvT hZ (hw _ (List.mem_of_getElem? (i := 10) rfl))) (by decide) (backOf (W := 0) (rm3 l Z a0 hw [] b2 _ h24 n0 Zs V_b2 g_b2) hZ (hw _ (List.mem_of_getElem? (i := 10) rfl)) (hw _ (List.mem_of_getElem? (i := 9) rfl)) (by decide) (by decide)) (g := (mkF m 250 Ls41 [(.ref b2), (.ref b2), (.ref b2)])) rfl (by rw [hml]; show Array.size Ls41 = _; rw [hLs41]; rfl) (argsL := [(.ref b2), (.ref b2), (.ref b2)]) (rest := []) (lenOf own_pd_1 rfl) rfl (by show 2 * 0 + _ ≤ _; exact Nat.le_of_eq rfl) (hb hby at_250) (fun _ _ => ⟨rfl, e24, (by decide : 2 + 0 ≤ _), (by decide : 10 + 0 ≤ _)⟩)
    dsimp only [Pt.U, Pt.locs, Pt.cells, Pt.slots] at X42 l42 y42 z42 st42 hQ42
    rw [l42, y42, z42] at X42
    obtain ⟨rfl, Nq42, Kq42, P42_0⟩ := hQ42
    replace Nf := Fr.app Nf Nq42
    replace V_b2 := P42_0
    replace V_b14 := V_b14.keep Kq42 (ninS (Ne.symm ne_b2_b14) nin0)
    replace Zs := Nat.le_trans Zs Kq42.1
    refine own_step st42 ?_
    show own_Fin _ _ _ _ _ _ _ _ (mkF m 253 Ls41 [])
    refine own_step (fun t k => X42.ldc2Long hx hown (mvT hZ (hw _ (List.mem_of_getElem? (i := 5) rfl))) (g := (mkF m 253 Ls41 [])) rfl (hb hby at_253) _ k) ?_
    show own_Fin _ _ _ _ _ _ _ _ (mkF m 256 Ls41 [(.long (9007199254740916 : Int64))])
    obtain ⟨Ls43, hLs43⟩ : ∃ z : Array Slot, z = #[.val (.long q1), .second, .val (.long q2), .second, .val (.long q3), .second, .val (.long q4), .second, .val (.long q5), .second, .val (.long q6), .second, .val (.ref b2), .val (.ref b2), .val (.int md), .val (.long r3), .second, .val (.long r5), .second, .val (.long r7), .second, .val (.long r9), .second, .val (.long r11), .second, .val (.long r3), .second, .val (.long r5), .second, .val (.long r7), .second, .val (.long r9), .second, .val (.long r11), .second, .val (.ref b2), .val (.long (9007199254740916 : Int64)), .second, .unset, .unset] := ⟨_, rfl⟩
    refine own_step (fun t k => XS.lstore X42.here hx rfl (hb hby at_256) rfl (l' := Ls43) (by rw [hLs41, hLs43]; rfl) k) ?_
    show own_Fin _ _ _ _ _ _ _ _ (mkF m 258 Ls43 [])
    refine own_step (fun t k => X42.ldc2Long hx hown (mvT hZ (hw _ (List.mem_of_getElem? (i := 13) rfl))) (g := (mkF m 258 Ls43 [])) rfl (hb hby at_258) _ k) ?_
    show own_Fin _ _ _ _ _ _ _ _ (mkF m 261 Ls43 [(.long (9007199254740988 : Int64))])
    obtain ⟨Ls44, hLs44⟩ : ∃ z : Array Slot, z = #[.val (.long q1), .second, .val (.long q2), .second, .val (.long q3), .second, .val (.long q4), .second, .val (.long q5), .second, .val (.long q6), .second, .val (.ref b2), .val (.ref b2), .val (.int md), .val (.long r3), .second, .val (.long r5), .second, .val (.long r7), .second, .val (.long r9), .second, .val (.long r11), .second, .val (.long r3), .second, .val (.long r5), .second, .val (.long r7), .second, .val (.long r9), .second, .val (.long r11), .second, .val (.ref b2), .val (.long (9007199254740916 : Int64)), .second, .val (.long (9007199254740988 : Int64)), .second] := ⟨_, rfl⟩
    refine own_step (fun t k => XS.lstore X42.here hx rfl (hb hby at_261) rfl (l' := Ls44) (by rw [hLs43, hLs44]; rfl) k) ?_
    show own_Fin _ _ _ _ _ _ _ _ (mkF m 263 Ls44 [])
    refine own_step (fun t k => XS.aload (v := (.ref b2)) X42.here hx rfl (hb hby at_263) (by rw [hLs44]; rfl) rfl k) ?_
    show own_Fin _ _ _ _ _ _ _ _ (mkF m 265 Ls44 [(.ref b2)])
    refine own_step (fun t k => XS.iconst X42.here hx rfl (hb hby at_265) k) ?_
    show own_Fin _ _ _ _ _ _ _ _ (mkF m 266 Ls44 [(.int (0 : Int32)), (.ref b2)])
    refine own_laload X42 hx hZ rfl V_b2 (k := 0) rfl (by decide) (v := ((own_sb fE fE) 0)) rfl (hb hby at_266) rfl ?_
    show own_Fin _ _ _ _ _ _ _ _ (mkF m 267 Ls44 [(.long ((own_sb fE fE) 0))])
    refine own_step (fun t k => XS.lload (v := r3) X42.here hx rfl (hb hby at_267) (by rw [hLs44]; rfl) k) ?_
    show own_Fin _ _ _ _ _ _ _ _ (mkF m 269 Ls44 [(.long r3), (.long ((own_sb fE fE) 0))])
    refine own_step (fun t k => XS.lload (v := r3) X42.here hx rfl (hb hby at_269) (by rw [hLs44]; rfl) k) ?_
    show own_Fin _ _ _ _ _ _ _ _ (mkF m 271 Ls44 [(.long r3), (.long r3), (.long ((own_sb fE fE) 0))])
    refine own_step (fun t k => XS.lload (v := (9007199254740916 : Int64)) X42.here hx rfl (hb hby at_271) (by rw [hLs44]; rfl) k) ?_
    show own_Fin _ _ _ _ _ _ _ _ (mkF m 273 Ls44 [(.long (9007199254740916 : Int64)), (.long r3), (.long r3), (.long ((own_sb fE fE) 0))])
    obtain ⟨_, _, ⟨T45, L45, k45, n45⟩, -, X45, ⟨Lc45, hQ45, l45, y45, z45⟩, st45⟩ := Jvm.LawKit.callS X42 hx (y := (⟨"com/example/quietwire/quietwire/Field25519SubtractPinLaw", "ok", "(JJJJ)Z"⟩ : MethodName)) hown (mvT hZ (hw _ (List.mem_of_getElem? (i := 14) rfl))) (mvT hZ (hw _ (List.mem_of_getElem? (i := 15) rfl))) (mvT hZ (hw _ (List.mem_of_getElem? (i := 3) rfl))) (mvT hZ (hw _ (List.mem_of_getElem? (i := 16) rfl))) (by decide) (backOf (W := 0) (rm6 l Z a0 hw [] ((own_sb fE fE) 0) r3 r3 (9007199254740916 : Int64) T42.heap n0 Zs) hZ (hw _ (List.mem_of_getElem? (i := 16) rfl)) (hw _ (List.mem_of_getElem? (i := 3) rfl)) (by decide) (by decide)) (g := (mkF m 273 Ls44 [(.long (9007199254740916 : Int64)), (.long r3), (.long r3), (.long ((own_sb fE fE) 0))])) rfl (by rw [hml]; show Array.size Ls44 = _; rw [hLs44]; rfl) (argsL := [(.long ((own_sb fE fE) 0)), (.long r3), (.long r3), (.long (9007199254740916 : Int64))]) (rest := []) (lenOf own_pd_2 rfl) rfl (by show 2 * 0 + _ ≤ _; exact Nat.le_of_eq rfl) (hb hby at_273) (fun _ _ => ⟨rfl, rfl, (by decide : 2 + 0 ≤ _), (by decide : 10 + 0 ≤ _)⟩)
    dsimp only [Pt.U, Pt.locs, Pt.cells, Pt.slots] at X45 l45 y45 z45 st45 hQ45
    rw [l45, y45, z45] at X45
    obtain ⟨r45, rfl, hB45, Nq45, hh45⟩ := hQ45
    replace Nf := Fr.app Nf Nq45
    refine own_step st45 ?_
    show own_Fin _ _ _ _ _ _ _ _ (mkF m 276 Ls44 [(.int r45)])
    have hc46 : ¬ ((r45).toInt = 0) := by
      have e : own_sb fE fE 0 = (r3 + (9007199254740916 : Int64)) - r3 := by rw [own_sb0, hfE_0]
      have o := own_ok r3 r3 (9007199254740916 : Int64) hR3 hR3 (Or.inl own_k0)
      rw [← e] at o
      rcases hB45 with ⟨u1, u2⟩ | ⟨u1, u2⟩
      · rw [u1]; decide
      · exact absurd o u2
    refine own_step (fun t k => XS.ifNo X45.here hx rfl (hb hby at_276) rfl ((if0 _ _).trans (own_cu (x := r45) (y := (0 : Int32)) rfl rfl hc46).1) k) ?_
    show own_Fin _ _ _ _ _ _ _ _ (mkF m 279 Ls44 [])
    refine own_step (fun t k => XS.aload (v := (.ref b2)) X45.here hx rfl (hb hby at_279) (by rw [hLs44]; rfl) rfl k) ?_
    show own_Fin _ _ _ _ _ _ _ _ (mkF m 281 Ls44 [(.ref b2)])
    refine own_step (fun t k => XS.iconst X45.here hx rfl (hb hby at_281) k) ?_
    show own_Fin _ _ _ _ _ _ _ _ (mkF m 282 Ls44 [(.int (1 : Int32)), (.ref b2)])
    refine own_laload X45 hx hZ hh45 V_b2 (k := 1) rfl (by decide) (v := ((own_sb fE fE) 1)) rfl (hb hby at_282) rfl ?_
    show own_Fin _ _ _ _ _ _ _ _ (mkF m 283 Ls44 [(.long ((own_sb fE fE) 1))])
    refine own_step (fun t k => XS.lload (v := r5) X45.here hx rfl (hb hby at_283) (by rw [hLs44]; rfl) k) ?_
    show own_Fin _ _ _ _ _ _ _ _ (mkF m 285 Ls44 [(.long r5), (.long ((own_sb fE fE) 1))])
    refine own_step (fun t k => XS.lload (v := r5) X45.here hx rfl (hb hby at_285) (by rw [hLs44]; rfl) k) ?_
    show own_Fin _ _ _ _ _ _ _ _ (mkF m 287 Ls44 [(.long r5), (.long r5), (.long ((own_sb fE fE) 1))])
    refine own_step (fun t k => XS.lload (v := (9007199254740988 : Int64)) X45.here hx rfl (hb hby at_287) (by rw [hLs44]; rfl) k) ?_
    show own_Fin _ _ _ _ _ _ _ _ (mkF m 289 Ls44 [(.long (9007199254740988 : Int64)), (.long r5), (.long r5), (.long ((own_sb fE fE) 1))])
    obtain ⟨_, _, ⟨T47, L47, k47, n47⟩, -, X47, ⟨Lc47, hQ47, l47, y47, z47⟩, st47⟩ := Jvm.LawKit.callS X45 hx (y := (⟨"com/example/quietwire/quietwire/Field25519SubtractPinLaw", "ok", "(JJJJ)Z"⟩ : MethodName)) hown (mvT hZ (hw _ (List.mem_of_getElem? (i := 14) rfl))) (mvT hZ (hw _ (List.mem_of_getElem? (i := 15) rfl))) (mvT hZ (hw _ (List.mem_of_getElem? (i := 3) rfl))) (mvT hZ (hw _ (List.mem_of_getElem? (i := 16) rfl))) (by decide) (backOf (W := 0) (rm6 l Z a0 hw [] ((own_sb fE fE) 1) r5 r5 (9007199254740988 : Int64) T42.heap n0 Zs) hZ (hw _ (List.mem_of_getElem? (i := 16) rfl)) (hw _ (List.mem_of_getElem? (i := 3) rfl)) (by decide) (by decide)) (g := (mkF m 289 Ls44 [(.long (9007199254740988 : Int64)), (.long r5), (.long r5), (.long ((own_sb fE fE) 1))])) rfl (by rw [hml]; show Array.size Ls44 = _; rw [hLs44]; rfl) (argsL := [(.long ((own_sb fE fE) 1)), (.long r5), (.long r5), (.long (9007199254740988 : Int64))]) (rest := []) (lenOf own_pd_2 rfl) rfl (by show 2 * 0 + _ ≤ _; exact Nat.le_of_eq rfl) (hb hby at_289) (fun _ _ => ⟨rfl, hh45, (by decide : 2 + 0 ≤ _), (by decide : 10 + 0 ≤ _)⟩)
    dsimp only [Pt.U, Pt.locs, Pt.cells, Pt.slots] at X47 l47 y47 z47 st47 hQ47
    rw [l47, y47, z47] at X47
    obtain ⟨r47, rfl, hB47, Nq47, hh47⟩ := hQ47
    replace Nf := Fr.app Nf Nq47
    refine own_step st47 ?_
    show own_Fin _ _ _ _ _ _ _ _ (mkF m 292 Ls44 [(.int r47)])
    have hc48 : ¬ ((r47).toInt = 0) := by
      have e : own_sb fE fE 1 = (r5 + (9007199254740988 : Int64)) - r5 := by rw [own_sbn _ _ 1 (by decide), hfE_1]
      have o := own_ok r5 r5 (9007199254740988 : Int64) hR5 hR5 (Or.inr own_k1)
      rw [← e] at o
      rcases hB47 with ⟨u1, u2⟩ | ⟨u1, u2⟩
      · rw [u1]; decide
      · exact absurd o u2
    refine own_step (fun t k => XS.ifNo X47.here hx rfl (hb hby at_292) rfl ((if0 _ _).trans (own_cu (x := r47) (y := (0 : Int32)) rfl rfl hc48).1) k) ?_
    show own_Fin _ _ _ _ _ _ _ _ (mkF m 295 Ls44 [])
    refine own_step (fun t k => XS.aload (v := (.ref b2)) X47.here hx rfl (hb hby at_295) (by rw [hLs44]; rfl) rfl k) ?_
    show own_Fin _ _ _ _ _ _ _ _ (mkF m 297 Ls44 [(.ref b2)])
    refine own_step (fun t k => XS.iconst X47.here hx rfl (hb hby at_297) k) ?_
    show own_Fin _ _ _ _ _ _ _ _ (mkF m 298 Ls44 [(.int (2 : Int32)), (.ref b2)])
    refine own_laload X47 hx hZ hh47 V_b2 (k := 2) rfl (by decide) (v := ((own_sb fE fE) 2)) rfl (hb hby at_298) rfl ?_
    show own_Fin _ _ _ _ _ _ _ _ (mkF m 299 Ls44 [(.long ((own_sb fE fE) 2))])
    refine own_step (fun t k => XS.lload (v := r7) X47.here hx rfl (hb hby at_299) (by rw [hLs44]; rfl) k) ?_
    show own_Fin _ _ _ _ _ _ _ _ (mkF m 301 Ls44 [(.long r7), (.long ((own_sb fE fE) 2))])
    refine own_step (fun t k => XS.lload (v := r7) X47.here hx rfl (hb hby at_301) (by rw [hLs44]; rfl) k) ?_
    show own_Fin _ _ _ _ _ _ _ _ (mkF m 303 Ls44 [(.long r7), (.long r7), (.long ((own_sb fE fE) 2))])
    refine own_step (fun t k => XS.lload (v := (9007199254740988 : Int64)) X47.here hx rfl (hb hby at_303) (by rw [hLs44]; rfl) k) ?_
    show own_Fin _ _ _ _ _ _ _ _ (mkF m 305 Ls44 [(.long (9007199254740988 : Int64)), (.long r7), (.long r7), (.long ((own_sb fE fE) 2))])
    obtain ⟨_, _, ⟨T49, L49, k49, n49⟩, -, X49, ⟨Lc49, hQ49, l49, y49, z49⟩, st49⟩ := Jvm.LawKit.callS X47 hx (y := (⟨"com/example/quietwire/quietwire/Field25519SubtractPinLaw", "ok", "(JJJJ)Z"⟩ : MethodName)) hown (mvT hZ (hw _ (List.mem_of_getElem? (i := 14) rfl))) (mvT hZ (hw _ (List.mem_of_getElem? (i := 15) rfl))) (mvT hZ (hw _ (List.mem_of_getElem? (i := 3) rfl))) (mvT hZ (hw _ (List.mem_of_getElem? (i := 16) rfl))) (by decide) (backOf (W := 0) (rm6 l Z a0 hw [] ((own_sb fE fE) 2) r7 r7 (9007199254740988 : Int64) T42.heap n0 Zs) hZ (hw _ (List.mem_of_getElem? (i := 16) rfl)) (hw _ (List.mem_of_getElem? (i := 3) rfl)) (by decide) (by decide)) (g := (mkF m 305 Ls44 [(.long (9007199254740988 : Int64)), (.long r7), (.long r7), (.long ((own_sb fE fE) 2))])) rfl (by rw [hml]; show Array.size Ls44 = _; rw [hLs44]; rfl) (argsL := [(.long ((own_sb fE fE) 2)), (.long r7), (.long r7), (.long (9007199254740988 : Int64))]) (rest := []) (lenOf own_pd_2 rfl) rfl (by show 2 * 0 + _ ≤ _; exact Nat.le_of_eq rfl) (hb hby at_305) (fun _ _ => ⟨rfl, hh47, (by decide : 2 + 0 ≤ _), (by decide : 10 + 0 ≤ _)⟩)
    dsimp only [Pt.U, Pt.locs, Pt.cells, Pt.slots] at X49 l49 y49 z49 st49 hQ49
    rw [l49, y49, z49] at X49
    obtain ⟨r49, rfl, hB49, Nq49, hh49⟩ := hQ49
    replace Nf := Fr.app Nf Nq49
    refine own_step st49 ?_
    show own_Fin _ _ _ _ _ _ _ _ (mkF m 308 Ls44 [(.int r49)])
    have hc50 : ¬ ((r49).toInt = 0) := by
      have e : own_sb fE fE 2 = (r7 + (9007199254740988 : Int64)) - r7 := by rw [own_sbn _ _ 2 (by decide), hfE_2]
      have o := own_ok r7 r7 (9007199254740988 : Int64) hR7 hR7 (Or.inr own_k1)
      rw [← e] at o
      rcases hB49 with ⟨u1, u2⟩ | ⟨u1, u2⟩
      · rw [u1]; decide
      · exact absurd o u2
    refine own_step (fun t k => XS.ifNo X49.here hx rfl (hb hby at_308) rfl ((if0 _ _).trans (own_cu (x := r49) (y := (0 : Int32)) rfl rfl hc50).1) k) ?_
    show own_Fin _ _ _ _ _ _ _ _ (mkF m 311 Ls44 [])
    refine own_step (fun t k => XS.aload (v := (.ref b2)) X49.here hx rfl (hb hby at_311) (by rw [hLs44]; rfl) rfl k) ?_
    show own_Fin _ _ _ _ _ _ _ _ (mkF m 313 Ls44 [(.ref b2)])
    refine own_step (fun t k => XS.iconst X49.here hx rfl (hb hby at_313) k) ?_
    show own_Fin _ _ _ _ _ _ _ _ (mkF m 314 Ls44 [(.int (3 : Int32)), (.ref b2)])
    refine own_laload X49 hx hZ hh49 V_b2 (k := 3) rfl (by decide) (v := ((own_sb fE fE) 3)) rfl (hb hby at_314) rfl ?_
    show own_Fin _ _ _ _ _ _ _ _ (mkF m 315 Ls44 [(.long ((own_sb fE fE) 3))])
    refine own_step (fun t k => XS.lload (v := r9) X49.here hx rfl (hb hby at_315) (by rw [hLs44]; rfl) k) ?_
    show own_Fin _ _ _ _ _ _ _ _ (mkF m 317 Ls44 [(.long r9), (.long ((own_sb fE fE) 3))])
    refine own_step (fun t k => XS.lload (v := r9) X49.here hx rfl (hb hby at_317) (by rw [hLs44]; rfl) k) ?_
    show own_Fin _ _ _ _ _ _ _ _ (mkF m 319 Ls44 [(.long r9), (.long r9), (.long ((own_sb fE fE) 3))])
    refine own_step (fun t k => XS.lload (v := (9007199254740988 : Int64)) X49.here hx rfl (hb hby at_319) (by rw [hLs44]; rfl) k) ?_
    show own_Fin _ _ _ _ _ _ _ _ (mkF m 321 Ls44 [(.long (9007199254740988 : Int64)), (.long r9), (.long r9), (.long ((own_sb fE fE) 3))])
    obtain ⟨_, _, ⟨T51, L51, k51, n51⟩, -, X51, ⟨Lc51, hQ51, l51, y51, z51⟩, st51⟩ := Jvm.LawKit.callS X49 hx (y := (⟨"com/example/quietwire/quietwire/Field25519SubtractPinLaw", "ok", "(JJJJ)Z"⟩ : MethodName)) hown (mvT hZ (hw _ (List.mem_of_getElem? (i := 14) rfl))) (mvT hZ (hw _ (List.mem_of_getElem? (i := 15) rfl))) (mvT hZ (hw _ (List.mem_of_getElem? (i := 3) rfl))) (mvT hZ (hw _ (List.mem_of_getElem? (i := 16) rfl))) (by decide) (backOf (W := 0) (rm6 l Z a0 hw [] ((own_sb fE fE) 3) r9 r9 (9007199254740988 : Int64) T42.heap n0 Zs) hZ (hw _ (List.mem_of_getElem? (i := 16) rfl)) (hw _ (List.mem_of_getElem? (i := 3) rfl)) (by decide) (by decide)) (g := (mkF m 321 Ls44 [(.long (9007199254740988 : Int64)), (.long r9), (.long r9), (.long ((own_sb fE fE) 3))])) rfl (by rw [hml]; show Array.size Ls44 = _; rw [hLs44]; rfl) (argsL := [(.long ((own_sb fE fE) 3)), (.long r9), (.long r9), (.long (9007199254740988 : Int64))]) (rest := []) (lenOf own_pd_2 rfl) rfl (by show 2 * 0 + _ ≤ _; exact Nat.le_of_eq rfl) (hb hby at_321) (fun _ _ => ⟨rfl, hh49, (by decide : 2 + 0 ≤ _), (by decide : 10 + 0 ≤ _)⟩)
    dsimp only [Pt.U, Pt.locs, Pt.cells, Pt.slots] at X51 l51 y51 z51 st51 hQ51
    rw [l51, y51, z51] at X51
    obtain ⟨r51, rfl, hB51, Nq51, hh51⟩ := hQ51
    replace Nf := Fr.app Nf Nq51
    refine own_step st51 ?_
    show own_Fin _ _ _ _ _ _ _ _ (mkF m 324 Ls44 [(.int r51)])
    have hc52 : ¬ ((r51).toInt = 0) := by
      have e : own_sb fE fE 3 = (r9 + (9007199254740988 : Int64)) - r9 := by rw [own_sbn _ _ 3 (by decide), hfE_3]
      have o := own_ok r9 r9 (9007199254740988 : Int64) hR9 hR9 (Or.inr own_k1)
      rw [← e] at o
      rcases hB51 with ⟨u1, u2⟩ | ⟨u1, u2⟩
      · rw [u1]; decide
      · exact absurd o u2
    refine own_step (fun t k => XS.ifNo X51.here hx rfl (hb hby at_324) rfl ((if0 _ _).trans (own_cu (x := r51) (y := (0 : Int32)) rfl rfl hc52).1) k) ?_
    show own_Fin _ _ _ _ _ _ _ _ (mkF m 327 Ls44 [])
    refine own_step (fun t k => XS.aload (v := (.ref b2)) X51.here hx rfl (hb hby at_327) (by rw [hLs44]; rfl) rfl k) ?_
    show own_Fin _ _ _ _ _ _ _ _ (mkF m 329 Ls44 [(.ref b2)])
    refine own_step (fun t k => XS.iconst X51.here hx rfl (hb hby at_329) k) ?_
    show own_Fin _ _ _ _ _ _ _ _ (mkF m 330 Ls44 [(.int (4 : Int32)), (.ref b2)])
    refine own_laload X51 hx hZ hh51 V_b2 (k := 4) rfl (by decide) (v := ((own_sb fE fE) 4)) rfl (hb hby at_330) rfl ?_
    show own_Fin _ _ _ _ _ _ _ _ (mkF m 331 Ls44 [(.long ((own_sb fE fE) 4))])
    refine own_step (fun t k => XS.lload (v := r11) X51.here hx rfl (hb hby at_331) (by rw [hLs44]; rfl) k) ?_
    show own_Fin _ _ _ _ _ _ _ _ (mkF m 333 Ls44 [(.long r11), (.long ((own_sb fE fE) 4))])
    refine own_step (fun t k => XS.lload (v := r11) X51.here hx rfl (hb hby at_333) (by rw [hLs44]; rfl) k) ?_
    show own_Fin _ _ _ _ _ _ _ _ (mkF m 335 Ls44 [(.long r11), (.long r11), (.long ((own_sb fE fE) 4))])
    refine own_step (fun t k => XS.lload (v := (9007199254740988 : Int64)) X51.here hx rfl (hb hby at_335) (by rw [hLs44]; rfl) k) ?_
    show own_Fin _ _ _ _ _ _ _ _ (mkF m 337 Ls44 [(.long (9007199254740988 : Int64)), (.long r11), (.long r11), (.long ((own_sb fE fE) 4))])
    obtain ⟨_, _, ⟨T53, L53, k53, n53⟩, -, X53, ⟨Lc53, hQ53, l53, y53, z53⟩, st53⟩ := Jvm.LawKit.callS X51 hx (y := (⟨"com/example/quietwire/quietwire/Field25519SubtractPinLaw", "ok", "(JJJJ)Z"⟩ : MethodName)) hown (mvT hZ (hw _ (List.mem_of_getElem? (i := 14) rfl))) (mvT hZ (hw _ (List.mem_of_getElem? (i := 15) rfl))) (mvT hZ (hw _ (List.mem_of_getElem? (i := 3) rfl))) (mvT hZ (hw _ (List.mem_of_getElem? (i := 16) rfl))) (by decide) (backOf (W := 0) (rm6 l Z a0 hw [] ((own_sb fE fE) 4) r11 r11 (9007199254740988 : Int64) T42.heap n0 Zs) hZ (hw _ (List.mem_of_getElem? (i := 16) rfl)) (hw _ (List.mem_of_getElem? (i := 3) rfl)) (by decide) (by decide)) (g := (mkF m 337 Ls44 [(.long (9007199254740988 : Int64)), (.long r11), (.long r11), (.long ((own_sb fE fE) 4))])) rfl (by rw [hml]; show Array.size Ls44 = _; rw [hLs44]; rfl) (argsL := [(.long ((own_sb fE fE) 4)), (.long r11), (.long r11), (.long (9007199254740988 : Int64))]) (rest := []) (lenOf own_pd_2 rfl) rfl (by show 2 * 0 + _ ≤ _; exact Nat.le_of_eq rfl) (hb hby at_337) (fun _ _ => ⟨rfl, hh51, (by decide : 2 + 0 ≤ _), (by decide : 10 + 0 ≤ _)⟩)
    dsimp only [Pt.U, Pt.locs, Pt.cells, Pt.slots] at X53 l53 y53 z53 st53 hQ53
    rw [l53, y53, z53] at X53
    obtain ⟨r53, rfl, hB53, Nq53, hh53⟩ := hQ53
    replace Nf := Fr.app Nf Nq53
    refine own_step st53 ?_
    show own_Fin _ _ _ _ _ _ _ _ (mkF m 340 Ls44 [(.int r53)])
    have hc54 : ¬ ((r53).toInt = 0) := by
      have e : own_sb fE fE 4 = (r11 + (9007199254740988 : Int64)) - r11 := by rw [own_sbn _ _ 4 (by decide), hfE_4]
      have o := own_ok r11 r11 (9007199254740988 : Int64) hR11 hR11 (Or.inr own_k1)
      rw [← e] at o
      rcases hB53 with ⟨u1, u2⟩ | ⟨u1, u2⟩
      · rw [u1]; decide
      · exact absurd o u2
    refine own_step (fun t k => XS.ifNo X53.here hx rfl (hb hby at_340) rfl ((if0 _ _).trans (own_cu (x := r53) (y := (0 : Int32)) rfl rfl hc54).1) k) ?_
    show own_Fin _ _ _ _ _ _ _ _ (mkF m 343 Ls44 [])
    refine own_step (fun t k => XS.iconst X53.here hx rfl (hb hby at_343) k) ?_
    show own_Fin _ _ _ _ _ _ _ _ (mkF m 344 Ls44 [(.int (1 : Int32))])
    refine own_step (fun t k => XS.goto X53.here hx rfl (pc0 := 344) (pc' := 348) rfl (hb hby at_344) (by decide) (by decide) k) ?_
    show own_Fin _ _ _ _ _ _ _ _ (mkF m 348 Ls44 [(.int (1 : Int32))])
    refine own_retZ X53 hx hlk Bd.returns (hb hby at_348) (z' := (1 : Int32)) (by decide) (by decide) (by decide) hh53 ?_
    exact ⟨rfl, Nf⟩
  · skip
    refine own_step (fun t k => XS.icmpYes X24.here hx rfl (pc0 := 113) (pc' := 120) rfl (hb hby at_113) rfl (own_cu (x := md) (y := (3 : Int32)) rfl rfl hc27).2 (by decide) (by decide) k) ?_
    show own_Fin _ _ _ _ _ _ _ _ (mkF m 120 Ls26 [])
    refine own_step (fun t k => XS.aload (v := (.ref b2)) X24.here hx rfl (hb hby at_120) (by rw [hLs26]; rfl) rfl k) ?_
    show own_Fin _ _ _ _ _ _ _ _ (mkF m 122 Ls26 [(.ref b2)])
    refine own_step (fun t k => XS.iconst X24.here hx rfl (hb hby at_122) k) ?_
    show own_Fin _ _ _ _ _ _ _ _ (mkF m 123 Ls26 [(.int (0 : Int32)), (.ref b2)])
    refine own_laload X24 hx hZ e24 V_b2 (k := 0) rfl (by decide) (v := r3) rfl (hb hby at_123) rfl ?_
    show own_Fin _ _ _ _ _ _ _ _ (mkF m 124 Ls26 [(.long r3)])
    obtain ⟨Ls55, hLs55⟩ : ∃ z : Array Slot, z = #[.val (.long q1), .second, .val (.long q2), .second, .val (.long q3), .second, .val (.long q4), .second, .val (.long q5), .second, .val (.long q6), .second, .val (.ref b2), .val (.ref b14), .val (.int md), .val (.long r3), .second, .unset, .unset, .unset, .unset, .unset, .unset, .unset, .unset, .unset, .unset, .unset, .unset, .unset, .unset, .unset, .unset, .unset, .unset, .unset, .unset, .unset, .unset, .unset] := ⟨_, rfl⟩
    refine own_step (fun t k => XS.lstore X24.here hx rfl (hb hby at_124) rfl (l' := Ls55) (by rw [hLs26, hLs55]; rfl) k) ?_
    show own_Fin _ _ _ _ _ _ _ _ (mkF m 126 Ls55 [])
    refine own_step (fun t k => XS.aload (v := (.ref b2)) X24.here hx rfl (hb hby at_126) (by rw [hLs55]; rfl) rfl k) ?_
    show own_Fin _ _ _ _ _ _ _ _ (mkF m 128 Ls55 [(.ref b2)])
    refine own_step (fun t k => XS.iconst X24.here hx rfl (hb hby at_128) k) ?_
    show own_Fin _ _ _ _ _ _ _ _ (mkF m 129 Ls55 [(.int (1 : Int32)), (.ref b2)])
    refine own_laload X24 hx hZ e24 V_b2 (k := 1) rfl (by decide) (v := r5) rfl (hb hby at_129) rfl ?_
    show own_Fin _ _ _ _ _ _ _ _ (mkF m 130 Ls55 [(.long r5)])
    obtain ⟨Ls56, hLs56⟩ : ∃ z : Array Slot, z = #[.val (.long q1), .second, .val (.long q2), .second, .val (.long q3), .second, .val (.long q4), .second, .val (.long q5), .second, .val (.long q6), .second, .val (.ref b2), .val (.ref b14), .val (.int md), .val (.long r3), .second, .val (.long r5), .second, .unset, .unset, .unset, .unset, .unset, .unset, .unset, .unset, .unset, .unset, .unset, .unset, .unset, .unset, .unset, .unset, .unset, .unset, .unset, .unset, .unset] := ⟨_, rfl⟩
    refine own_step (fun t k => XS.lstore X24.here hx rfl (hb hby at_130) rfl (l' := Ls56) (by rw [hLs55, hLs56]; rfl) k) ?_
    show own_Fin _ _ _ _ _ _ _ _ (mkF m 132 Ls56 [])
    refine own_step (fun t k => XS.aload (v := (.ref b2)) X24.here hx rfl (hb hby at_132) (by rw [hLs56]; rfl) rfl k) ?_
    show own_Fin _ _ _ _ _ _ _ _ (mkF m 134 Ls56 [(.ref b2)])
    refine own_step (fun t k => XS.iconst X24.here hx rfl (hb hby at_134) k) ?_
    show own_Fin _ _ _ _ _ _ _ _ (mkF m 135 Ls56 [(.int (2 : Int32)), (.ref b2)])
    refine own_laload X24 hx hZ e24 V_b2 (k := 2) rfl (by decide) (v := r7) rfl (hb hby at_135) rfl ?_
    show own_Fin _ _ _ _ _ _ _ _ (mkF m 136 Ls56 [(.long r7)])
    obtain ⟨Ls57, hLs57⟩ : ∃ z : Array Slot, z = #[.val (.long q1), .second, .val (.long q2), .second, .val (.long q3), .second, .val (.long q4), .second, .val (.long q5), .second, .val (.long q6), .second, .val (.ref b2), .val (.ref b14), .val (.int md), .val (.long r3), .second, .val (.long r5), .second, .val (.long r7), .second, .unset, .unset, .unset, .unset, .unset, .unset, .unset, .unset, .unset, .unset, .unset, .unset, .unset, .unset, .unset, .unset, .unset, .unset, .unset] := ⟨_, rfl⟩
    refine own_step (fun t k => XS.lstore X24.here hx rfl (hb hby at_136) rfl (l' := Ls57) (by rw [hLs56, hLs57]; rfl) k) ?_
    show own_Fin _ _ _ _ _ _ _ _ (mkF m 138 Ls57 [])
    refine own_step (fun t k => XS.aload (v := (.ref b2)) X24.here hx rfl (hb hby at_138) (by rw [hLs57]; rfl) rfl k) ?_
    show own_Fin _ _ _ _ _ _ _ _ (mkF m 140 Ls57 [(.ref b2)])
    refine own_step (fun t k => XS.iconst X24.here hx rfl (hb hby at_140) k) ?_
    show own_Fin _ _ _ _ _ _ _ _ (mkF m 141 Ls57 [(.int (3 : Int32)), (.ref b2)])
    refine own_laload X24 hx hZ e24 V_b2 (k := 3) rfl (by decide) (v := r9) rfl (hb hby at_141) rfl ?_
    show own_Fin _ _ _ _ _ _ _ _ (mkF m 142 Ls57 [(.long r9)])
    obtain ⟨Ls58, hLs58⟩ : ∃ z : Array Slot, z = #[.val (.long q1), .second, .val (.long q2), .second, .val (.long q3), .second, .val (.long q4), .second, .val (.long q5), .second, .val (.long q6), .second, .val (.ref b2), .val (.ref b14), .val (.int md), .val (.long r3), .second, .val (.long r5), .second, .val (.long r7), .second, .val (.long r9), .second, .unset, .unset, .unset, .unset, .unset, .unset, .unset, .unset, .unset, .unset, .unset, .unset, .unset, .unset, .unset, .unset, .unset] := ⟨_, rfl⟩
    refine own_step (fun t k => XS.lstore X24.here hx rfl (hb hby at_142) rfl (l' := Ls58) (by rw [hLs57, hLs58]; rfl) k) ?_
    show own_Fin _ _ _ _ _ _ _ _ (mkF m 144 Ls58 [])
    refine own_step (fun t k => XS.aload (v := (.ref b2)) X24.here hx rfl (hb hby at_144) (by rw [hLs58]; rfl) rfl k) ?_
    show own_Fin _ _ _ _ _ _ _ _ (mkF m 146 Ls58 [(.ref b2)])
    refine own_step (fun t k => XS.iconst X24.here hx rfl (hb hby at_146) k) ?_
    show own_Fin _ _ _ _ _ _ _ _ (mkF m 147 Ls58 [(.int (4 : Int32)), (.ref b2)])
    refine own_laload X24 hx hZ e24 V_b2 (k := 4) rfl (by decide) (v := r11) rfl (hb hby at_147) rfl ?_
    show own_Fin _ _ _ _ _ _ _ _ (mkF m 148 Ls58 [(.long r11)])
    obtain ⟨Ls59, hLs59⟩ : ∃ z : Array Slot, z = #[.val (.long q1), .second, .val (.long q2), .second, .val (.long q3), .second, .val (.long q4), .second, .val (.long q5), .second, .val (.long q6), .second, .val (.ref b2), .val (.ref b14), .val (.int md), .val (.long r3), .second, .val (.long r5), .second, .val (.long r7), .second, .val (.long r9), .second, .val (.long r11), .second, .unset, .unset, .unset, .unset, .unset, .unset, .unset, .unset, .unset, .unset, .unset, .unset, .unset, .unset, .unset] := ⟨_, rfl⟩
    refine own_step (fun t k => XS.lstore X24.here hx rfl (hb hby at_148) rfl (l' := Ls59) (by rw [hLs58, hLs59]; rfl) k) ?_
    show own_Fin _ _ _ _ _ _ _ _ (mkF m 150 Ls59 [])
    refine own_step (fun t k => XS.aload (v := (.ref b14)) X24.here hx rfl (hb hby at_150) (by rw [hLs59]; rfl) rfl k) ?_
    show own_Fin _ _ _ _ _ _ _ _ (mkF m 152 Ls59 [(.ref b14)])
    refine own_step (fun t k => XS.iconst X24.here hx rfl (hb hby at_152) k) ?_
    show own_Fin _ _ _ _ _ _ _ _ (mkF m 153 Ls59 [(.int (0 : Int32)), (.ref b14)])
    refine own_laload X24 hx hZ e24 V_b14 (k := 0) rfl (by decide) (v := r15) rfl (hb hby at_153) rfl ?_
    show own_Fin _ _ _ _ _ _ _ _ (mkF m 154 Ls59 [(.long r15)])
    obtain ⟨Ls60, hLs60⟩ : ∃ z : Array Slot, z = #[.val (.long q1), .second, .val (.long q2), .second, .val (.long q3), .second, .val (.long q4), .second, .val (.long q5), .second, .val (.long q6), .second, .val (.ref b2), .val (.ref b14), .val (.int md), .val (.long r3), .second, .val (.long r5), .second, .val (.long r7), .second, .val (.long r9), .second, .val (.long r11), .second, .val (.long r15), .second, .unset, .unset, .unset, .unset, .unset, .unset, .unset, .unset, .unset, .unset, .unset, .unset, .unset] := ⟨_, rfl⟩
    refine own_step (fun t k => XS.lstore X24.here hx rfl (hb hby at_154) rfl (l' := Ls60) (by rw [hLs59, hLs60]; rfl) k) ?_
    show own_Fin _ _ _ _ _ _ _ _ (mkF m 156 Ls60 [])
    refine own_step (fun t k => XS.aload (v := (.ref b14)) X24.here hx rfl (hb hby at_156) (by rw [hLs60]; rfl) rfl k) ?_
    show own_Fin _ _ _ _ _ _ _ _ (mkF m 158 Ls60 [(.ref b14)])
    refine own_step (fun t k => XS.iconst X24.here hx rfl (hb hby at_158) k) ?_
    show own_Fin _ _ _ _ _ _ _ _ (mkF m 159 Ls60 [(.int (1 : Int32)), (.ref b14)])
    refine own_laload X24 hx hZ e24 V_b14 (k := 1) rfl (by decide) (v := r17) rfl (hb hby at_159) rfl ?_
    show own_Fin _ _ _ _ _ _ _ _ (mkF m 160 Ls60 [(.long r17)])
    obtain ⟨Ls61, hLs61⟩ : ∃ z : Array Slot, z = #[.val (.long q1), .second, .val (.long q2), .second, .val (.long q3), .second, .val (.long q4), .second, .val (.long q5), .second, .val (.long q6), .second, .val (.ref b2), .val (.ref b14), .val (.int md), .val (.long r3), .second, .val (.long r5), .second, .val (.long r7), .second, .val (.long r9), .second, .val (.long r11), .second, .val (.long r15), .second, .val (.long r17), .second, .unset, .unset, .unset, .unset, .unset, .unset, .unset, .unset, .unset, .unset, .unset] := ⟨_, rfl⟩
    refine own_step (fun t k => XS.lstore X24.here hx rfl (hb hby at_160) rfl (l' := Ls61) (by rw [hLs60, hLs61]; rfl) k) ?_
    show own_Fin _ _ _ _ _ _ _ _ (mkF m 162 Ls61 [])
    refine own_step (fun t k => XS.aload (v := (.ref b14)) X24.here hx rfl (hb hby at_162) (by rw [hLs61]; rfl) rfl k) ?_
    show own_Fin _ _ _ _ _ _ _ _ (mkF m 164 Ls61 [(.ref b14)])
    refine own_step (fun t k => XS.iconst X24.here hx rfl (hb hby at_164) k) ?_
    show own_Fin _ _ _ _ _ _ _ _ (mkF m 165 Ls61 [(.int (2 : Int32)), (.ref b14)])
    refine own_laload X24 hx hZ e24 V_b14 (k := 2) rfl (by decide) (v := r19) rfl (hb hby at_165) rfl ?_
    show own_Fin _ _ _ _ _ _ _ _ (mkF m 166 Ls61 [(.long r19)])
    obtain ⟨Ls62, hLs62⟩ : ∃ z : Array Slot, z = #[.val (.long q1), .second, .val (.long q2), .second, .val (.long q3), .second, .val (.long q4), .second, .val (.long q5), .second, .val (.long q6), .second, .val (.ref b2), .val (.ref b14), .val (.int md), .val (.long r3), .second, .val (.long r5), .second, .val (.long r7), .second, .val (.long r9), .second, .val (.long r11), .second, .val (.long r15), .second, .val (.long r17), .second, .val (.long r19), .second, .unset, .unset, .unset, .unset, .unset, .unset, .unset, .unset, .unset] := ⟨_, rfl⟩
    refine own_step (fun t k => XS.lstore X24.here hx rfl (hb hby at_166) rfl (l' := Ls62) (by rw [hLs61, hLs62]; rfl) k) ?_
    show own_Fin _ _ _ _ _ _ _ _ (mkF m 168 Ls62 [])
    refine own_step (fun t k => XS.aload (v := (.ref b14)) X24.here hx rfl (hb hby at_168) (by rw [hLs62]; rfl) rfl k) ?_
    show own_Fin _ _ _ _ _ _ _ _ (mkF m 170 Ls62 [(.ref b14)])
    refine own_step (fun t k => XS.iconst X24.here hx rfl (hb hby at_170) k) ?_
    show own_Fin _ _ _ _ _ _ _ _ (mkF m 171 Ls62 [(.int (3 : Int32)), (.ref b14)])
    refine own_laload X24 hx hZ e24 V_b14 (k := 3) rfl (by decide) (v := r21) rfl (hb hby at_171) rfl ?_
    show own_Fin _ _ _ _ _ _ _ _ (mkF m 172 Ls62 [(.long r21)])
    obtain ⟨Ls63, hLs63⟩ : ∃ z : Array Slot, z = #[.val (.long q1), .second, .val (.long q2), .second, .val (.long q3), .second, .val (.long q4), .second, .val (.long q5), .second, .val (.long q6), .second, .val (.ref b2), .val (.ref b14), .val (.int md), .val (.long r3), .second, .val (.long r5), .second, .val (.long r7), .second, .val (.long r9), .second, .val (.long r11), .second, .val (.long r15), .second, .val (.long r17), .second, .val (.long r19), .second, .val (.long r21), .second, .unset, .unset, .unset, .unset, .unset, .unset, .unset] := ⟨_, rfl⟩
    refine own_step (fun t k => XS.lstore X24.here hx rfl (hb hby at_172) rfl (l' := Ls63) (by rw [hLs62, hLs63]; rfl) k) ?_
    show own_Fin _ _ _ _ _ _ _ _ (mkF m 174 Ls63 [])
    refine own_step (fun t k => XS.aload (v := (.ref b14)) X24.here hx rfl (hb hby at_174) (by rw [hLs63]; rfl) rfl k) ?_
    show own_Fin _ _ _ _ _ _ _ _ (mkF m 176 Ls63 [(.ref b14)])
    refine own_step (fun t k => XS.iconst X24.here hx rfl (hb hby at_176) k) ?_
    show own_Fin _ _ _ _ _ _ _ _ (mkF m 177 Ls63 [(.int (4 : Int32)), (.ref b14)])
    refine own_laload X24 hx hZ e24 V_b14 (k := 4) rfl (by decide) (v := r23) rfl (hb hby at_177) rfl ?_
    show own_Fin _ _ _ _ _ _ _ _ (mkF m 178 Ls63 [(.long r23)])
    obtain ⟨Ls64, hLs64⟩ : ∃ z : Array Slot, z = #[.val (.long q1), .second, .val (.long q2), .second, .val (.long q3), .second, .val (.long q4), .second, .val (.long q5), .second, .val (.long q6), .second, .val (.ref b2), .val (.ref b14), .val (.int md), .val (.long r3), .second, .val (.long r5), .second, .val (.long r7), .second, .val (.long r9), .second, .val (.long r11), .second, .val (.long r15), .second, .val (.long r17), .second, .val (.long r19), .second, .val (.long r21), .second, .val (.long r23), .second, .unset, .unset, .unset, .unset, .unset] := ⟨_, rfl⟩
    refine own_step (fun t k => XS.lstore X24.here hx rfl (hb hby at_178) rfl (l' := Ls64) (by rw [hLs63, hLs64]; rfl) k) ?_
    show own_Fin _ _ _ _ _ _ _ _ (mkF m 180 Ls64 [])
    refine own_step (fun t k => XS.iload (v := md) X24.here hx rfl (hb hby at_180) (by rw [hLs64]; rfl) k) ?_
    show own_Fin _ _ _ _ _ _ _ _ (mkF m 182 Ls64 [(.int md)])
    refine own_step (fun t k => XS.iconst X24.here hx rfl (hb hby at_182) k) ?_
    show own_Fin _ _ _ _ _ _ _ _ (mkF m 183 Ls64 [(.int (1 : Int32)), (.int md)])
    by_cases hc65 : (md).toInt = 1
    · skip
      refine own_step (fun t k => XS.icmpYes X24.here hx rfl (pc0 := 183) (pc' := 192) rfl (hb hby at_183) rfl (own_ce (x := md) (y := (1 : Int32)) rfl rfl hc65).1 (by decide) (by decide) k) ?_
      show own_Fin _ _ _ _ _ _ _ _ (mkF m 192 Ls64 [])
      refine own_step (fun t k => XS.aload (v := (.ref b2)) X24.here hx rfl (hb hby at_192) (by rw [hLs64]; rfl) rfl k) ?_
      show own_Fin _ _ _ _ _ _ _ _ (mkF m 194 Ls64 [(.ref b2)])
      obtain ⟨Ls66, hLs66⟩ : ∃ z : Array Slot, z = #[.val (.long q1), .second, .val (.long q2), .second, .val (.long q3), .second, .val (.long q4), .second, .val (.long q5), .second, .val (.long q6), .second, .val (.ref b2), .val (.ref b14), .val (.int md), .val (.long r3), .second, .val (.long r5), .second, .val (.long r7), .second, .val (.long r9), .second, .val (.long r11), .second, .val (.long r15), .second, .val (.long r17), .second, .val (.long r19), .second, .val (.long r21), .second, .val (.long r23), .second, .val (.ref b2), .unset, .unset, .unset, .unset] := ⟨_, rfl⟩
      refine own_step (fun t k => XS.astore X24.here hx rfl (hb hby at_194) rfl rfl (l' := Ls66) (by rw [hLs64, hLs66]; rfl) k) ?_
      show own_Fin _ _ _ _ _ _ _ _ (mkF m 196 Ls66 [])
      refine own_step (fun t k => XS.goto X24.here hx rfl (pc0 := 196) (pc' := 244) rfl (hb hby at_196) (by decide) (by decide) k) ?_
      show own_Fin _ _ _ _ _ _ _ _ (mkF m 244 Ls66 [])
      obtain ⟨fE, V_b2, hfE_0, hfE_1, hfE_2, hfE_3, hfE_4⟩ : ∃ f, own_AJ Z h24 b2 5 f ∧ f 0 = r3 ∧ f 1 = r5 ∧ f 2 = r7 ∧ f 3 = r9 ∧ f 4 = r11 := ⟨_, V_b2, rfl, rfl, rfl, rfl, rfl⟩
      obtain ⟨gE, V_b14, hgE_0, hgE_1, hgE_2, hgE_3, hgE_4⟩ : ∃ f, own_AJ Z h24 b14 5 f ∧ f 0 = r15 ∧ f 1 = r17 ∧ f 2 = r19 ∧ f 3 = r21 ∧ f 4 = r23 := ⟨_, V_b14, rfl, rfl, rfl, rfl, rfl⟩
      refine own_step (fun t k => XS.aload (v := (.ref b2)) X24.here hx rfl (hb hby at_244) (by rw [hLs66]; rfl) rfl k) ?_
      show own_Fin _ _ _ _ _ _ _ _ (mkF m 246 Ls66 [(.ref b2)])
      refine own_step (fun t k => XS.aload (v := (.ref b2)) X24.here hx rfl (hb hby at_246) (by rw [hLs66]; rfl) rfl k) ?_
      show own_Fin _ _ _ _ _ _ _ _ (mkF m 248 Ls66 [(.ref b2), (.ref b2)])
      refine own_step (fun t k => XS.aload (v := (.ref b14)) X24.here hx rfl (hb hby at_248) (by rw [hLs66]; rfl) rfl k) ?_
      show own_Fin _ _ _ _ _ _ _ _ (mkF m 250 Ls66 [(.ref b14), (.ref b2), (.ref b2)])
      obtain ⟨_, _, ⟨T67, L67, k67, n67⟩, -, X67, ⟨Lc67, hQ67, l67, y67, z67⟩, st67⟩ := Jvm.LawKit.callS X24 hx (y := (⟨"com/example/quietwire/quietwire/Field25519", "subtract", "([J[J[J)V"⟩ : MethodName)) hown (mvT hZ (hw _ (List.mem_of_getElem? (i := 7) rfl))) (mvT hZ (hw _ (List.mem_of_getElem? (i := 8) rfl))) (mvT hZ (hw _ (List.mem_of_getElem? (i := 9) rfl))) (mvT hZ (hw _ (List.mem_of_getElem? (i := 10) rfl))) (by decide) (backOf (W := 0) (rm2 l Z a0 hw [] b2 b14 _ _ h24 n0 Zs V_b2 V_b14 g_b2 ne_b2_b14) hZ (hw _ (List.mem_of_getElem? (i := 10) rfl)) (hw _ (List.mem_of_getElem? (i := 9) rfl)) (by decide) (by decide)) (g := (mkF m 250 Ls66 [(.ref b14), (.ref b2), (.ref b2)])) rfl (by rw [hml]; show Array.size Ls66 = _; rw [hLs66]; rfl) (argsL := [(.ref b2), (.ref b2), (.ref b14)]) (rest := []) (lenOf own_pd_1 rfl) rfl (by show 2 * 0 + _ ≤ _; exact Nat.le_of_eq rfl) (hb hby at_250) (fun _ _ => ⟨rfl, e24, (by decide : 2 + 0 ≤ _), (by decide : 10 + 0 ≤ _)⟩)
      dsimp only [Pt.U, Pt.locs, Pt.cells, Pt.slots] at X67 l67 y67 z67 st67 hQ67
      rw [l67, y67, z67] at X67
      obtain ⟨rfl, Nq67, Kq67, P67_0⟩ := hQ67
      replace Nf := Fr.app Nf Nq67
      replace V_b2 := P67_0
      replace V_b14 := V_b14.keep Kq67 (ninS (Ne.symm ne_b2_b14) nin0)
      replace Zs := Nat.le_trans Zs Kq67.1
      refine own_step st67 ?_
      show own_Fin _ _ _ _ _ _ _ _ (mkF m 253 Ls66 [])
      refine own_step (fun t k => X67.ldc2Long hx hown (mvT hZ (hw _ (List.mem_of_getElem? (i := 5) rfl))) (g := (mkF m 253 Ls66 [])) rfl (hb hby at_253) _ k) ?_
      show own_Fin _ _ _ _ _ _ _ _ (mkF m 256 Ls66 [(.long (9007199254740916 : Int64))])
      obtain ⟨Ls68, hLs68⟩ : ∃ z : Array Slot, z = #[.val (.long q1), .second, .val (.long q2), .second, .val (.long q3), .second, .val (.long q4), .second, .val (.long q5), .second, .val (.long q6), .second, .val (.ref b2), .val (.ref b14), .val (.int md), .val (.long r3), .second, .val (.long r5), .second, .val (.long r7), .second, .val (.long r9), .second, .val (.long r11), .second, .val (.long r15), .second, .val (.long r17), .second, .val (.long r19), .second, .val (.long r21), .second, .val (.long r23), .second, .val (.ref b2), .val (.long (9007199254740916 : Int64)), .second, .unset, .unset] := ⟨_, rfl⟩
      refine own_step (fun t k => XS.lstore X67.here hx rfl (hb hby at_256) rfl (l' := Ls68) (by rw [hLs66, hLs68]; rfl) k) ?_
      show own_Fin _ _ _ _ _ _ _ _ (mkF m 258 Ls68 [])
      refine own_step (fun t k => X67.ldc2Long hx hown (mvT hZ (hw _ (List.mem_of_getElem? (i := 13) rfl))) (g := (mkF m 258 Ls68 [])) rfl (hb hby at_258) _ k) ?_
      show own_Fin _ _ _ _ _ _ _ _ (mkF m 261 Ls68 [(.long (9007199254740988 : Int64))])
      obtain ⟨Ls69, hLs69⟩ : ∃ z : Array Slot, z = #[.val (.long q1), .second, .val (.long q2), .second, .val (.long q3), .second, .val (.long q4), .second, .val (.long q5), .second, .val (.long q6), .second, .val (.ref b2), .val (.ref b14), .val (.int md), .val (.long r3), .second, .val (.long r5), .second, .val (.long r7), .second, .val (.long r9), .second, .val (.long r11), .second, .val (.long r15), .second, .val (.long r17), .second, .val (.long r19), .second, .val (.long r21), .second, .val (.long r23), .second, .val (.ref b2), .val (.long (9007199254740916 : Int64)), .second, .val (.long (9007199254740988 : Int64)), .second] := ⟨_, rfl⟩
      refine own_step (fun t k => XS.lstore X67.here hx rfl (hb hby at_261) rfl (l' := Ls69) (by rw [hLs68, hLs69]; rfl) k) ?_
      show own_Fin _ _ _ _ _ _ _ _ (mkF m 263 Ls69 [])
      refine own_step (fun t k => XS.aload (v := (.ref b2)) X67.here hx rfl (hb hby at_263) (by rw [hLs69]; rfl) rfl k) ?_
      show own_Fin _ _ _ _ _ _ _ _ (mkF m 265 Ls69 [(.ref b2)])
      refine own_step (fun t k => XS.iconst X67.here hx rfl (hb hby at_265) k) ?_
      show own_Fin _ _ _ _ _ _ _ _ (mkF m 266 Ls69 [(.int (0 : Int32)), (.ref b2)])
      refine own_laload X67 hx hZ rfl V_b2 (k := 0) rfl (by decide) (v := ((own_sb fE gE) 0)) rfl (hb hby at_266) rfl ?_
      show own_Fin _ _ _ _ _ _ _ _ (mkF m 267 Ls69 [(.long ((own_sb fE gE) 0))])
      refine own_step (fun t k => XS.lload (v := r3) X67.here hx rfl (hb hby at_267) (by rw [hLs69]; rfl) k) ?_
      show own_Fin _ _ _ _ _ _ _ _ (mkF m 269 Ls69 [(.long r3), (.long ((own_sb fE gE) 0))])
      refine own_step (fun t k => XS.lload (v := r15) X67.here hx rfl (hb hby at_269) (by rw [hLs69]; rfl) k) ?_
      show own_Fin _ _ _ _ _ _ _ _ (mkF m 271 Ls69 [(.long r15), (.long r3), (.long ((own_sb fE gE) 0))])
      refine own_step (fun t k => XS.lload (v := (9007199254740916 : Int64)) X67.here hx rfl (hb hby at_271) (by rw [hLs69]; rfl) k) ?_
      show own_Fin _ _ _ _ _ _ _ _ (mkF m 273 Ls69 [(.long (9007199254740916 : Int64)), (.long r15), (.long r3), (.long ((own_sb fE gE) 0))])
      obtain ⟨_, _, ⟨T70, L70, k70, n70⟩, -, X70, ⟨Lc70, hQ70, l70, y70, z70⟩, st70⟩ := Jvm.LawKit.callS X67 hx (y := (⟨"com/example/quietwire/quietwire/Field25519SubtractPinLaw", "ok", "(JJJJ)Z"⟩ : MethodName)) hown (mvT hZ (hw _ (List.mem_of_getElem? (i := 14) rfl))) (mvT hZ (hw _ (List.mem_of_getElem? (i := 15) rfl))) (mvT hZ (hw _ (List.mem_of_getElem? (i := 3) rfl))) (mvT hZ (hw _ (List.mem_of_getElem? (i := 16) rfl))) (by decide) (backOf (W := 0) (rm6 l Z a0 hw [] ((own_sb fE gE) 0) r3 r15 (9007199254740916 : Int64) T67.heap n0 Zs) hZ (hw _ (List.mem_of_getElem? (i := 16) rfl)) (hw _ (List.mem_of_getElem? (i := 3) rfl)) (by decide) (by decide)) (g := (mkF m 273 Ls69 [(.long (9007199254740916 : Int64)), (.long r15), (.long r3), (.long ((own_sb fE gE) 0))])) rfl (by rw [hml]; show Array.size Ls69 = _; rw [hLs69]; rfl) (argsL := [(.long ((own_sb fE gE) 0)), (.long r3), (.long r15), (.long (9007199254740916 : Int64))]) (rest := []) (lenOf own_pd_2 rfl) rfl (by show 2 * 0 + _ ≤ _; exact Nat.le_of_eq rfl) (hb hby at_273) (fun _ _ => ⟨rfl, rfl, (by decide : 2 + 0 ≤ _), (by decide : 10 + 0 ≤ _)⟩)
      dsimp only [Pt.U, Pt.locs, Pt.cells, Pt.slots] at X70 l70 y70 z70 st70 hQ70
      rw [l70, y70, z70] at X70
      obtain ⟨r70, rfl, hB70, Nq70, hh70⟩ := hQ70
      replace Nf := Fr.app Nf Nq70
      refine own_step st70 ?_
      show own_Fin _ _ _ _ _ _ _ _ (mkF m 276 Ls69 [(.int r70)])
      have hc71 : ¬ ((r70).toInt = 0) := by
        have e : own_sb fE gE 0 = (r3 + (9007199254740916 : Int64)) - r15 := by rw [own_sb0, hfE_0, hgE_0]
        have o := own_ok r3 r15 (9007199254740916 : Int64) hR3 hR15 (Or.inl own_k0)
        rw [← e] at o
        rcases hB70 with ⟨u1, u2⟩ | ⟨u1, u2⟩
        · rw [u1]; decide
        · exact absurd o u2
      refine own_step (fun t k => XS.ifNo X70.here hx rfl (hb hby at_276) rfl ((if0 _ _).trans (own_cu (x := r70) (y := (0 : Int32)) rfl rfl hc71).1) k) ?_
      show own_Fin _ _ _ _ _ _ _ _ (mkF m 279 Ls69 [])
      refine own_step (fun t k => XS.aload (v := (.ref b2)) X70.here hx rfl (hb hby at_279) (by rw [hLs69]; rfl) rfl k) ?_
      show own_Fin _ _ _ _ _ _ _ _ (mkF m 281 Ls69 [(.ref b2)])
      refine own_step (fun t k => XS.iconst X70.here hx rfl (hb hby at_281) k) ?_
      show own_Fin _ _ _ _ _ _ _ _ (mkF m 282 Ls69 [(.int (1 : Int32)), (.ref b2)])
      refine own_laload X70 hx hZ hh70 V_b2 (k := 1) rfl (by decide) (v := ((own_sb fE gE) 1)) rfl (hb hby at_282) rfl ?_
      show own_Fin _ _ _ _ _ _ _ _ (mkF m 283 Ls69 [(.long ((own_sb fE gE) 1))])
      refine own_step (fun t k => XS.lload (v := r5) X70.here hx rfl (hb hby at_283) (by rw [hLs69]; rfl) k) ?_
      show own_Fin _ _ _ _ _ _ _ _ (mkF m 285 Ls69 [(.long r5), (.long ((own_sb fE gE) 1))])
      refine own_step (fun t k => XS.lload (v := r17) X70.here hx rfl (hb hby at_285) (by rw [hLs69]; rfl) k) ?_
      show own_Fin _ _ _ _ _ _ _ _ (mkF m 287 Ls69 [(.long r17), (.long r5), (.long ((own_sb fE gE) 1))])
      refine own_step (fun t k => XS.lload (v := (9007199254740988 : Int64)) X70.here hx rfl (hb hby at_287) (by rw [hLs69]; rfl) k) ?_
      show own_Fin _ _ _ _ _ _ _ _ (mkF m 289 Ls69 [(.long (9007199254740988 : Int64)), (.long r17), (.long r5), (.long ((own_sb fE gE) 1))])
      obtain ⟨_, _, ⟨T72, L72, k72, n72⟩, -, X72, ⟨Lc72, hQ72, l72, y72, z72⟩, st72⟩ := Jvm.LawKit.callS X70 hx (y := (⟨"com/example/quietwire/quietwire/Field25519SubtractPinLaw", "ok", "(JJJJ)Z"⟩ : MethodName)) hown (mvT hZ (hw _ (List.mem_of_getElem? (i := 14) rfl))) (mvT hZ (hw _ (List.mem_of_getElem? (i := 15) rfl))) (mvT hZ (hw _ (List.mem_of_getElem? (i := 3) rfl))) (mvT hZ (hw _ (List.mem_of_getElem? (i := 16) rfl))) (by decide) (backOf (W := 0) (rm6 l Z a0 hw [] ((own_sb fE gE) 1) r5 r17 (9007199254740988 : Int64) T67.heap n0 Zs) hZ (hw _ (List.mem_of_getElem? (i := 16) rfl)) (hw _ (List.mem_of_getElem? (i := 3) rfl)) (by decide) (by decide)) (g := (mkF m 289 Ls69 [(.long (9007199254740988 : Int64)), (.long r17), (.long r5), (.long ((own_sb fE gE) 1))])) rfl (by rw [hml]; show Array.size Ls69 = _; rw [hLs69]; rfl) (argsL := [(.long ((own_sb fE gE) 1)), (.long r5), (.long r17), (.long (9007199254740988 : Int64))]) (rest := []) (lenOf own_pd_2 rfl) rfl (by show 2 * 0 + _ ≤ _; exact Nat.le_of_eq rfl) (hb hby at_289) (fun _ _ => ⟨rfl, hh70, (by decide : 2 + 0 ≤ _), (by decide : 10 + 0 ≤ _)⟩)
      dsimp only [Pt.U, Pt.locs, Pt.cells, Pt.slots] at X72 l72 y72 z72 st72 hQ72
      rw [l72, y72, z72] at X72
      obtain ⟨r72, rfl, hB72, Nq72, hh72⟩ := hQ72
      replace Nf := Fr.app Nf Nq72
      refine own_step st72 ?_
      show own_Fin _ _ _ _ _ _ _ _ (mkF m 292 Ls69 [(.int r72)])
      have hc73 : ¬ ((r72).toInt = 0) := by
        have e : own_sb fE gE 1 = (r5 + (9007199254740988 : Int64)) - r17 := by rw [own_sbn _ _ 1 (by decide), hfE_1, hgE_1]
        have o := own_ok r5 r17 (9007199254740988 : Int64) hR5 hR17 (Or.inr own_k1)
        rw [← e] at o
        rcases hB72 with ⟨u1, u2⟩ | ⟨u1, u2⟩
        · rw [u1]; decide
        · exact absurd o u2
      refine own_step (fun t k => XS.ifNo X72.here hx rfl (hb hby at_292) rfl ((if0 _ _).trans (own_cu (x := r72) (y := (0 : Int32)) rfl rfl hc73).1) k) ?_
      show own_Fin _ _ _ _ _ _ _ _ (mkF m 295 Ls69 [])
      refine own_step (fun t k => XS.aload (v := (.ref b2)) X72.here hx rfl (hb hby at_295) (by rw [hLs69]; rfl) rfl k) ?_
      show own_Fin _ _ _ _ _ _ _ _ (mkF m 297 Ls69 [(.ref b2)])
      refine own_step (fun t k => XS.iconst X72.here hx rfl (hb hby at_297) k) ?_
      show own_Fin _ _ _ _ _ _ _ _ (mkF m 298 Ls69 [(.int (2 : Int32)), (.ref b2)])
      refine own_laload X72 hx hZ hh72 V_b2 (k := 2) rfl (by decide) (v := ((own_sb fE gE) 2)) rfl (hb hby at_298) rfl ?_
      show own_Fin _ _ _ _ _ _ _ _ (mkF m 299 Ls69 [(.long ((own_sb fE gE) 2))])
      refine own_step (fun t k => XS.lload (v := r7) X72.here hx rfl (hb hby at_299) (by rw [hLs69]; rfl) k) ?_
      show own_Fin _ _ _ _ _ _ _ _ (mkF m 301 Ls69 [(.long r7), (.long ((own_sb fE gE) 2))])
      refine own_step (fun t k => XS.lload (v := r19) X72.here hx rfl (hb hby at_301) (by rw [hLs69]; rfl) k) ?_
      show own_Fin _ _ _ _ _ _ _ _ (mkF m 303 Ls69 [(.long r19), (.long r7), (.long ((own_sb fE gE) 2))])
      refine own_step (fun t k => XS.lload (v := (9007199254740988 : Int64)) X72.here hx rfl (hb hby at_303) (by rw [hLs69]; rfl) k) ?_
      show own_Fin _ _ _ _ _ _ _ _ (mkF m 305 Ls69 [(.long (9007199254740988 : Int64)), (.long r19), (.long r7), (.long ((own_sb fE gE) 2))])
      obtain ⟨_, _, ⟨T74, L74, k74, n74⟩, -, X74, ⟨Lc74, hQ74, l74, y74, z74⟩, st74⟩ := Jvm.LawKit.callS X72 hx (y := (⟨"com/example/quietwire/quietwire/Field25519SubtractPinLaw", "ok", "(JJJJ)Z"⟩ : MethodName)) hown (mvT hZ (hw _ (List.mem_of_getElem? (i := 14) rfl))) (mvT hZ (hw _ (List.mem_of_getElem? (i := 15) rfl))) (mvT hZ (hw _ (List.mem_of_getElem? (i := 3) rfl))) (mvT hZ (hw _ (List.mem_of_getElem? (i := 16) rfl))) (by decide) (backOf (W := 0) (rm6 l Z a0 hw [] ((own_sb fE gE) 2) r7 r19 (9007199254740988 : Int64) T67.heap n0 Zs) hZ (hw _ (List.mem_of_getElem? (i := 16) rfl)) (hw _ (List.mem_of_getElem? (i := 3) rfl)) (by decide) (by decide)) (g := (mkF m 305 Ls69 [(.long (9007199254740988 : Int64)), (.long r19), (.long r7), (.long ((own_sb fE gE) 2))])) rfl (by rw [hml]; show Array.size Ls69 = _; rw [hLs69]; rfl) (argsL := [(.long ((own_sb fE gE) 2)), (.long r7), (.long r19), (.long (9007199254740988 : Int64))]) (rest := []) (lenOf own_pd_2 rfl) rfl (by show 2 * 0 + _ ≤ _; exact Nat.le_of_eq rfl) (hb hby at_305) (fun _ _ => ⟨rfl, hh72, (by decide : 2 + 0 ≤ _), (by decide : 10 + 0 ≤ _)⟩)
      dsimp only [Pt.U, Pt.locs, Pt.cells, Pt.slots] at X74 l74 y74 z74 st74 hQ74
      rw [l74, y74, z74] at X74
      obtain ⟨r74, rfl, hB74, Nq74, hh74⟩ := hQ74
      replace Nf := Fr.app Nf Nq74
      refine own_step st74 ?_
      show own_Fin _ _ _ _ _ _ _ _ (mkF m 308 Ls69 [(.int r74)])
      have hc75 : ¬ ((r74).toInt = 0) := by
        have e : own_sb fE gE 2 = (r7 + (9007199254740988 : Int64)) - r19 := by rw [own_sbn _ _ 2 (by decide), hfE_2, hgE_2]
        have o := own_ok r7 r19 (9007199254740988 : Int64) hR7 hR19 (Or.inr own_k1)
        rw [← e] at o
        rcases hB74 with ⟨u1, u2⟩ | ⟨u1, u2⟩
        · rw [u1]; decide
        · exact absurd o u2
      refine own_step (fun t k => XS.ifNo X74.here hx rfl (hb hby at_308) rfl ((if0 _ _).trans (own_cu (x := r74) (y := (0 : Int32)) rfl rfl hc75).1) k) ?_
      show own_Fin _ _ _ _ _ _ _ _ (mkF m 311 Ls69 [])
      refine own_step (fun t k => XS.aload (v := (.ref b2)) X74.here hx rfl (hb hby at_311) (by rw [hLs69]; rfl) rfl k) ?_
      show own_Fin _ _ _ _ _ _ _ _ (mkF m 313 Ls69 [(.ref b2)])
      refine own_step (fun t k => XS.iconst X74.here hx rfl (hb hby at_313) k) ?_
      show own_Fin _ _ _ _ _ _ _ _ (mkF m 314 Ls69 [(.int (3 : Int32)), (.ref b2)])
      refine own_laload X74 hx hZ hh74 V_b2 (k := 3) rfl (by decide) (v := ((own_sb fE gE) 3)) rfl (hb hby at_314) rfl ?_
      show own_Fin _ _ _ _ _ _ _ _ (mkF m 315 Ls69 [(.long ((own_sb fE gE) 3))])
      refine own_step (fun t k => XS.lload (v := r9) X74.here hx rfl (hb hby at_315) (by rw [hLs69]; rfl) k) ?_
      show own_Fin _ _ _ _ _ _ _ _ (mkF m 317 Ls69 [(.long r9), (.long ((own_sb fE gE) 3))])
      refine own_step (fun t k => XS.lload (v := r21) X74.here hx rfl (hb hby at_317) (by rw [hLs69]; rfl) k) ?_
      show own_Fin _ _ _ _ _ _ _ _ (mkF m 319 Ls69 [(.long r21), (.long r9), (.long ((own_sb fE gE) 3))])
      refine own_step (fun t k => XS.lload (v := (9007199254740988 : Int64)) X74.here hx rfl (hb hby at_319) (by rw [hLs69]; rfl) k) ?_
      show own_Fin _ _ _ _ _ _ _ _ (mkF m 321 Ls69 [(.long (9007199254740988 : Int64)), (.long r21), (.long r9), (.long ((own_sb fE gE) 3))])
      obtain ⟨_, _, ⟨T76, L76, k76, n76⟩, -, X76, ⟨Lc76, hQ76, l76, y76, z76⟩, st76⟩ := Jvm.LawKit.callS X74 hx (y := (⟨"com/example/quietwire/quietwire/Field25519SubtractPinLaw", "ok", "(JJJJ)Z"⟩ : MethodName)) hown (mvT hZ (hw _ (List.mem_of_getElem? (i := 14) rfl))) (mvT hZ (hw _ (List.mem_of_getElem? (i := 15) rfl))) (mvT hZ (hw _ (List.mem_of_getElem? (i := 3) rfl))) (mvT hZ (hw _ (List.mem_of_getElem? (i := 16) rfl))) (by decide) (backOf (W := 0) (rm6 l Z a0 hw [] ((own_sb fE gE) 3) r9 r21 (9007199254740988 : Int64) T67.heap n0 Zs) hZ (hw _ (List.mem_of_getElem? (i := 16) rfl)) (hw _ (List.mem_of_getElem? (i := 3) rfl)) (by decide) (by decide)) (g := (mkF m 321 Ls69 [(.long (9007199254740988 : Int64)), (.long r21), (.long r9), (.long ((own_sb fE gE) 3))])) rfl (by rw [hml]; show Array.size Ls69 = _; rw [hLs69]; rfl) (argsL := [(.long ((own_sb fE gE) 3)), (.long r9), (.long r21), (.long (9007199254740988 : Int64))]) (rest := []) (lenOf own_pd_2 rfl) rfl (by show 2 * 0 + _ ≤ _; exact Nat.le_of_eq rfl) (hb hby at_321) (fun _ _ => ⟨rfl, hh74, (by decide : 2 + 0 ≤ _), (by decide : 10 + 0 ≤ _)⟩)
      dsimp only [Pt.U, Pt.locs, Pt.cells, Pt.slots] at X76 l76 y76 z76 st76 hQ76
      rw [l76, y76, z76] at X76
      obtain ⟨r76, rfl, hB76, Nq76, hh76⟩ := hQ76
      replace Nf := Fr.app Nf Nq76
      refine own_step st76 ?_
      show own_Fin _ _ _ _ _ _ _ _ (mkF m 324 Ls69 [(.int r76)])
      have hc77 : ¬ ((r76).toInt = 0) := by
        have e : own_sb fE gE 3 = (r9 + (9007199254740988 : Int64)) - r21 := by rw [own_sbn _ _ 3 (by decide), hfE_3, hgE_3]
        have o := own_ok r9 r21 (9007199254740988 : Int64) hR9 hR21 (Or.inr own_k1)
        rw [← e] at o
        rcases hB76 with ⟨u1, u2⟩ | ⟨u1, u2⟩
        · rw [u1]; decide
        · exact absurd o u2
      refine own_step (fun t k => XS.ifNo X76.here hx rfl (hb hby at_324) rfl ((if0 _ _).trans (own_cu (x := r76) (y := (0 : Int32)) rfl rfl hc77).1) k) ?_
      show own_Fin _ _ _ _ _ _ _ _ (mkF m 327 Ls69 [])
      refine own_step (fun t k => XS.aload (v := (.ref b2)) X76.here hx rfl (hb hby at_327) (by rw [hLs69]; rfl) rfl k) ?_
      show own_Fin _ _ _ _ _ _ _ _ (mkF m 329 Ls69 [(.ref b2)])
      refine own_step (fun t k => XS.iconst X76.here hx rfl (hb hby at_329) k) ?_
      show own_Fin _ _ _ _ _ _ _ _ (mkF m 330 Ls69 [(.int (4 : Int32)), (.ref b2)])
      refine own_laload X76 hx hZ hh76 V_b2 (k := 4) rfl (by decide) (v := ((own_sb fE gE) 4)) rfl (hb hby at_330) rfl ?_
      show own_Fin _ _ _ _ _ _ _ _ (mkF m 331 Ls69 [(.long ((own_sb fE gE) 4))])
      refine own_step (fun t k => XS.lload (v := r11) X76.here hx rfl (hb hby at_331) (by rw [hLs69]; rfl) k) ?_
      show own_Fin _ _ _ _ _ _ _ _ (mkF m 333 Ls69 [(.long r11), (.long ((own_sb fE gE) 4))])
      refine own_step (fun t k => XS.lload (v := r23) X76.here hx rfl (hb hby at_333) (by rw [hLs69]; rfl) k) ?_
      show own_Fin _ _ _ _ _ _ _ _ (mkF m 335 Ls69 [(.long r23), (.long r11), (.long ((own_sb fE gE) 4))])
      refine own_step (fun t k => XS.lload (v := (9007199254740988 : Int64)) X76.here hx rfl (hb hby at_335) (by rw [hLs69]; rfl) k) ?_
      show own_Fin _ _ _ _ _ _ _ _ (mkF m 337 Ls69 [(.long (9007199254740988 : Int64)), (.long r23), (.long r11), (.long ((own_sb fE gE) 4))])
      obtain ⟨_, _, ⟨T78, L78, k78, n78⟩, -, X78, ⟨Lc78, hQ78, l78, y78, z78⟩, st78⟩ := Jvm.LawKit.callS X76 hx (y := (⟨"com/example/quietwire/quietwire/Field25519SubtractPinLaw", "ok", "(JJJJ)Z"⟩ : MethodName)) hown (mvT hZ (hw _ (List.mem_of_getElem? (i := 14) rfl))) (mvT hZ (hw _ (List.mem_of_getElem? (i := 15) rfl))) (mvT hZ (hw _ (List.mem_of_getElem? (i := 3) rfl))) (mvT hZ (hw _ (List.mem_of_getElem? (i := 16) rfl))) (by decide) (backOf (W := 0) (rm6 l Z a0 hw [] ((own_sb fE gE) 4) r11 r23 (9007199254740988 : Int64) T67.heap n0 Zs) hZ (hw _ (List.mem_of_getElem? (i := 16) rfl)) (hw _ (List.mem_of_getElem? (i := 3) rfl)) (by decide) (by decide)) (g := (mkF m 337 Ls69 [(.long (9007199254740988 : Int64)), (.long r23), (.long r11), (.long ((own_sb fE gE) 4))])) rfl (by rw [hml]; show Array.size Ls69 = _; rw [hLs69]; rfl) (argsL := [(.long ((own_sb fE gE) 4)), (.long r11), (.long r23), (.long (9007199254740988 : Int64))]) (rest := []) (lenOf own_pd_2 rfl) rfl (by show 2 * 0 + _ ≤ _; exact Nat.le_of_eq rfl) (hb hby at_337) (fun _ _ => ⟨rfl, hh76, (by decide : 2 + 0 ≤ _), (by decide : 10 + 0 ≤ _)⟩)
      dsimp only [Pt.U, Pt.locs, Pt.cells, Pt.slots] at X78 l78 y78 z78 st78 hQ78
      rw [l78, y78, z78] at X78
      obtain ⟨r78, rfl, hB78, Nq78, hh78⟩ := hQ78
      replace Nf := Fr.app Nf Nq78
      refine own_step st78 ?_
      show own_Fin _ _ _ _ _ _ _ _ (mkF m 340 Ls69 [(.int r78)])
      have hc79 : ¬ ((r78).toInt = 0) := by
        have e : own_sb fE gE 4 = (r11 + (9007199254740988 : Int64)) - r23 := by rw [own_sbn _ _ 4 (by decide), hfE_4, hgE_4]
        have o := own_ok r11 r23 (9007199254740988 : Int64) hR11 hR23 (Or.inr own_k1)
        rw [← e] at o
        rcases hB78 with ⟨u1, u2⟩ | ⟨u1, u2⟩
        · rw [u1]; decide
        · exact absurd o u2
      refine own_step (fun t k => XS.ifNo X78.here hx rfl (hb hby at_340) rfl ((if0 _ _).trans (own_cu (x := r78) (y := (0 : Int32)) rfl rfl hc79).1) k) ?_
      show own_Fin _ _ _ _ _ _ _ _ (mkF m 343 Ls69 [])
      refine own_step (fun t k => XS.iconst X78.here hx rfl (hb hby at_343) k) ?_
      show own_Fin _ _ _ _ _ _ _ _ (mkF m 344 Ls69 [(.int (1 : Int32))])
      refine own_step (fun t k => XS.goto X78.here hx rfl (pc0 := 344) (pc' := 348) rfl (hb hby at_344) (by decide) (by decide) k) ?_
      show own_Fin _ _ _ _ _ _ _ _ (mkF m 348 Ls69 [(.int (1 : Int32))])
      refine own_retZ X78 hx hlk Bd.returns (hb hby at_348) (z' := (1 : Int32)) (by decide) (by decide) (by decide) hh78 ?_
      exact ⟨rfl, Nf⟩
    · skip
      refine own_step (fun t k => XS.icmpNo X24.here hx rfl (hb hby at_183) rfl (own_cu (x := md) (y := (1 : Int32)) rfl rfl hc65).1 k) ?_
      show own_Fin _ _ _ _ _ _ _ _ (mkF m 186 Ls64 [])
      refine own_step (fun t k => XS.iload (v := md) X24.here hx rfl (hb hby at_186) (by rw [hLs64]; rfl) k) ?_
      show own_Fin _ _ _ _ _ _ _ _ (mkF m 188 Ls64 [(.int md)])
      refine own_step (fun t k => XS.iconst X24.here hx rfl (hb hby at_188) k) ?_
      show own_Fin _ _ _ _ _ _ _ _ (mkF m 189 Ls64 [(.int (3 : Int32)), (.int md)])
      have hc80 : ¬ ((md).toInt = 3) := by omega
      refine own_step (fun t k => XS.icmpYes X24.here hx rfl (pc0 := 189) (pc' := 199) rfl (hb hby at_189) rfl (own_cu (x := md) (y := (3 : Int32)) rfl rfl hc80).2 (by decide) (by decide) k) ?_
      show own_Fin _ _ _ _ _ _ _ _ (mkF m 199 Ls64 [])
      refine own_step (fun t k => XS.iload (v := md) X24.here hx rfl (hb hby at_199) (by rw [hLs64]; rfl) k) ?_
      show own_Fin _ _ _ _ _ _ _ _ (mkF m 201 Ls64 [(.int md)])
      refine own_step (fun t k => XS.iconst X24.here hx rfl (hb hby at_201) k) ?_
      show own_Fin _ _ _ _ _ _ _ _ (mkF m 202 Ls64 [(.int (2 : Int32)), (.int md)])
      by_cases hc81 : (md).toInt = 2
      · skip
        refine own_step (fun t k => XS.icmpNo X24.here hx rfl (hb hby at_202) rfl (own_ce (x := md) (y := (2 : Int32)) rfl rfl hc81).2 k) ?_
        show own_Fin _ _ _ _ _ _ _ _ (mkF m 205 Ls64 [])
        refine own_step (fun t k => XS.aload (v := (.ref b14)) X24.here hx rfl (hb hby at_205) (by rw [hLs64]; rfl) rfl k) ?_
        show own_Fin _ _ _ _ _ _ _ _ (mkF m 207 Ls64 [(.ref b14)])
        obtain ⟨Ls82, hLs82⟩ : ∃ z : Array Slot, z = #[.val (.long q1), .second, .val (.long q2), .second, .val (.long q3), .second, .val (.long q4), .second, .val (.long q5), .second, .val (.long q6), .second, .val (.ref b2), .val (.ref b14), .val (.int md), .val (.long r3), .second, .val (.long r5), .second, .val (.long r7), .second, .val (.long r9), .second, .val (.long r11), .second, .val (.long r15), .second, .val (.long r17), .second, .val (.long r19), .second, .val (.long r21), .second, .val (.long r23), .second, .val (.ref b14), .unset, .unset, .unset, .unset] := ⟨_, rfl⟩
        refine own_step (fun t k => XS.astore X24.here hx rfl (hb hby at_207) rfl rfl (l' := Ls82) (by rw [hLs64, hLs82]; rfl) k) ?_
        show own_Fin _ _ _ _ _ _ _ _ (mkF m 209 Ls82 [])
        refine own_step (fun t k => XS.goto X24.here hx rfl (pc0 := 209) (pc' := 244) rfl (hb hby at_209) (by decide) (by decide) k) ?_
        show own_Fin _ _ _ _ _ _ _ _ (mkF m 244 Ls82 [])
        obtain ⟨fE, V_b2, hfE_0, hfE_1, hfE_2, hfE_3, hfE_4⟩ : ∃ f, own_AJ Z h24 b2 5 f ∧ f 0 = r3 ∧ f 1 = r5 ∧ f 2 = r7 ∧ f 3 = r9 ∧ f 4 = r11 := ⟨_, V_b2, rfl, rfl, rfl, rfl, rfl⟩
        obtain ⟨gE, V_b14, hgE_0, hgE_1, hgE_2, hgE_3, hgE_4⟩ : ∃ f, own_AJ Z h24 b14 5 f ∧ f 0 = r15 ∧ f 1 = r17 ∧ f 2 = r19 ∧ f 3 = r21 ∧ f 4 = r23 := ⟨_, V_b14, rfl, rfl, rfl, rfl, rfl⟩
        refine own_step (fun t k => XS.aload (v := (.ref b14)) X24.here hx rfl (hb hby at_244) (by rw [hLs82]; rfl) rfl k) ?_
        show own_Fin _ _ _ _ _ _ _ _ (mkF m 246 Ls82 [(.ref b14)])
        refine own_step (fun t k => XS.aload (v := (.ref b2)) X24.here hx rfl (hb hby at_246) (by rw [hLs82]; rfl) rfl k) ?_
        show own_Fin _ _ _ _ _ _ _ _ (mkF m 248 Ls82 [(.ref b2), (.ref b14)])
        refine own_step (fun t k => XS.aload (v := (.ref b14)) X24.here hx rfl (hb hby at_248) (by rw [hLs82]; rfl) rfl k) ?_
        show own_Fin _ _ _ _ _ _ _ _ (mkF m 250 Ls82 [(.ref b14), (.ref b2), (.ref b14)])
        obtain ⟨_, _, ⟨T83, L83, k83, n83⟩, -, X83, ⟨Lc83, hQ83, l83, y83, z83⟩, st83⟩ := Jvm.LawKit.callS X24 hx (y := (⟨"com/example/quietwire/quietwire/Field25519", "subtract", "([J[J[J)V"⟩ : MethodName)) hown (mvT hZ (hw _ (List.mem_of_getElem? (i := 7) rfl))) (mvT hZ (hw _ (List.mem_of_getElem? (i := 8) rfl))) (mvT hZ (hw _ (List.mem_of_getElem? (i := 9) rfl))) (mvT hZ (hw _ (List.mem_of_getElem? (i := 10) rfl))) (by decide) (backOf (W := 0) (rm4 l Z a0 hw [] b14 b2 _ _ h24 n0 Zs V_b2 V_b14 g_b14 ne_b2_b14) hZ (hw _ (List.mem_of_getElem? (i := 10) rfl)) (hw _ (List.mem_of_getElem? (i := 9) rfl)) (by decide) (by decide)) (g := (mkF m 250 Ls82 [(.ref b14), (.ref b2), (.ref b14)])) rfl (by rw [hml]; show Array.size Ls82 = _; rw [hLs82]; rfl) (argsL := [(.ref b14), (.ref b2), (.ref b14)]) (rest := []) (lenOf own_pd_1 rfl) rfl (by show 2 * 0 + _ ≤ _; exact Nat.le_of_eq rfl) (hb hby at_250) (fun _ _ => ⟨rfl, e24, (by decide : 2 + 0 ≤ _), (by decide : 10 + 0 ≤ _)⟩)
        dsimp only [Pt.U, Pt.locs, Pt.cells, Pt.slots] at X83 l83 y83 z83 st83 hQ83
        rw [l83, y83, z83] at X83
        obtain ⟨rfl, Nq83, Kq83, P83_0⟩ := hQ83
        replace Nf := Fr.app Nf Nq83
        replace V_b14 := P83_0
        replace V_b2 := V_b2.keep Kq83 (ninS ne_b2_b14 nin0)
        replace Zs := Nat.le_trans Zs Kq83.1
        refine own_step st83 ?_
        show own_Fin _ _ _ _ _ _ _ _ (mkF m 253 Ls82 [])
        refine own_step (fun t k => X83.ldc2Long hx hown (mvT hZ (hw _ (List.mem_of_getElem? (i := 5) rfl))) (g := (mkF m 253 Ls82 [])) rfl (hb hby at_253) _ k) ?_
        show own_Fin _ _ _ _ _ _ _ _ (mkF m 256 Ls82 [(.long (9007199254740916 : Int64))])
        obtain ⟨Ls84, hLs84⟩ : ∃ z : Array Slot, z = #[.val (.long q1), .second, .val (.long q2), .second, .val (.long q3), .second, .val (.long q4), .second, .val (.long q5), .second, .val (.long q6), .second, .val (.ref b2), .val (.ref b14), .val (.int md), .val (.long r3), .second, .val (.long r5), .second, .val (.long r7), .second, .val (.long r9), .second, .val (.long r11), .second, .val (.long r15), .second, .val (.long r17), .second, .val (.long r19), .second, .val (.long r21), .second, .val (.long r23), .second, .val (.ref b14), .val (.long (9007199254740916 : Int64)), .second, .unset, .unset] := ⟨_, rfl⟩
        refine own_step (fun t k => XS.lstore X83.here hx rfl (hb hby at_256) rfl (l' := Ls84) (by rw [hLs82, hLs84]; rfl) k) ?_
        show own_Fin _ _ _ _ _ _ _ _ (mkF m 258 Ls84 [])
        refine own_step (fun t k => X83.ldc2Long hx hown (mvT hZ (hw _ (List.mem_of_getElem? (i := 13) rfl))) (g := (mkF m 258 Ls84 [])) rfl (hb hby at_258) _ k) ?_
        show own_Fin _ _ _ _ _ _ _ _ (mkF m 261 Ls84 [(.long (9007199254740988 : Int64))])
        obtain ⟨Ls85, hLs85⟩ : ∃ z : Array Slot, z = #[.val (.long q1), .second, .val (.long q2), .second, .val (.long q3), .second, .val (.long q4), .second, .val (.long q5), .second, .val (.long q6), .second, .val (.ref b2), .val (.ref b14), .val (.int md), .val (.long r3), .second, .val (.long r5), .second, .val (.long r7), .second, .val (.long r9), .second, .val (.long r11), .second, .val (.long r15), .second, .val (.long r17), .second, .val (.long r19), .second, .val (.long r21), .second, .val (.long r23), .second, .val (.ref b14), .val (.long (9007199254740916 : Int64)), .second, .val (.long (9007199254740988 : Int64)), .second] := ⟨_, rfl⟩
        refine own_step (fun t k => XS.lstore X83.here hx rfl (hb hby at_261) rfl (l' := Ls85) (by rw [hLs84, hLs85]; rfl) k) ?_
        show own_Fin _ _ _ _ _ _ _ _ (mkF m 263 Ls85 [])
        refine own_step (fun t k => XS.aload (v := (.ref b14)) X83.here hx rfl (hb hby at_263) (by rw [hLs85]; rfl) rfl k) ?_
        show own_Fin _ _ _ _ _ _ _ _ (mkF m 265 Ls85 [(.ref b14)])
        refine own_step (fun t k => XS.iconst X83.here hx rfl (hb hby at_265) k) ?_
        show own_Fin _ _ _ _ _ _ _ _ (mkF m 266 Ls85 [(.int (0 : Int32)), (.ref b14)])
        refine own_laload X83 hx hZ rfl V_b14 (k := 0) rfl (by decide) (v := ((own_sb fE gE) 0)) rfl (hb hby at_266) rfl ?_
        show own_Fin _ _ _ _ _ _ _ _ (mkF m 267 Ls85 [(.long ((own_sb fE gE) 0))])
        refine own_step (fun t k => XS.lload (v := r3) X83.here hx rfl (hb hby at_267) (by rw [hLs85]; rfl) k) ?_
        show own_Fin _ _ _ _ _ _ _ _ (mkF m 269 Ls85 [(.long r3), (.long ((own_sb fE gE) 0))])
        refine own_step (fun t k => XS.lload (v := r15) X83.here hx rfl (hb hby at_269) (by rw [hLs85]; rfl) k) ?_
        show own_Fin _ _ _ _ _ _ _ _ (mkF m 271 Ls85 [(.long r15), (.long r3), (.long ((own_sb fE gE) 0))])
        refine own_step (fun t k => XS.lload (v := (9007199254740916 : Int64)) X83.here hx rfl (hb hby at_271) (by rw [hLs85]; rfl) k) ?_
        show own_Fin _ _ _ _ _ _ _ _ (mkF m 273 Ls85 [(.long (9007199254740916 : Int64)), (.long r15), (.long r3), (.long ((own_sb fE gE) 0))])
        obtain ⟨_, _, ⟨T86, L86, k86, n86⟩, -, X86, ⟨Lc86, hQ86, l86, y86, z86⟩, st86⟩ := Jvm.LawKit.callS X83 hx (y := (⟨"com/example/quietwire/quietwire/Field25519SubtractPinLaw", "ok", "(JJJJ)Z"⟩ : MethodName)) hown (mvT hZ (hw _ (List.mem_of_getElem? (i := 14) rfl))) (mvT hZ (hw _ (List.mem_of_getElem? (i := 15) rfl))) (mvT hZ (hw _ (List.mem_of_getElem? (i := 3) rfl))) (mvT hZ (hw _ (List.mem_of_getElem? (i := 16) rfl))) (by decide) (backOf (W := 0) (rm6 l Z a0 hw [] ((own_sb fE gE) 0) r3 r15 (9007199254740916 : Int64) T83.heap n0 Zs) hZ (hw _ (List.mem_of_getElem? (i := 16) rfl)) (hw _ (List.mem_of_getElem? (i := 3) rfl)) (by decide) (by decide)) (g := (mkF m 273 Ls85 [(.long (9007199254740916 : Int64)), (.long r15), (.long r3), (.long ((own_sb fE gE) 0))])) rfl (by rw [hml]; show Array.size Ls85 = _; rw [hLs85]; rfl) (argsL := [(.long ((own_sb fE gE) 0)), (.long r3), (.long r15), (.long (9007199254740916 : Int64))]) (rest := []) (lenOf own_pd_2 rfl) rfl (by show 2 * 0 + _ ≤ _; exact Nat.le_of_eq rfl) (hb hby at_273) (fun _ _ => ⟨rfl, rfl, (by decide : 2 + 0 ≤ _), (by decide : 10 + 0 ≤ _)⟩)
        dsimp only [Pt.U, Pt.locs, Pt.cells, Pt.slots] at X86 l86 y86 z86 st86 hQ86
        rw [l86, y86, z86] at X86
        obtain ⟨r86, rfl, hB86, Nq86, hh86⟩ := hQ86
        replace Nf := Fr.app Nf Nq86
        refine own_step st86 ?_
        show own_Fin _ _ _ _ _ _ _ _ (mkF m 276 Ls85 [(.int r86)])
        have hc87 : ¬ ((r86).toInt = 0) := by
          have e : own_sb fE gE 0 = (r3 + (9007199254740916 : Int64)) - r15 := by rw [own_sb0, hfE_0, hgE_0]
          have o := own_ok r3 r15 (9007199254740916 : Int64) hR3 hR15 (Or.inl own_k0)
          rw [← e] at o
          rcases hB86 with ⟨u1, u2⟩ | ⟨u1, u2⟩
          · rw [u1]; decide
          · exact absurd o u2
        refine own_step (fun t k => XS.ifNo X86.here hx rfl (hb hby at_276) rfl ((if0 _ _).trans (own_cu (x := r86) (y := (0 : Int32)) rfl rfl hc87).1) k) ?_
        show own_Fin _ _ _ _ _ _ _ _ (mkF m 279 Ls85 [])
        refine own_step (fun t k => XS.aload (v := (.ref b14)) X86.here hx rfl (hb hby at_279) (by rw [hLs85]; rfl) rfl k) ?_
        show own_Fin _ _ _ _ _ _ _ _ (mkF m 281 Ls85 [(.ref b14)])
        refine own_step (fun t k => XS.iconst X86.here hx rfl (hb hby at_281) k) ?_
        show own_Fin _ _ _ _ _ _ _ _ (mkF m 282 Ls85 [(.int (1 : Int32)), (.ref b14)])
        refine own_laload X86 hx hZ hh86 V_b14 (k := 1) rfl (by decide) (v := ((own_sb fE gE) 1)) rfl (hb hby at_282) rfl ?_
        show own_Fin _ _ _ _ _ _ _ _ (mkF m 283 Ls85 [(.long ((own_sb fE gE) 1))])
        refine own_step (fun t k => XS.lload (v := r5) X86.here hx rfl (hb hby at_283) (by rw [hLs85]; rfl) k) ?_
        show own_Fin _ _ _ _ _ _ _ _ (mkF m 285 Ls85 [(.long r5), (.long ((own_sb fE gE) 1))])
        refine own_step (fun t k => XS.lload (v := r17) X86.here hx rfl (hb hby at_285) (by rw [hLs85]; rfl) k) ?_
        show own_Fin _ _ _ _ _ _ _ _ (mkF m 287 Ls85 [(.long r17), (.long r5), (.long ((own_sb fE gE) 1))])
        refine own_step (fun t k => XS.lload (v := (9007199254740988 : Int64)) X86.here hx rfl (hb hby at_287) (by rw [hLs85]; rfl) k) ?_
        show own_Fin _ _ _ _ _ _ _ _ (mkF m 289 Ls85 [(.long (9007199254740988 : Int64)), (.long r17), (.long r5), (.long ((own_sb fE gE) 1))])
        obtain ⟨_, _, ⟨T88, L88, k88, n88⟩, -, X88, ⟨Lc88, hQ88, l88, y88, z88⟩, st88⟩ := Jvm.LawKit.callS X86 hx (y := (⟨"com/example/quietwire/quietwire/Field25519SubtractPinLaw", "ok", "(JJJJ)Z"⟩ : MethodName)) hown (mvT hZ (hw _ (List.mem_of_getElem? (i := 14) rfl))) (mvT hZ (hw _ (List.mem_of_getElem? (i := 15) rfl))) (mvT hZ (hw _ (List.mem_of_getElem? (i := 3) rfl))) (mvT hZ (hw _ (List.mem_of_getElem? (i := 16) rfl))) (by decide) (backOf (W := 0) (rm6 l Z a0 hw [] ((own_sb fE gE) 1) r5 r17 (9007199254740988 : Int64) T83.heap n0 Zs) hZ (hw _ (List.mem_of_getElem? (i := 16) rfl)) (hw _ (List.mem_of_getElem? (i := 3) rfl)) (by decide) (by decide)) (g := (mkF m 289 Ls85 [(.long (9007199254740988 : Int64)), (.long r17), (.long r5), (.long ((own_sb fE gE) 1))])) rfl (by rw [hml]; show Array.size Ls85 = _; rw [hLs85]; rfl) (argsL := [(.long ((own_sb fE gE) 1)), (.long r5), (.long r17), (.long (9007199254740988 : Int64))]) (rest := []) (lenOf own_pd_2 rfl) rfl (by show 2 * 0 + _ ≤ _; exact Nat.le_of_eq rfl) (hb hby at_289) (fun _ _ => ⟨rfl, hh86, (by decide : 2 + 0 ≤ _), (by decide : 10 + 0 ≤ _)⟩)
        dsimp only [Pt.U, Pt.locs, Pt.cells, Pt.slots] at X88 l88 y88 z88 st88 hQ88
        rw [l88, y88, z88] at X88
        obtain ⟨r88, rfl, hB88, Nq88, hh88⟩ := hQ88
        replace Nf := Fr.app Nf Nq88
        refine own_step st88 ?_
        show own_Fin _ _ _ _ _ _ _ _ (mkF m 292 Ls85 [(.int r88)])
        have hc89 : ¬ ((r88).toInt = 0) := by
          have e : own_sb fE gE 1 = (r5 + (9007199254740988 : Int64)) - r17 := by rw [own_sbn _ _ 1 (by decide), hfE_1, hgE_1]
          have o := own_ok r5 r17 (9007199254740988 : Int64) hR5 hR17 (Or.inr own_k1)
          rw [← e] at o
          rcases hB88 with ⟨u1, u2⟩ | ⟨u1, u2⟩
          · rw [u1]; decide
          · exact absurd o u2
        refine own_step (fun t k => XS.ifNo X88.here hx rfl (hb hby at_292) rfl ((if0 _ _).trans (own_cu (x := r88) (y := (0 : Int32)) rfl rfl hc89).1) k) ?_
        show own_Fin _ _ _ _ _ _ _ _ (mkF m 295 Ls85 [])
        refine own_step (fun t k => XS.aload (v := (.ref b14)) X88.here hx rfl (hb hby at_295) (by rw [hLs85]; rfl) rfl k) ?_
        show own_Fin _ _ _ _ _ _ _ _ (mkF m 297 Ls85 [(.ref b14)])
        refine own_step (fun t k => XS.iconst X88.here hx rfl (hb hby at_297) k) ?_
        show own_Fin _ _ _ _ _ _ _ _ (mkF m 298 Ls85 [(.int (2 : Int32)), (.ref b14)])
        refine own_laload X88 hx hZ hh88 V_b14 (k := 2) rfl (by decide) (v := ((own_sb fE gE) 2)) rfl (hb hby at_298) rfl ?_
        show own_Fin _ _ _ _ _ _ _ _ (mkF m 299 Ls85 [(.long ((own_sb fE gE) 2))])
        refine own_step (fun t k => XS.lload (v := r7) X88.here hx rfl (hb hby at_299) (by rw [hLs85]; rfl) k) ?_
        show own_Fin _ _ _ _ _ _ _ _ (mkF m 301 Ls85 [(.long r7), (.long ((own_sb fE gE) 2))])
        refine own_step (fun t k => XS.lload (v := r19) X88.here hx rfl (hb hby at_301) (by rw [hLs85]; rfl) k) ?_
        show own_Fin _ _ _ _ _ _ _ _ (mkF m 303 Ls85 [(.long r19), (.long r7), (.long ((own_sb fE gE) 2))])
        refine own_step (fun t k => XS.lload (v := (9007199254740988 : Int64)) X88.here hx rfl (hb hby at_303) (by rw [hLs85]; rfl) k) ?_
        show own_Fin _ _ _ _ _ _ _ _ (mkF m 305 Ls85 [(.long (9007199254740988 : Int64)), (.long r19), (.long r7), (.long ((own_sb fE gE) 2))])
        obtain ⟨_, _, ⟨T90, L90, k90, n90⟩, -, X90, ⟨Lc90, hQ90, l90, y90, z90⟩, st90⟩ := Jvm.LawKit.callS X88 hx (y := (⟨"com/example/quietwire/quietwire/Field25519SubtractPinLaw", "ok", "(JJJJ)Z"⟩ : MethodName)) hown (mvT hZ (hw _ (List.mem_of_getElem? (i := 14) rfl))) (mvT hZ (hw _ (List.mem_of_getElem? (i := 15) rfl))) (mvT hZ (hw _ (List.mem_of_getElem? (i := 3) rfl))) (mvT hZ (hw _ (List.mem_of_getElem? (i := 16) rfl))) (by decide) (backOf (W := 0) (rm6 l Z a0 hw [] ((own_sb fE gE) 2) r7 r19 (9007199254740988 : Int64) T83.heap n0 Zs) hZ (hw _ (List.mem_of_getElem? (i := 16) rfl)) (hw _ (List.mem_of_getElem? (i := 3) rfl)) (by decide) (by decide)) (g := (mkF m 305 Ls85 [(.long (9007199254740988 : Int64)), (.long r19), (.long r7), (.long ((own_sb fE gE) 2))])) rfl (by rw [hml]; show Array.size Ls85 = _; rw [hLs85]; rfl) (argsL := [(.long ((own_sb fE gE) 2)), (.long r7), (.long r19), (.long (9007199254740988 : Int64))]) (rest := []) (lenOf own_pd_2 rfl) rfl (by show 2 * 0 + _ ≤ _; exact Nat.le_of_eq rfl) (hb hby at_305) (fun _ _ => ⟨rfl, hh88, (by decide : 2 + 0 ≤ _), (by decide : 10 + 0 ≤ _)⟩)
        dsimp only [Pt.U, Pt.locs, Pt.cells, Pt.slots] at X90 l90 y90 z90 st90 hQ90
        rw [l90, y90, z90] at X90
        obtain ⟨r90, rfl, hB90, Nq90, hh90⟩ := hQ90
        replace Nf := Fr.app Nf Nq90
        refine own_step st90 ?_
        show own_Fin _ _ _ _ _ _ _ _ (mkF m 308 Ls85 [(.int r90)])
        have hc91 : ¬ ((r90).toInt = 0) := by
          have e : own_sb fE gE 2 = (r7 + (9007199254740988 : Int64)) - r19 := by rw [own_sbn _ _ 2 (by decide), hfE_2, hgE_2]
          have o := own_ok r7 r19 (9007199254740988 : Int64) hR7 hR19 (Or.inr own_k1)
          rw [← e] at o
          rcases hB90 with ⟨u1, u2⟩ | ⟨u1, u2⟩
          · rw [u1]; decide
          · exact absurd o u2
        refine own_step (fun t k => XS.ifNo X90.here hx rfl (hb hby at_308) rfl ((if0 _ _).trans (own_cu (x := r90) (y := (0 : Int32)) rfl rfl hc91).1) k) ?_
        show own_Fin _ _ _ _ _ _ _ _ (mkF m 311 Ls85 [])
        refine own_step (fun t k => XS.aload (v := (.ref b14)) X90.here hx rfl (hb hby at_311) (by rw [hLs85]; rfl) rfl k) ?_
        show own_Fin _ _ _ _ _ _ _ _ (mkF m 313 Ls85 [(.ref b14)])
        refine own_step (fun t k => XS.iconst X90.here hx rfl (hb hby at_313) k) ?_
        show own_Fin _ _ _ _ _ _ _ _ (mkF m 314 Ls85 [(.int (3 : Int32)), (.ref b14)])
        refine own_laload X90 hx hZ hh90 V_b14 (k := 3) rfl (by decide) (v := ((own_sb fE gE) 3)) rfl (hb hby at_314) rfl ?_
        show own_Fin _ _ _ _ _ _ _ _ (mkF m 315 Ls85 [(.long ((own_sb fE gE) 3))])
        refine own_step (fun t k => XS.lload (v := r9) X90.here hx rfl (hb hby at_315) (by rw [hLs85]; rfl) k) ?_
        show own_Fin _ _ _ _ _ _ _ _ (mkF m 317 Ls85 [(.long r9), (.long ((own_sb fE gE) 3))])
        refine own_step (fun t k => XS.lload (v := r21) X90.here hx rfl (hb hby at_317) (by rw [hLs85]; rfl) k) ?_
        show own_Fin _ _ _ _ _ _ _ _ (mkF m 319 Ls85 [(.long r21), (.long r9), (.long ((own_sb fE gE) 3))])
        refine own_step (fun t k => XS.lload (v := (9007199254740988 : Int64)) X90.here hx rfl (hb hby at_319) (by rw [hLs85]; rfl) k) ?_
        show own_Fin _ _ _ _ _ _ _ _ (mkF m 321 Ls85 [(.long (9007199254740988 : Int64)), (.long r21), (.long r9), (.long ((own_sb fE gE) 3))])
        obtain ⟨_, _, ⟨T92, L92, k92, n92⟩, -, X92, ⟨Lc92, hQ92, l92, y92, z92⟩, st92⟩ := Jvm.LawKit.callS X90 hx (y := (⟨"com/example/quietwire/quietwire/Field25519SubtractPinLaw", "ok", "(JJJJ)Z"⟩ : MethodName)) hown (mvT hZ (hw _ (List.mem_of_getElem? (i := 14) rfl))) (mvT hZ (hw _ (List.mem_of_getElem? (i := 15) rfl))) (mvT hZ (hw _ (List.mem_of_getElem? (i := 3) rfl))) (mvT hZ (hw _ (List.mem_of_getElem? (i := 16) rfl))) (by decide) (backOf (W := 0) (rm6 l Z a0 hw [] ((own_sb fE gE) 3) r9 r21 (9007199254740988 : Int64) T83.heap n0 Zs) hZ (hw _ (List.mem_of_getElem? (i := 16) rfl)) (hw _ (List.mem_of_getElem? (i := 3) rfl)) (by decide) (by decide)) (g := (mkF m 321 Ls85 [(.long (9007199254740988 : Int64)), (.long r21), (.long r9), (.long ((own_sb fE gE) 3))])) rfl (by rw [hml]; show Array.size Ls85 = _; rw [hLs85]; rfl) (argsL := [(.long ((own_sb fE gE) 3)), (.long r9), (.long r21), (.long (9007199254740988 : Int64))]) (rest := []) (lenOf own_pd_2 rfl) rfl (by show 2 * 0 + _ ≤ _; exact Nat.le_of_eq rfl) (hb hby at_321) (fun _ _ => ⟨rfl, hh90, (by decide : 2 + 0 ≤ _), (by decide : 10 + 0 ≤ _)⟩)
        dsimp only [Pt.U, Pt.locs, Pt.cells, Pt.slots] at X92 l92 y92 z92 st92 hQ92
        rw [l92, y92, z92] at X92
        obtain ⟨r92, rfl, hB92, Nq92, hh92⟩ := hQ92
        replace Nf := Fr.app Nf Nq92
        refine own_step st92 ?_
        show own_Fin _ _ _ _ _ _ _ _ (mkF m 324 Ls85 [(.int r92)])
        have hc93 : ¬ ((r92).toInt = 0) := by
          have e : own_sb fE gE 3 = (r9 + (9007199254740988 : Int64)) - r21 := by rw [own_sbn _ _ 3 (by decide), hfE_3, hgE_3]
          have o := own_ok r9 r21 (9007199254740988 : Int64) hR9 hR21 (Or.inr own_k1)
          rw [← e] at o
          rcases hB92 with ⟨u1, u2⟩ | ⟨u1, u2⟩
          · rw [u1]; decide
          · exact absurd o u2
        refine own_step (fun t k => XS.ifNo X92.here hx rfl (hb hby at_324) rfl ((if0 _ _).trans (own_cu (x := r92) (y := (0 : Int32)) rfl rfl hc93).1) k) ?_
        show own_Fin _ _ _ _ _ _ _ _ (mkF m 327 Ls85 [])
        refine own_step (fun t k => XS.aload (v := (.ref b14)) X92.here hx rfl (hb hby at_327) (by rw [hLs85]; rfl) rfl k) ?_
        show own_Fin _ _ _ _ _ _ _ _ (mkF m 329 Ls85 [(.ref b14)])
        refine own_step (fun t k => XS.iconst X92.here hx rfl (hb hby at_329) k) ?_
        show own_Fin _ _ _ _ _ _ _ _ (mkF m 330 Ls85 [(.int (4 : Int32)), (.ref b14)])
        refine own_laload X92 hx hZ hh92 V_b14 (k := 4) rfl (by decide) (v := ((own_sb fE gE) 4)) rfl (hb hby at_330) rfl ?_
        show own_Fin _ _ _ _ _ _ _ _ (mkF m 331 Ls85 [(.long ((own_sb fE gE) 4))])
        refine own_step (fun t k => XS.lload (v := r11) X92.here hx rfl (hb hby at_331) (by rw [hLs85]; rfl) k) ?_
        show own_Fin _ _ _ _ _ _ _ _ (mkF m 333 Ls85 [(.long r11), (.long ((own_sb fE gE) 4))])
        refine own_step (fun t k => XS.lload (v := r23) X92.here hx rfl (hb hby at_333) (by rw [hLs85]; rfl) k) ?_
        show own_Fin _ _ _ _ _ _ _ _ (mkF m 335 Ls85 [(.long r23), (.long r11), (.long ((own_sb fE gE) 4))])
        refine own_step (fun t k => XS.lload (v := (9007199254740988 : Int64)) X92.here hx rfl (hb hby at_335) (by rw [hLs85]; rfl) k) ?_
        show own_Fin _ _ _ _ _ _ _ _ (mkF m 337 Ls85 [(.long (9007199254740988 : Int64)), (.long r23), (.long r11), (.long ((own_sb fE gE) 4))])
        obtain ⟨_, _, ⟨T94, L94, k94, n94⟩, -, X94, ⟨Lc94, hQ94, l94, y94, z94⟩, st94⟩ := Jvm.LawKit.callS X92 hx (y := (⟨"com/example/quietwire/quietwire/Field25519SubtractPinLaw", "ok", "(JJJJ)Z"⟩ : MethodName)) hown (mvT hZ (hw _ (List.mem_of_getElem? (i := 14) rfl))) (mvT hZ (hw _ (List.mem_of_getElem? (i := 15) rfl))) (mvT hZ (hw _ (List.mem_of_getElem? (i := 3) rfl))) (mvT hZ (hw _ (List.mem_of_getElem? (i := 16) rfl))) (by decide) (backOf (W := 0) (rm6 l Z a0 hw [] ((own_sb fE gE) 4) r11 r23 (9007199254740988 : Int64) T83.heap n0 Zs) hZ (hw _ (List.mem_of_getElem? (i := 16) rfl)) (hw _ (List.mem_of_getElem? (i := 3) rfl)) (by decide) (by decide)) (g := (mkF m 337 Ls85 [(.long (9007199254740988 : Int64)), (.long r23), (.long r11), (.long ((own_sb fE gE) 4))])) rfl (by rw [hml]; show Array.size Ls85 = _; rw [hLs85]; rfl) (argsL := [(.long ((own_sb fE gE) 4)), (.long r11), (.long r23), (.long (9007199254740988 : Int64))]) (rest := []) (lenOf own_pd_2 rfl) rfl (by show 2 * 0 + _ ≤ _; exact Nat.le_of_eq rfl) (hb hby at_337) (fun _ _ => ⟨rfl, hh92, (by decide : 2 + 0 ≤ _), (by decide : 10 + 0 ≤ _)⟩)
        dsimp only [Pt.U, Pt.locs, Pt.cells, Pt.slots] at X94 l94 y94 z94 st94 hQ94
        rw [l94, y94, z94] at X94
        obtain ⟨r94, rfl, hB94, Nq94, hh94⟩ := hQ94
        replace Nf := Fr.app Nf Nq94
        refine own_step st94 ?_
        show own_Fin _ _ _ _ _ _ _ _ (mkF m 340 Ls85 [(.int r94)])
        have hc95 : ¬ ((r94).toInt = 0) := by
          have e : own_sb fE gE 4 = (r11 + (9007199254740988 : Int64)) - r23 := by rw [own_sbn _ _ 4 (by decide), hfE_4, hgE_4]
          have o := own_ok r11 r23 (9007199254740988 : Int64) hR11 hR23 (Or.inr own_k1)
          rw [← e] at o
          rcases hB94 with ⟨u1, u2⟩ | ⟨u1, u2⟩
          · rw [u1]; decide
          · exact absurd o u2
        refine own_step (fun t k => XS.ifNo X94.here hx rfl (hb hby at_340) rfl ((if0 _ _).trans (own_cu (x := r94) (y := (0 : Int32)) rfl rfl hc95).1) k) ?_
        show own_Fin _ _ _ _ _ _ _ _ (mkF m 343 Ls85 [])
        refine own_step (fun t k => XS.iconst X94.here hx rfl (hb hby at_343) k) ?_
        show own_Fin _ _ _ _ _ _ _ _ (mkF m 344 Ls85 [(.int (1 : Int32))])
        refine own_step (fun t k => XS.goto X94.here hx rfl (pc0 := 344) (pc' := 348) rfl (hb hby at_344) (by decide) (by decide) k) ?_
        show own_Fin _ _ _ _ _ _ _ _ (mkF m 348 Ls85 [(.int (1 : Int32))])
        refine own_retZ X94 hx hlk Bd.returns (hb hby at_348) (z' := (1 : Int32)) (by decide) (by decide) (by decide) hh94 ?_
        exact ⟨rfl, Nf⟩
      · skip
        refine own_step (fun t k => XS.icmpYes X24.here hx rfl (pc0 := 202) (pc' := 212) rfl (hb hby at_202) rfl (own_cu (x := md) (y := (2 : Int32)) rfl rfl hc81).2 (by decide) (by decide) k) ?_
        show own_Fin _ _ _ _ _ _ _ _ (mkF m 212 Ls64 [])
        refine own_step (fun t k => XS.iconst X24.here hx rfl (hb hby at_212) k) ?_
        show own_Fin _ _ _ _ _ _ _ _ (mkF m 213 Ls64 [(.int (5 : Int32))])
        obtain ⟨T96, h96, k96, X96, e96, E96, A96, st96⟩ := newP X24 hx hZ (hw _ (List.mem_of_getElem? (i := 0) rfl)) e24 (g := (mkF m 213 Ls64 [(.int (5 : Int32))])) rfl (hb hby at_213) rfl (by decide) (cap := 5) (by decide) (by decide) (by decide) (by decide)
        obtain ⟨b96, g96⟩ : ∃ z, z = h24.size := ⟨_, rfl⟩
        rw [← g96] at A96 st96
        refine own_step st96 ?_
        have ne_b2_b96 : b2 ≠ b96 := Nat.ne_of_lt (Nat.lt_of_lt_of_le V_b2.lt (Nat.le_of_eq g96.symm))
        have ne_b14_b96 : b14 ≠ b96 := Nat.ne_of_lt (Nat.lt_of_lt_of_le V_b14.lt (Nat.le_of_eq g96.symm))
        have g_b96 : n0 ≤ b96 := Nat.le_trans Zs (Nat.le_of_eq g96.symm)
        replace V_b2 := V_b2.ext E96
        replace V_b14 := V_b14.ext E96
        replace Zs := Nat.le_trans Zs E96.1
        have V_b96 := own_AJ.new (n := 5) A96 (by decide)
        show own_Fin _ _ _ _ _ _ _ _ (mkF m 215 Ls64 [(.ref b96)])
        refine own_step (fun t k => XS.dup X96.here hx rfl (hb hby at_215) rfl rfl k) ?_
        show own_Fin _ _ _ _ _ _ _ _ (mkF m 216 Ls64 [(.ref b96), (.ref b96)])
        refine own_step (fun t k => XS.iconst X96.here hx rfl (hb hby at_216) k) ?_
        show own_Fin _ _ _ _ _ _ _ _ (mkF m 217 Ls64 [(.int (0 : Int32)), (.ref b96), (.ref b96)])
        refine own_step (fun t k => XS.lload (v := q6) X96.here hx rfl (hb hby at_217) (by rw [hLs64]; rfl) k) ?_
        show own_Fin _ _ _ _ _ _ _ _ (mkF m 219 Ls64 [(.long q6), (.int (0 : Int32)), (.ref b96), (.ref b96)])
        obtain ⟨T97, h97, X97, e97, W97, B97, st97⟩ := own_lastore X96 hx hZ e96 V_b96 (j := (0 : Int32)) (k := 0) rfl (by decide) (x := q6) (pc := 219) (Ls := Ls64) (rest := [(.ref b96)]) (hb hby at_219) rfl
        refine own_step st97 ?_
        replace V_b2 := V_b2.other W97 ne_b2_b96
        replace V_b14 := V_b14.other W97 ne_b14_b96
        replace Zs : n0 ≤ h97.size := by rw [W97.size]; exact Zs
        replace V_b96 := B97
        replace Nf := Fr.snoc X97 Nf g_b96
        show own_Fin _ _ _ _ _ _ _ _ (mkF m 220 Ls64 [(.ref b96)])
        refine own_step (fun t k => XS.dup X97.here hx rfl (hb hby at_220) rfl rfl k) ?_
        show own_Fin _ _ _ _ _ _ _ _ (mkF m 221 Ls64 [(.ref b96), (.ref b96)])
        refine own_step (fun t k => XS.iconst X97.here hx rfl (hb hby at_221) k) ?_
        show own_Fin _ _ _ _ _ _ _ _ (mkF m 222 Ls64 [(.int (1 : Int32)), (.ref b96), (.ref b96)])
        refine own_step (fun t k => XS.lload (v := q6) X97.here hx rfl (hb hby at_222) (by rw [hLs64]; rfl) k) ?_
        show own_Fin _ _ _ _ _ _ _ _ (mkF m 224 Ls64 [(.long q6), (.int (1 : Int32)), (.ref b96), (.ref b96)])
        refine own_step (fun t k => X97.ldc2Long hx hown (mvT hZ (hw _ (List.mem_of_getElem? (i := 18) rfl))) (g := (mkF m 224 Ls64 [(.long q6), (.int (1 : Int32)), (.ref b96), (.ref b96)])) rfl (hb hby at_224) _ k) ?_
        show own_Fin _ _ _ _ _ _ _ _ (mkF m 227 Ls64 [(.long (-1 : Int64)), (.long q6), (.int (1 : Int32)), (.ref b96), (.ref b96)])
        refine own_step (fun t k => XS.lxor X97.here hx rfl (hb hby at_227) rfl k) ?_
        show own_Fin _ _ _ _ _ _ _ _ (mkF m 228 Ls64 [(.long (q6 ^^^ (-1 : Int64))), (.int (1 : Int32)), (.ref b96), (.ref b96)])
        obtain ⟨T98, h98, X98, e98, W98, B98, st98⟩ := own_lastore X97 hx hZ e97 V_b96 (j := (1 : Int32)) (k := 1) rfl (by decide) (x := (q6 ^^^ (-1 : Int64))) (pc := 228) (Ls := Ls64) (rest := [(.ref b96)]) (hb hby at_228) rfl
        refine own_step st98 ?_
        replace V_b2 := V_b2.other W98 ne_b2_b96
        replace V_b14 := V_b14.other W98 ne_b14_b96
        replace Zs : n0 ≤ h98.size := by rw [W98.size]; exact Zs
        replace V_b96 := B98
        replace Nf := Fr.snoc X98 Nf g_b96
        show own_Fin _ _ _ _ _ _ _ _ (mkF m 229 Ls64 [(.ref b96)])
        refine own_step (fun t k => XS.dup X98.here hx rfl (hb hby at_229) rfl rfl k) ?_
        show own_Fin _ _ _ _ _ _ _ _ (mkF m 230 Ls64 [(.ref b96), (.ref b96)])
        refine own_step (fun t k => XS.iconst X98.here hx rfl (hb hby at_230) k) ?_
        show own_Fin _ _ _ _ _ _ _ _ (mkF m 231 Ls64 [(.int (2 : Int32)), (.ref b96), (.ref b96)])
        refine own_step (fun t k => XS.lloadN (v := q1) X98.here hx rfl (hb hby at_231) (by rw [hLs64]; rfl) k) ?_
        show own_Fin _ _ _ _ _ _ _ _ (mkF m 232 Ls64 [(.long q1), (.int (2 : Int32)), (.ref b96), (.ref b96)])
        obtain ⟨T99, h99, X99, e99, W99, B99, st99⟩ := own_lastore X98 hx hZ e98 V_b96 (j := (2 : Int32)) (k := 2) rfl (by decide) (x := q1) (pc := 232) (Ls := Ls64) (rest := [(.ref b96)]) (hb hby at_232) rfl
        refine own_step st99 ?_
        replace V_b2 := V_b2.other W99 ne_b2_b96
        replace V_b14 := V_b14.other W99 ne_b14_b96
        replace Zs : n0 ≤ h99.size := by rw [W99.size]; exact Zs
        replace V_b96 := B99
        replace Nf := Fr.snoc X99 Nf g_b96
        show own_Fin _ _ _ _ _ _ _ _ (mkF m 233 Ls64 [(.ref b96)])
        refine own_step (fun t k => XS.dup X99.here hx rfl (hb hby at_233) rfl rfl k) ?_
        show own_Fin _ _ _ _ _ _ _ _ (mkF m 234 Ls64 [(.ref b96), (.ref b96)])
        refine own_step (fun t k => XS.iconst X99.here hx rfl (hb hby at_234) k) ?_
        show own_Fin _ _ _ _ _ _ _ _ (mkF m 235 Ls64 [(.int (3 : Int32)), (.ref b96), (.ref b96)])
        refine own_step (fun t k => XS.lloadN (v := q2) X99.here hx rfl (hb hby at_235) (by rw [hLs64]; rfl) k) ?_
        show own_Fin _ _ _ _ _ _ _ _ (mkF m 236 Ls64 [(.long q2), (.int (3 : Int32)), (.ref b96), (.ref b96)])
        obtain ⟨T100, h100, X100, e100, W100, B100, st100⟩ := own_lastore X99 hx hZ e99 V_b96 (j := (3 : Int32)) (k := 3) rfl (by decide) (x := q2) (pc := 236) (Ls := Ls64) (rest := [(.ref b96)]) (hb hby at_236) rfl
        refine own_step st100 ?_
        replace V_b2 := V_b2.other W100 ne_b2_b96
        replace V_b14 := V_b14.other W100 ne_b14_b96
        replace Zs : n0 ≤ h100.size := by rw [W100.size]; exact Zs
        replace V_b96 := B100
        replace Nf := Fr.snoc X100 Nf g_b96
        show own_Fin _ _ _ _ _ _ _ _ (mkF m 237 Ls64 [(.ref b96)])
        refine own_step (fun t k => XS.dup X100.here hx rfl (hb hby at_237) rfl rfl k) ?_
        show own_Fin _ _ _ _ _ _ _ _ (mkF m 238 Ls64 [(.ref b96), (.ref b96)])
        refine own_step (fun t k => XS.iconst X100.here hx rfl (hb hby at_238) k) ?_
        show own_Fin _ _ _ _ _ _ _ _ (mkF m 239 Ls64 [(.int (4 : Int32)), (.ref b96), (.ref b96)])
        refine own_step (fun t k => XS.lload (v := q3) X100.here hx rfl (hb hby at_239) (by rw [hLs64]; rfl) k) ?_
        show own_Fin _ _ _ _ _ _ _ _ (mkF m 241 Ls64 [(.long q3), (.int (4 : Int32)), (.ref b96), (.ref b96)])
        obtain ⟨T101, h101, X101, e101, W101, B101, st101⟩ := own_lastore X100 hx hZ e100 V_b96 (j := (4 : Int32)) (k := 4) rfl (by decide) (x := q3) (pc := 241) (Ls := Ls64) (rest := [(.ref b96)]) (hb hby at_241) rfl
        refine own_step st101 ?_
        replace V_b2 := V_b2.other W101 ne_b2_b96
        replace V_b14 := V_b14.other W101 ne_b14_b96
        replace Zs : n0 ≤ h101.size := by rw [W101.size]; exact Zs
        replace V_b96 := B101
        replace Nf := Fr.snoc X101 Nf g_b96
        show own_Fin _ _ _ _ _ _ _ _ (mkF m 242 Ls64 [(.ref b96)])
        obtain ⟨Ls102, hLs102⟩ : ∃ z : Array Slot, z = #[.val (.long q1), .second, .val (.long q2), .second, .val (.long q3), .second, .val (.long q4), .second, .val (.long q5), .second, .val (.long q6), .second, .val (.ref b2), .val (.ref b14), .val (.int md), .val (.long r3), .second, .val (.long r5), .second, .val (.long r7), .second, .val (.long r9), .second, .val (.long r11), .second, .val (.long r15), .second, .val (.long r17), .second, .val (.long r19), .second, .val (.long r21), .second, .val (.long r23), .second, .val (.ref b96), .unset, .unset, .unset, .unset] := ⟨_, rfl⟩
        refine own_step (fun t k => XS.astore X101.here hx rfl (hb hby at_242) rfl rfl (l' := Ls102) (by rw [hLs64, hLs102]; rfl) k) ?_
        show own_Fin _ _ _ _ _ _ _ _ (mkF m 244 Ls102 [])
        obtain ⟨fE, V_b2, hfE_0, hfE_1, hfE_2, hfE_3, hfE_4⟩ : ∃ f, own_AJ Z h101 b2 5 f ∧ f 0 = r3 ∧ f 1 = r5 ∧ f 2 = r7 ∧ f 3 = r9 ∧ f 4 = r11 := ⟨_, V_b2, rfl, rfl, rfl, rfl, rfl⟩
        obtain ⟨gE, V_b14, hgE_0, hgE_1, hgE_2, hgE_3, hgE_4⟩ : ∃ f, own_AJ Z h101 b14 5 f ∧ f 0 = r15 ∧ f 1 = r17 ∧ f 2 = r19 ∧ f 3 = r21 ∧ f 4 = r23 := ⟨_, V_b14, rfl, rfl, rfl, rfl, rfl⟩
        refine own_step (fun t k => XS.aload (v := (.ref b96)) X101.here hx rfl (hb hby at_244) (by rw [hLs102]; rfl) rfl k) ?_
        show own_Fin _ _ _ _ _ _ _ _ (mkF m 246 Ls102 [(.ref b96)])
        refine own_step (fun t k => XS.aload (v := (.ref b2)) X101.here hx rfl (hb hby at_246) (by rw [hLs102]; rfl) rfl k) ?_
        show own_Fin _ _ _ _ _ _ _ _ (mkF m 248 Ls102 [(.ref b2), (.ref b96)])
        refine own_step (fun t k => XS.aload (v := (.ref b14)) X101.here hx rfl (hb hby at_248) (by rw [hLs102]; rfl) rfl k) ?_
        show own_Fin _ _ _ _ _ _ _ _ (mkF m 250 Ls102 [(.ref b14), (.ref b2), (.ref b96)])
        obtain ⟨_, _, ⟨T103, L103, k103, n103⟩, -, X103, ⟨Lc103, hQ103, l103, y103, z103⟩, st103⟩ := Jvm.LawKit.callS X101 hx (y := (⟨"com/example/quietwire/quietwire/Field25519", "subtract", "([J[J[J)V"⟩ : MethodName)) hown (mvT hZ (hw _ (List.mem_of_getElem? (i := 7) rfl))) (mvT hZ (hw _ (List.mem_of_getElem? (i := 8) rfl))) (mvT hZ (hw _ (List.mem_of_getElem? (i := 9) rfl))) (mvT hZ (hw _ (List.mem_of_getElem? (i := 10) rfl))) (by decide) (backOf (W := 0) (rm5 l Z a0 hw [] b96 b2 b14 _ _ _ h101 n0 Zs V_b2 V_b14 V_b96 g_b96 ne_b2_b96 ne_b14_b96) hZ (hw _ (List.mem_of_getElem? (i := 10) rfl)) (hw _ (List.mem_of_getElem? (i := 9) rfl)) (by decide) (by decide)) (g := (mkF m 250 Ls102 [(.ref b14), (.ref b2), (.ref b96)])) rfl (by rw [hml]; show Array.size Ls102 = _; rw [hLs102]; rfl) (argsL := [(.ref b96), (.ref b2), (.ref b14)]) (rest := []) (lenOf own_pd_1 rfl) rfl (by show 2 * 0 + _ ≤ _; exact Nat.le_of_eq rfl) (hb hby at_250) (fun _ _ => ⟨rfl, e101, (by decide : 3 + 0 ≤ _), (by decide : 15 + 0 ≤ _)⟩)
        dsimp only [Pt.U, Pt.locs, Pt.cells, Pt.slots] at X103 l103 y103 z103 st103 hQ103
        rw [l103, y103, z103] at X103
        obtain ⟨rfl, Nq103, Kq103, P103_0⟩ := hQ103
        replace Nf := Fr.app Nf Nq103
        replace V_b96 := P103_0
        replace V_b2 := V_b2.keep Kq103 (ninS ne_b2_b96 nin0)
        replace V_b14 := V_b14.keep Kq103 (ninS ne_b14_b96 nin0)
        replace Zs := Nat.le_trans Zs Kq103.1
        refine own_step st103 ?_
        show own_Fin _ _ _ _ _ _ _ _ (mkF m 253 Ls102 [])
        refine own_step (fun t k => X103.ldc2Long hx hown (mvT hZ (hw _ (List.mem_of_getElem? (i := 5) rfl))) (g := (mkF m 253 Ls102 [])) rfl (hb hby at_253) _ k) ?_
        show own_Fin _ _ _ _ _ _ _ _ (mkF m 256 Ls102 [(.long (9007199254740916 : Int64))])
        obtain ⟨Ls104, hLs104⟩ : ∃ z : Array Slot, z = #[.val (.long q1), .second, .val (.long q2), .second, .val (.long q3), .second, .val (.long q4), .second, .val (.long q5), .second, .val (.long q6), .second, .val (.ref b2), .val (.ref b14), .val (.int md), .val (.long r3), .second, .val (.long r5), .second, .val (.long r7), .second, .val (.long r9), .second, .val (.long r11), .second, .val (.long r15), .second, .val (.long r17), .second, .val (.long r19), .second, .val (.long r21), .second, .val (.long r23), .second, .val (.ref b96), .val (.long (9007199254740916 : Int64)), .second, .unset, .unset] := ⟨_, rfl⟩
        refine own_step (fun t k => XS.lstore X103.here hx rfl (hb hby at_256) rfl (l' := Ls104) (by rw [hLs102, hLs104]; rfl) k) ?_
        show own_Fin _ _ _ _ _ _ _ _ (mkF m 258 Ls104 [])
        refine own_step (fun t k => X103.ldc2Long hx hown (mvT hZ (hw _ (List.mem_of_getElem? (i := 13) rfl))) (g := (mkF m 258 Ls104 [])) rfl (hb hby at_258) _ k) ?_
        show own_Fin _ _ _ _ _ _ _ _ (mkF m 261 Ls104 [(.long (9007199254740988 : Int64))])
        obtain ⟨Ls105, hLs105⟩ : ∃ z : Array Slot, z = #[.val (.long q1), .second, .val (.long q2), .second, .val (.long q3), .second, .val (.long q4), .second, .val (.long q5), .second, .val (.long q6), .second, .val (.ref b2), .val (.ref b14), .val (.int md), .val (.long r3), .second, .val (.long r5), .second, .val (.long r7), .second, .val (.long r9), .second, .val (.long r11), .second, .val (.long r15), .second, .val (.long r17), .second, .val (.long r19), .second, .val (.long r21), .second, .val (.long r23), .second, .val (.ref b96), .val (.long (9007199254740916 : Int64)), .second, .val (.long (9007199254740988 : Int64)), .second] := ⟨_, rfl⟩
        refine own_step (fun t k => XS.lstore X103.here hx rfl (hb hby at_261) rfl (l' := Ls105) (by rw [hLs104, hLs105]; rfl) k) ?_
        show own_Fin _ _ _ _ _ _ _ _ (mkF m 263 Ls105 [])
        refine own_step (fun t k => XS.aload (v := (.ref b96)) X103.here hx rfl (hb hby at_263) (by rw [hLs105]; rfl) rfl k) ?_
        show own_Fin _ _ _ _ _ _ _ _ (mkF m 265 Ls105 [(.ref b96)])
        refine own_step (fun t k => XS.iconst X103.here hx rfl (hb hby at_265) k) ?_
        show own_Fin _ _ _ _ _ _ _ _ (mkF m 266 Ls105 [(.int (0 : Int32)), (.ref b96)])
        refine own_laload X103 hx hZ rfl V_b96 (k := 0) rfl (by decide) (v := ((own_sb fE gE) 0)) rfl (hb hby at_266) rfl ?_
        show own_Fin _ _ _ _ _ _ _ _ (mkF m 267 Ls105 [(.long ((own_sb fE gE) 0))])
        refine own_step (fun t k => XS.lload (v := r3) X103.here hx rfl (hb hby at_267) (by rw [hLs105]; rfl) k) ?_
        show own_Fin _ _ _ _ _ _ _ _ (mkF m 269 Ls105 [(.long r3), (.long ((own_sb fE gE) 0))])
        refine own_step (fun t k => XS.lload (v := r15) X103.here hx rfl (hb hby at_269) (by rw [hLs105]; rfl) k) ?_
        show own_Fin _ _ _ _ _ _ _ _ (mkF m 271 Ls105 [(.long r15), (.long r3), (.long ((own_sb fE gE) 0))])
        refine own_step (fun t k => XS.lload (v := (9007199254740916 : Int64)) X103.here hx rfl (hb hby at_271) (by rw [hLs105]; rfl) k) ?_
        show own_Fin _ _ _ _ _ _ _ _ (mkF m 273 Ls105 [(.long (9007199254740916 : Int64)), (.long r15), (.long r3), (.long ((own_sb fE gE) 0))])
        obtain ⟨_, _, ⟨T106, L106, k106, n106⟩, -, X106, ⟨Lc106, hQ106, l106, y106, z106⟩, st106⟩ := Jvm.LawKit.callS X103 hx (y := (⟨"com/example/quietwire/quietwire/Field25519SubtractPinLaw", "ok", "(JJJJ)Z"⟩ : MethodName)) hown (mvT hZ (hw _ (List.mem_of_getElem? (i := 14) rfl))) (mvT hZ (hw _ (List.mem_of_getElem? (i := 15) rfl))) (mvT hZ (hw _ (List.mem_of_getElem? (i := 3) rfl))) (mvT hZ (hw _ (List.mem_of_getElem? (i := 16) rfl))) (by decide) (backOf (W := 0) (rm6 l Z a0 hw [] ((own_sb fE gE) 0) r3 r15 (9007199254740916 : Int64) T103.heap n0 Zs) hZ (hw _ (List.mem_of_getElem? (i := 16) rfl)) (hw _ (List.mem_of_getElem? (i := 3) rfl)) (by decide) (by decide)) (g := (mkF m 273 Ls105 [(.long (9007199254740916 : Int64)), (.long r15), (.long r3), (.long ((own_sb fE gE) 0))])) rfl (by rw [hml]; show Array.size Ls105 = _; rw [hLs105]; rfl) (argsL := [(.long ((own_sb fE gE) 0)), (.long r3), (.long r15), (.long (9007199254740916 : Int64))]) (rest := []) (lenOf own_pd_2 rfl) rfl (by show 2 * 0 + _ ≤ _; exact Nat.le_of_eq rfl) (hb hby at_273) (fun _ _ => ⟨rfl, rfl, (by decide : 3 + 0 ≤ _), (by decide : 15 + 0 ≤ _)⟩)
        dsimp only [Pt.U, Pt.locs, Pt.cells, Pt.slots] at X106 l106 y106 z106 st106 hQ106
        rw [l106, y106, z106] at X106
        obtain ⟨r106, rfl, hB106, Nq106, hh106⟩ := hQ106
        replace Nf := Fr.app Nf Nq106
        refine own_step st106 ?_
        show own_Fin _ _ _ _ _ _ _ _ (mkF m 276 Ls105 [(.int r106)])
        have hc107 : ¬ ((r106).toInt = 0) := by
          have e : own_sb fE gE 0 = (r3 + (9007199254740916 : Int64)) - r15 := by rw [own_sb0, hfE_0, hgE_0]
          have o := own_ok r3 r15 (9007199254740916 : Int64) hR3 hR15 (Or.inl own_k0)
          rw [← e] at o
          rcases hB106 with ⟨u1, u2⟩ | ⟨u1, u2⟩
          · rw [u1]; decide
          · exact absurd o u2
        refine own_step (fun t k => XS.ifNo X106.here hx rfl (hb hby at_276) rfl ((if0 _ _).trans (own_cu (x := r106) (y := (0 : Int32)) rfl rfl hc107).1) k) ?_
        show own_Fin _ _ _ _ _ _ _ _ (mkF m 279 Ls105 [])
        refine own_step (fun t k => XS.aload (v := (.ref b96)) X106.here hx rfl (hb hby at_279) (by rw [hLs105]; rfl) rfl k) ?_
        show own_Fin _ _ _ _ _ _ _ _ (mkF m 281 Ls105 [(.ref b96)])
        refine own_step (fun t k => XS.iconst X106.here hx rfl (hb hby at_281) k) ?_
        show own_Fin _ _ _ _ _ _ _ _ (mkF m 282 Ls105 [(.int (1 : Int32)), (.ref b96)])
        refine own_laload X106 hx hZ hh106 V_b96 (k := 1) rfl (by decide) (v := ((own_sb fE gE) 1)) rfl (hb hby at_282) rfl ?_
        show own_Fin _ _ _ _ _ _ _ _ (mkF m 283 Ls105 [(.long ((own_sb fE gE) 1))])
        refine own_step (fun t k => XS.lload (v := r5) X106.here hx rfl (hb hby at_283) (by rw [hLs105]; rfl) k) ?_
        show own_Fin _ _ _ _ _ _ _ _ (mkF m 285 Ls105 [(.long r5), (.long ((own_sb fE gE) 1))])
        refine own_step (fun t k => XS.lload (v := r17) X106.here hx rfl (hb hby at_285) (by rw [hLs105]; rfl) k) ?_
        show own_Fin _ _ _ _ _ _ _ _ (mkF m 287 Ls105 [(.long r17), (.long r5), (.long ((own_sb fE gE) 1))])
        refine own_step (fun t k => XS.lload (v := (9007199254740988 : Int64)) X106.here hx rfl (hb hby at_287) (by rw [hLs105]; rfl) k) ?_
        show own_Fin _ _ _ _ _ _ _ _ (mkF m 289 Ls105 [(.long (9007199254740988 : Int64)), (.long r17), (.long r5), (.long ((own_sb fE gE) 1))])
        obtain ⟨_, _, ⟨T108, L108, k108, n108⟩, -, X108, ⟨Lc108, hQ108, l108, y108, z108⟩, st108⟩ := Jvm.LawKit.callS X106 hx (y := (⟨"com/example/quietwire/quietwire/Field25519SubtractPinLaw", "ok", "(JJJJ)Z"⟩ : MethodName)) hown (mvT hZ (hw _ (List.mem_of_getElem? (i := 14) rfl))) (mvT hZ (hw _ (List.mem_of_getElem? (i := 15) rfl))) (mvT hZ (hw _ (List.mem_of_getElem? (i := 3) rfl))) (mvT hZ (hw _ (List.mem_of_getElem? (i := 16) rfl))) (by decide) (backOf (W := 0) (rm6 l Z a0 hw [] ((own_sb fE gE) 1) r5 r17 (9007199254740988 : Int64) T103.heap n0 Zs) hZ (hw _ (List.mem_of_getElem? (i := 16) rfl)) (hw _ (List.mem_of_getElem? (i := 3) rfl)) (by decide) (by decide)) (g := (mkF m 289 Ls105 [(.long (9007199254740988 : Int64)), (.long r17), (.long r5), (.long ((own_sb fE gE) 1))])) rfl (by rw [hml]; show Array.size Ls105 = _; rw [hLs105]; rfl) (argsL := [(.long ((own_sb fE gE) 1)), (.long r5), (.long r17), (.long (9007199254740988 : Int64))]) (rest := []) (lenOf own_pd_2 rfl) rfl (by show 2 * 0 + _ ≤ _; exact Nat.le_of_eq rfl) (hb hby at_289) (fun _ _ => ⟨rfl, hh106, (by decide : 3 + 0 ≤ _), (by decide : 15 + 0 ≤ _)⟩)
        dsimp only [Pt.U, Pt.locs, Pt.cells, Pt.slots] at X108 l108 y108 z108 st108 hQ108
        rw [l108, y108, z108] at X108
        obtain ⟨r108, rfl, hB108, Nq108, hh108⟩ := hQ108
        replace Nf := Fr.app Nf Nq108
        refine own_step st108 ?_
        show own_Fin _ _ _ _ _ _ _ _ (mkF m 292 Ls105 [(.int r108)])
        have hc109 : ¬ ((r108).toInt = 0) := by
          have e : own_sb fE gE 1 = (r5 + (9007199254740988 : Int64)) - r17 := by rw [own_sbn _ _ 1 (by decide), hfE_1, hgE_1]
          have o := own_ok r5 r17 (9007199254740988 : Int64) hR5 hR17 (Or.inr own_k1)
          rw [← e] at o
          rcases hB108 with ⟨u1, u2⟩ | ⟨u1, u2⟩
          · rw [u1]; decide
          · exact absurd o u2
        refine own_step (fun t k => XS.ifNo X108.here hx rfl (hb hby at_292) rfl ((if0 _ _).trans (own_cu (x := r108) (y := (0 : Int32)) rfl rfl hc109).1) k) ?_
        show own_Fin _ _ _ _ _ _ _ _ (mkF m 295 Ls105 [])
        refine own_step (fun t k => XS.aload (v := (.ref b96)) X108.here hx rfl (hb hby at_295) (by rw [hLs105]; rfl) rfl k) ?_
        show own_Fin _ _ _ _ _ _ _ _ (mkF m 297 Ls105 [(.ref b96)])
        refine own_step (fun t k => XS.iconst X108.here hx rfl (hb hby at_297) k) ?_
        show own_Fin _ _ _ _ _ _ _ _ (mkF m 298 Ls105 [(.int (2 : Int32)), (.ref b96)])
        refine own_laload X108 hx hZ hh108 V_b96 (k := 2) rfl (by decide) (v := ((own_sb fE gE) 2)) rfl (hb hby at_298) rfl ?_
        show own_Fin _ _ _ _ _ _ _ _ (mkF m 299 Ls105 [(.long ((own_sb fE gE) 2))])
        refine own_step (fun t k => XS.lload (v := r7) X108.here hx rfl (hb hby at_299) (by rw [hLs105]; rfl) k) ?_
        show own_Fin _ _ _ _ _ _ _ _ (mkF m 301 Ls105 [(.long r7), (.long ((own_sb fE gE) 2))])
        refine own_step (fun t k => XS.lload (v := r19) X108.here hx rfl (hb hby at_301) (by rw [hLs105]; rfl) k) ?_
        show own_Fin _ _ _ _ _ _ _ _ (mkF m 303 Ls105 [(.long r19), (.long r7), (.long ((own_sb fE gE) 2))])
        refine own_step (fun t k => XS.lload (v := (9007199254740988 : Int64)) X108.here hx rfl (hb hby at_303) (by rw [hLs105]; rfl) k) ?_
        show own_Fin _ _ _ _ _ _ _ _ (mkF m 305 Ls105 [(.long (9007199254740988 : Int64)), (.long r19), (.long r7), (.long ((own_sb fE gE) 2))])
        obtain ⟨_, _, ⟨T110, L110, k110, n110⟩, -, X110, ⟨Lc110, hQ110, l110, y110, z110⟩, st110⟩ := Jvm.LawKit.callS X108 hx (y := (⟨"com/example/quietwire/quietwire/Field25519SubtractPinLaw", "ok", "(JJJJ)Z"⟩ : MethodName)) hown (mvT hZ (hw _ (List.mem_of_getElem? (i := 14) rfl))) (mvT hZ (hw _ (List.mem_of_getElem? (i := 15) rfl))) (mvT hZ (hw _ (List.mem_of_getElem? (i := 3) rfl))) (mvT hZ (hw _ (List.mem_of_getElem? (i := 16) rfl))) (by decide) (backOf (W := 0) (rm6 l Z a0 hw [] ((own_sb fE gE) 2) r7 r19 (9007199254740988 : Int64) T103.heap n0 Zs) hZ (hw _ (List.mem_of_getElem? (i := 16) rfl)) (hw _ (List.mem_of_getElem? (i := 3) rfl)) (by decide) (by decide)) (g := (mkF m 305 Ls105 [(.long (9007199254740988 : Int64)), (.long r19), (.long r7), (.long ((own_sb fE gE) 2))])) rfl (by rw [hml]; show Array.size Ls105 = _; rw [hLs105]; rfl) (argsL := [(.long ((own_sb fE gE) 2)), (.long r7), (.long r19), (.long (9007199254740988 : Int64))]) (rest := []) (lenOf own_pd_2 rfl) rfl (by show 2 * 0 + _ ≤ _; exact Nat.le_of_eq rfl) (hb hby at_305) (fun _ _ => ⟨rfl, hh108, (by decide : 3 + 0 ≤ _), (by decide : 15 + 0 ≤ _)⟩)
        dsimp only [Pt.U, Pt.locs, Pt.cells, Pt.slots] at X110 l110 y110 z110 st110 hQ110
        rw [l110, y110, z110] at X110
        obtain ⟨r110, rfl, hB110, Nq110, hh110⟩ := hQ110
        replace Nf := Fr.app Nf Nq110
        refine own_step st110 ?_
        show own_Fin _ _ _ _ _ _ _ _ (mkF m 308 Ls105 [(.int r110)])
        have hc111 : ¬ ((r110).toInt = 0) := by
          have e : own_sb fE gE 2 = (r7 + (9007199254740988 : Int64)) - r19 := by rw [own_sbn _ _ 2 (by decide), hfE_2, hgE_2]
          have o := own_ok r7 r19 (9007199254740988 : Int64) hR7 hR19 (Or.inr own_k1)
          rw [← e] at o
          rcases hB110 with ⟨u1, u2⟩ | ⟨u1, u2⟩
          · rw [u1]; decide
          · exact absurd o u2
        refine own_step (fun t k => XS.ifNo X110.here hx rfl (hb hby at_308) rfl ((if0 _ _).trans (own_cu (x := r110) (y := (0 : Int32)) rfl rfl hc111).1) k) ?_
        show own_Fin _ _ _ _ _ _ _ _ (mkF m 311 Ls105 [])
        refine own_step (fun t k => XS.aload (v := (.ref b96)) X110.here hx rfl (hb hby at_311) (by rw [hLs105]; rfl) rfl k) ?_
        show own_Fin _ _ _ _ _ _ _ _ (mkF m 313 Ls105 [(.ref b96)])
        refine own_step (fun t k => XS.iconst X110.here hx rfl (hb hby at_313) k) ?_
        show own_Fin _ _ _ _ _ _ _ _ (mkF m 314 Ls105 [(.int (3 : Int32)), (.ref b96)])
        refine own_laload X110 hx hZ hh110 V_b96 (k := 3) rfl (by decide) (v := ((own_sb fE gE) 3)) rfl (hb hby at_314) rfl ?_
        show own_Fin _ _ _ _ _ _ _ _ (mkF m 315 Ls105 [(.long ((own_sb fE gE) 3))])
        refine own_step (fun t k => XS.lload (v := r9) X110.here hx rfl (hb hby at_315) (by rw [hLs105]; rfl) k) ?_
        show own_Fin _ _ _ _ _ _ _ _ (mkF m 317 Ls105 [(.long r9), (.long ((own_sb fE gE) 3))])
        refine own_step (fun t k => XS.lload (v := r21) X110.here hx rfl (hb hby at_317) (by rw [hLs105]; rfl) k) ?_
        show own_Fin _ _ _ _ _ _ _ _ (mkF m 319 Ls105 [(.long r21), (.long r9), (.long ((own_sb fE gE) 3))])
        refine own_step (fun t k => XS.lload (v := (9007199254740988 : Int64)) X110.here hx rfl (hb hby at_319) (by rw [hLs105]; rfl) k) ?_
        show own_Fin _ _ _ _ _ _ _ _ (mkF m 321 Ls105 [(.long (9007199254740988 : Int64)), (.long r21), (.long r9), (.long ((own_sb fE gE) 3))])
        obtain ⟨_, _, ⟨T112, L112, k112, n112⟩, -, X112, ⟨Lc112, hQ112, l112, y112, z112⟩, st112⟩ := Jvm.LawKit.callS X110 hx (y := (⟨"com/example/quietwire/quietwire/Field25519SubtractPinLaw", "ok", "(JJJJ)Z"⟩ : MethodName)) hown (mvT hZ (hw _ (List.mem_of_getElem? (i := 14) rfl))) (mvT hZ (hw _ (List.mem_of_getElem? (i := 15) rfl))) (mvT hZ (hw _ (List.mem_of_getElem? (i := 3) rfl))) (mvT hZ (hw _ (List.mem_of_getElem? (i := 16) rfl))) (by decide) (backOf (W := 0) (rm6 l Z a0 hw [] ((own_sb fE gE) 3) r9 r21 (9007199254740988 : Int64) T103.heap n0 Zs) hZ (hw _ (List.mem_of_getElem? (i := 16) rfl)) (hw _ (List.mem_of_getElem? (i := 3) rfl)) (by decide) (by decide)) (g := (mkF m 321 Ls105 [(.long (9007199254740988 : Int64)), (.long r21), (.long r9), (.long ((own_sb fE gE) 3))])) rfl (by rw [hml]; show Array.size Ls105 = _; rw [hLs105]; rfl) (argsL := [(.long ((own_sb fE gE) 3)), (.long r9), (.long r21), (.long (9007199254740988 : Int64))]) (rest := []) (lenOf own_pd_2 rfl) rfl (by show 2 * 0 + _ ≤ _; exact Nat.le_of_eq rfl) (hb hby at_321) (fun _ _ => ⟨rfl, hh110, (by decide : 3 + 0 ≤ _), (by decide : 15 + 0 ≤ _)⟩)
        dsimp only [Pt.U, Pt.locs, Pt.cells, Pt.slots] at X112 l112 y112 z112 st112 hQ112
        rw [l112, y112, z112] at X112
        obtain ⟨r112, rfl, hB112, Nq112, hh112⟩ := hQ112
        replace Nf := Fr.app Nf Nq112
        refine own_step st112 ?_
        show own_Fin _ _ _ _ _ _ _ _ (mkF m 324 Ls105 [(.int r112)])
        have hc113 : ¬ ((r112).toInt = 0) := by
          have e : own_sb fE gE 3 = (r9 + (9007199254740988 : Int64)) - r21 := by rw [own_sbn _ _ 3 (by decide), hfE_3, hgE_3]
          have o := own_ok r9 r21 (9007199254740988 : Int64) hR9 hR21 (Or.inr own_k1)
          rw [← e] at o
          rcases hB112 with ⟨u1, u2⟩ | ⟨u1, u2⟩
          · rw [u1]; decide
          · exact absurd o u2
        refine own_step (fun t k => XS.ifNo X112.here hx rfl (hb hby at_324) rfl ((if0 _ _).trans (own_cu (x := r112) (y := (0 : Int32)) rfl rfl hc113).1) k) ?_
        show own_Fin _ _ _ _ _ _ _ _ (mkF m 327 Ls105 [])
        refine own_step (fun t k => XS.aload (v := (.ref b96)) X112.here hx rfl (hb hby at_327) (by rw [hLs105]; rfl) rfl k) ?_
        show own_Fin _ _ _ _ _ _ _ _ (mkF m 329 Ls105 [(.ref b96)])
        refine own_step (fun t k => XS.iconst X112.here hx rfl (hb hby at_329) k) ?_
        show own_Fin _ _ _ _ _ _ _ _ (mkF m 330 Ls105 [(.int (4 : Int32)), (.ref b96)])
        refine own_laload X112 hx hZ hh112 V_b96 (k := 4) rfl (by decide) (v := ((own_sb fE gE) 4)) rfl (hb hby at_330) rfl ?_
        show own_Fin _ _ _ _ _ _ _ _ (mkF m 331 Ls105 [(.long ((own_sb fE gE) 4))])
        refine own_step (fun t k => XS.lload (v := r11) X112.here hx rfl (hb hby at_331) (by rw [hLs105]; rfl) k) ?_
        show own_Fin _ _ _ _ _ _ _ _ (mkF m 333 Ls105 [(.long r11), (.long ((own_sb fE gE) 4))])
        refine own_step (fun t k => XS.lload (v := r23) X112.here hx rfl (hb hby at_333) (by rw [hLs105]; rfl) k) ?_
        show own_Fin _ _ _ _ _ _ _ _ (mkF m 335 Ls105 [(.long r23), (.long r11), (.long ((own_sb fE gE) 4))])
        refine own_step (fun t k => XS.lload (v := (9007199254740988 : Int64)) X112.here hx rfl (hb hby at_335) (by rw [hLs105]; rfl) k) ?_
        show own_Fin _ _ _ _ _ _ _ _ (mkF m 337 Ls105 [(.long (9007199254740988 : Int64)), (.long r23), (.long r11), (.long ((own_sb fE gE) 4))])
        obtain ⟨_, _, ⟨T114, L114, k114, n114⟩, -, X114, ⟨Lc114, hQ114, l114, y114, z114⟩, st114⟩ := Jvm.LawKit.callS X112 hx (y := (⟨"com/example/quietwire/quietwire/Field25519SubtractPinLaw", "ok", "(JJJJ)Z"⟩ : MethodName)) hown (mvT hZ (hw _ (List.mem_of_getElem? (i := 14) rfl))) (mvT hZ (hw _ (List.mem_of_getElem? (i := 15) rfl))) (mvT hZ (hw _ (List.mem_of_getElem? (i := 3) rfl))) (mvT hZ (hw _ (List.mem_of_getElem? (i := 16) rfl))) (by decide) (backOf (W := 0) (rm6 l Z a0 hw [] ((own_sb fE gE) 4) r11 r23 (9007199254740988 : Int64) T103.heap n0 Zs) hZ (hw _ (List.mem_of_getElem? (i := 16) rfl)) (hw _ (List.mem_of_getElem? (i := 3) rfl)) (by decide) (by decide)) (g := (mkF m 337 Ls105 [(.long (9007199254740988 : Int64)), (.long r23), (.long r11), (.long ((own_sb fE gE) 4))])) rfl (by rw [hml]; show Array.size Ls105 = _; rw [hLs105]; rfl) (argsL := [(.long ((own_sb fE gE) 4)), (.long r11), (.long r23), (.long (9007199254740988 : Int64))]) (rest := []) (lenOf own_pd_2 rfl) rfl (by show 2 * 0 + _ ≤ _; exact Nat.le_of_eq rfl) (hb hby at_337) (fun _ _ => ⟨rfl, hh112, (by decide : 3 + 0 ≤ _), (by decide : 15 + 0 ≤ _)⟩)
        dsimp only [Pt.U, Pt.locs, Pt.cells, Pt.slots] at X114 l114 y114 z114 st114 hQ114
        rw [l114, y114, z114] at X114
        obtain ⟨r114, rfl, hB114, Nq114, hh114⟩ := hQ114
        replace Nf := Fr.app Nf Nq114
        refine own_step st114 ?_
        show own_Fin _ _ _ _ _ _ _ _ (mkF m 340 Ls105 [(.int r114)])
        have hc115 : ¬ ((r114).toInt = 0) := by
          have e : own_sb fE gE 4 = (r11 + (9007199254740988 : Int64)) - r23 := by rw [own_sbn _ _ 4 (by decide), hfE_4, hgE_4]
          have o := own_ok r11 r23 (9007199254740988 : Int64) hR11 hR23 (Or.inr own_k1)
          rw [← e] at o
          rcases hB114 with ⟨u1, u2⟩ | ⟨u1, u2⟩
          · rw [u1]; decide
          · exact absurd o u2
        refine own_step (fun t k => XS.ifNo X114.here hx rfl (hb hby at_340) rfl ((if0 _ _).trans (own_cu (x := r114) (y := (0 : Int32)) rfl rfl hc115).1) k) ?_
        show own_Fin _ _ _ _ _ _ _ _ (mkF m 343 Ls105 [])
        refine own_step (fun t k => XS.iconst X114.here hx rfl (hb hby at_343) k) ?_
        show own_Fin _ _ _ _ _ _ _ _ (mkF m 344 Ls105 [(.int (1 : Int32))])
        refine own_step (fun t k => XS.goto X114.here hx rfl (pc0 := 344) (pc' := 348) rfl (hb hby at_344) (by decide) (by decide) k) ?_
        show own_Fin _ _ _ _ _ _ _ _ (mkF m 348 Ls105 [(.int (1 : Int32))])
        refine own_retZ X114 hx hlk Bd.returns (hb hby at_348) (z' := (1 : Int32)) (by decide) (by decide) (by decide) hh114 ?_
        exact ⟨rfl, Nf⟩
set_option maxRecDepth 65536 in
set_option maxHeartbeats 40000000 in
theorem comes_1 {Post : Tables → Env → Array Value → State → Outcome → State → Prop} (hpost : ∀ tb e args s v u, (limb_1_1.after args s (.returned v) u = true ∧ limb_1_2.after args s (.returned v) u = true ∧ True) → FrameEnd s (.returned v) u (Jvm.fieldLocs frame_1_writes args s ++ Jvm.arrayLocs frame_1_arrays args s ++ Jvm.staticLocs frame_1_statics s) 16 128 → Post tb e args s (.returned v) u) :
    ArmFor flags0 classFile x code maxLocals ret World_1 tables_1 room_1 Calls_1 rest_1 Pre_1 Post := by
  intro l hfl _ _ p e ha hc hk s m args below hf hA hF happ hP
  obtain ⟨hcalls, hrest, hpre⟩ := hP
  obtain ⟨-, -, -, hnamed, -, -, -, hat⟩ := (Spec.applies_iff hf).mp happ
  obtain ⟨hg, hn⟩ := and_e (Cond.before_iff.mp (show (Jvm.Cond.and given_1 narrow_1).before args s = true from hpre))
  obtain ⟨g1, g2⟩ := and_e hg
  obtain ⟨g3, g4⟩ := and_e g2
  obtain ⟨g5, g6⟩ := and_e g4
  obtain ⟨g7, g8⟩ := and_e g6
  obtain ⟨g9, g10⟩ := and_e g8
  obtain ⟨g11, g12⟩ := and_e g10
  obtain ⟨w0, w1, w2, w3, w4, w5, rfl⟩ : ∃ w0 w1 w2 w3 w4 w5 : Value, args = #[w0, w1, w2, w3, w4, w5] := by
    have hs : args.size = 6 := by simpa [Cond.value, given_1] using g1
    obtain ⟨L⟩ := args
    match L, hs with
    | [w0, w1, w2, w3, w4, w5], _ => exact ⟨w0, w1, w2, w3, w4, w5, rfl⟩
  have hw := fun d (hd : d ∈ tables_1) => atoms_spec (ws := Jvm.Cond.code x code maxLocals ret :: tables_1) hat d (List.mem_cons_of_mem _ hd)
  obtain ⟨i0, ei0⟩ := isL_v g3
  obtain rfl : w0 = (.long i0) := Option.some.inj ei0
  obtain ⟨i1, ei1⟩ := isL_v g5
  obtain rfl : w1 = (.long i1) := Option.some.inj ei1
  obtain ⟨i2, ei2⟩ := isL_v g7
  obtain rfl : w2 = (.long i2) := Option.some.inj ei2
  obtain ⟨i3, ei3⟩ := isL_v g9
  obtain rfl : w3 = (.long i3) := Option.some.inj ei3
  obtain ⟨i4, ei4⟩ := isL_v g11
  obtain rfl : w4 = (.long i4) := Option.some.inj ei4
  obtain ⟨i5, ei5⟩ := isL_v g12
  obtain rfl : w5 = (.long i5) := Option.some.inj ei5
  obtain ⟨n, o, h1, h2, h3, _, L, rfl, ⟨rfl, N⟩, hq⟩ := rm0 l s _ hw tables_1 i0 i1 i2 i3 i4 i5 s.heap s.heap.size (Nat.le_refl _) p e ha hc hk s m _ below hf ((Spec.applies_iff_loose hf).mp happ).1 ⟨rfl, State.Warmed39.refl s, rfl⟩ trivial
  refine ⟨n, _, h1, h2, h3, hpost _ _ _ _ _ _ ⟨Cond.after_iff.mpr rfl, Cond.after_iff.mpr (eq_i res_at (Term.int_eval (1)) rfl), trivial⟩ ⟨hq.1, hq.2.1, (hq.2.2.sift fun y hy => Or.inr (N y hy)).mono (by decide) (by decide)⟩⟩
theorem main_1_1 : Claimed_1_1 := comes_1 fun _ _ _ _ _ _ h hF => ⟨h.1, hF⟩
theorem main_1_2 : Claimed_1_2 := comes_1 fun _ _ _ _ _ _ h hF => ⟨h.2.1, hF⟩
end Jvm.Pilot.@@N@@
namespace Jvm.Pilot.@@N@@
open Jvm Jvm.ClassFile Sem Op Lib Jvm.Free Jvm.Stand Jvm.Pilot.@@N@@.Jvm.D
/-! MADE BY PROGRAM (witnessworld.py) out of the Statement's table words and the real class files: 11 classes; the members and pool entries that the words name. The judged class is class 1, her method 3. -/
namespace start1
open Jvm.ClassFile
def u (s : String) : CpInfo := .utf8 (stringToUtf16 s)
/-- a pool by its gaps: so many unusable entries, then the entry; so many at the end -/
def gap : Nat → List CpInfo → List CpInfo
  | 0, r => r
  | n + 1, r => .unusable :: gap n r
def poolList (es : List (Nat × CpInfo)) (last : Nat) : List CpInfo := es.foldr (fun e r => gap e.1 (e.2 :: r)) (gap last [])
def pool (es : List (Nat × CpInfo)) (last : Nat) : Array CpInfo := ⟨poolList es last⟩
def fileOf (pool : Array CpInfo) (this : Nat) (attrs : Array Attribute := #[]) (ms : Array MethodInfo := #[]) (fl : Nat := 33) (sup : Nat := 0) (ifs : Array Nat := #[]) (fds : Array FieldInfo := #[]) : ClassFile where
  minorVersion := 0
  majorVersion := 65
  constantPool := pool
  accessFlags := fl
  thisClass := this
  superClass := sup
  interfaces := ifs
  fields := fds
  methods := ms
  attributes := attrs
def plain (name : String) (sup : Option ClassId) : Class where
  name := name
  kind := .ordinary
  loader := none
  accessFlags := 33
  super := sup
  interfaces := #[]
  cf := none
  fields := #[]
  methods := #[]
  instanceTypes := #[]
  staticTypes := #[]
  resolved := #[]
  callSites := []
  init := .initialized
  statics := none
  mirror := none

def pool0 : Array CpInfo := pool [(5, u "<init>"), (0, u "()V"), (1, .class_ 10), (1, u "java/lang/Object")] 113

def k0m0 : Method := { name := "<init>", desc := "()V", sig := { parameters := [], returnType := none }, accessFlags := 1, code := none }
/-- java/lang/Object -/
def k0 : Class := { plain "java/lang/Object" none with
  accessFlags := 33
  interfaces := #[]
  cf := some (fileOf pool0 8 #[] #[{ accessFlags := 1, nameIndex := 5, descriptorIndex := 6, attributes := #[] }] 33 0 #[] #[])
  fields := #[]
  methods := #[k0m0]
  instanceTypes := #[]
  staticTypes := #[]
  resolved := Array.replicate 124 none
  statics := none }

def pool1 : Array CpInfo := pool [(2, .class_ 4), (1, u "java/lang/Object"), (0, u "<init>"), (0, u "()V"), (0, .long 9007199254740916), (1, .long 18014398509481984), (1, .methodref 12 13), (0, .class_ 14), (0, .nameAndType 15 16), (0, u "com/example/quietwire/quietwire/Field25519SubtractPinLaw"), (0, u "limb"), (0, u "(J)J"), (0, .long 3), (1, .long 18446744073709551615), (1, .methodref 22 23), (0, .class_ 24), (0, .nameAndType 25 26), (0, u "com/example/quietwire/quietwire/Field25519"), (0, u "subtract"), (0, u "([J[J[J)V"), (0, .long 9007199254740988), (1, .methodref 12 30), (0, .nameAndType 31 32), (0, u "ok"), (0, u "(JJJJ)Z"), (3, u "law"), (0, u "(JJJJJJ)Z")] 4

def k1m0 : Method := { name := "<init>", desc := "()V", sig := { parameters := [], returnType := none }, accessFlags := 1, code := none }
def k1c1 : Code := { maxStack := 4, maxLocals := 2, code := method_2_code, exceptionTable := #[], attributes := #[] }
def k1m1 : Method := { name := "limb", desc := "(J)J", sig := { parameters := [.long], returnType := some .long }, accessFlags := 10, code := some k1c1 }
def k1c2 : Code := { maxStack := 4, maxLocals := 8, code := method_3_code, exceptionTable := #[], attributes := #[] }
def k1m2 : Method := { name := "ok", desc := "(JJJJ)Z", sig := { parameters := [.long, .long, .long, .long], returnType := some .boolean }, accessFlags := 10, code := some k1c2 }
def k1c3 : Code := { maxStack := 8, maxLocals := 40, code := code, exceptionTable := #[], attributes := #[] }
def k1m3 : Method := { name := "law", desc := "(JJJJJJ)Z", sig := { parameters := [.long, .long, .long, .long, .long, .long], returnType := some .boolean }, accessFlags := 9, code := some k1c3 }
/-- com/example/quietwire/quietwire/Field25519SubtractPinLaw -/
def k1 : Class := { plain "com/example/quietwire/quietwire/Field25519SubtractPinLaw" (some 0) with
  accessFlags := 49
  interfaces := #[]
  cf := some (fileOf pool1 12 #[] #[{ accessFlags := 1, nameIndex := 5, descriptorIndex := 6, attributes := #[] }, { accessFlags := 10, nameIndex := 15, descriptorIndex := 16, attributes := #[] }, { accessFlags := 10, nameIndex := 31, descriptorIndex := 32, attributes := #[] }, { accessFlags := 9, nameIndex := 36, descriptorIndex := 37, attributes := #[] }] 49 2 #[] #[])
  fields := #[]
  methods := #[k1m0, k1m1, k1m2, k1m3]
  instanceTypes := #[]
  staticTypes := #[]
  resolved := Array.replicate 42 none
  statics := none }

def pool2 : Array CpInfo := pool [(1, .class_ 2), (0, u "com/example/quietwire/quietwire/Field25519"), (1, .class_ 6), (1, u "java/lang/Object"), (0, u "<init>"), (0, u "()V"), (6, .long 9007199254740916), (1, .long 9007199254740988), (30, u "([J[J[J)V"), (42, u "LENGTH"), (0, u "I"), (2, u "MASK"), (0, u "J"), (0, u "FOUR_P_0"), (0, u "FOUR_P"), (8, u "subtract")] 18

def k2m0 : Method := { name := "<init>", desc := "()V", sig := { parameters := [], returnType := none }, accessFlags := 2, code := none }
def k2c1 : Code := { maxStack := 6, maxLocals := 4, code := prog_33_method_6_code, exceptionTable := #[], attributes := #[] }
def k2m1 : Method := { name := "subtract", desc := "([J[J[J)V", sig := { parameters := [(.array .long), (.array .long), (.array .long)], returnType := none }, accessFlags := 8, code := some k2c1 }
/-- com/example/quietwire/quietwire/Field25519 -/
def k2 : Class := { plain "com/example/quietwire/quietwire/Field25519" (some 0) with
  accessFlags := 48
  interfaces := #[]
  cf := some (fileOf pool2 1 #[] #[{ accessFlags := 2, nameIndex := 7, descriptorIndex := 8, attributes := #[] }, { accessFlags := 8, nameIndex := 107, descriptorIndex := 48, attributes := #[] }] 48 4 #[] #[{ accessFlags := 24, nameIndex := 91, descriptorIndex := 92, attributes := #[] }, { accessFlags := 26, nameIndex := 95, descriptorIndex := 96, attributes := #[] }, { accessFlags := 26, nameIndex := 97, descriptorIndex := 96, attributes := #[] }, { accessFlags := 26, nameIndex := 98, descriptorIndex := 96, attributes := #[] }])
  fields := #[{ name := "LENGTH", type := .int, accessFlags := 24, slot := 0, constantValue := 0 }, { name := "MASK", type := .long, accessFlags := 26, slot := 1, constantValue := 0 }, { name := "FOUR_P_0", type := .long, accessFlags := 26, slot := 2, constantValue := 0 }, { name := "FOUR_P", type := .long, accessFlags := 26, slot := 3, constantValue := 0 }]
  methods := #[k2m0, k2m1]
  instanceTypes := #[]
  staticTypes := #[.int, .long, .long, .long]
  resolved := Array.replicate 126 none
  statics := none }

def pool3 : Array CpInfo := pool [(1, u "java/lang/Cloneable"), (0, .class_ 1), (0, u "java/lang/Object"), (0, .class_ 3)] 3

/-- java/lang/Cloneable -/
def k3 : Class := { plain "java/lang/Cloneable" (some 0) with
  accessFlags := 1537
  interfaces := #[]
  cf := some (fileOf pool3 2 #[] #[] 1537 4 #[] #[])
  fields := #[]
  methods := #[]
  instanceTypes := #[]
  staticTypes := #[]
  resolved := Array.replicate 8 none
  statics := none }

def pool4 : Array CpInfo := pool [(1, u "java/io/Serializable"), (0, .class_ 1), (0, u "java/lang/Object"), (0, .class_ 3)] 3

/-- java/io/Serializable -/
def k4 : Class := { plain "java/io/Serializable" (some 0) with
  accessFlags := 1537
  interfaces := #[]
  cf := some (fileOf pool4 2 #[] #[] 1537 4 #[] #[])
  fields := #[]
  methods := #[]
  instanceTypes := #[]
  staticTypes := #[]
  resolved := Array.replicate 8 none
  statics := none }

/-- the primitive byte -/
def k5 : Class := { plain "byte" none with kind := .primitive 'B', accessFlags := 0x411 }
/-- [B -/
def k6 : Class := { plain "[B" (some 0) with kind := .array 5 .byte, interfaces := #[3, 4], accessFlags := 1041 }

/-- the primitive int -/
def k7 : Class := { plain "int" none with kind := .primitive 'I', accessFlags := 0x411 }
/-- [I -/
def k8 : Class := { plain "[I" (some 0) with kind := .array 7 .int, interfaces := #[3, 4], accessFlags := 1041 }

/-- the primitive long -/
def k9 : Class := { plain "long" none with kind := .primitive 'J', accessFlags := 0x411 }
/-- [J -/
def k10 : Class := { plain "[J" (some 0) with kind := .array 9 .long, interfaces := #[3, 4], accessFlags := 1041 }

def heap : Heap := #[]
def classes : Array Class := #[k0, k1, k2, k3, k4, k5, k6, k7, k8, k9, k10]
def interned : List (Array UInt16 × Addr) := []
def slotsUsed : Nat := 0
def theMethod : MethodId := ⟨1, 3⟩
def args0 : Array Value := #[.long 7, .long 7, .long 7, .long 7, .long 7, .long 7]
def aboutOver (below : List Frame) : State where
  vm := { classes := classes, interned := interned.toArray }
  heap := heap
  slotsUsed := slotsUsed
  threads := #[{ frames := .invoking theMethod args0 :: below }]
def below0 : List Frame := [.native { method := ⟨0, 0⟩, args := #[] }]
def about1 : State := aboutOver below0
def p0 : Program := .bare "" "" ""
def e0 : Env := launch0.env 0 0 0
theorem w_frames : about1.frames = Frame.invoking theMethod args0 :: below0 := rfl
set_option maxRecDepth 65536 in
theorem w_args : argsFit about1.vm theMethod args0 = true := by decide +kernel
set_option maxRecDepth 65536 in
theorem w_heap : heapFits about1 = true := by decide +kernel
set_option maxRecDepth 65536 in
theorem w_runnable : about1.curStatus? = some .runnable := by decide +kernel
set_option maxRecDepth 65536 in
theorem w_alone : about1.alone = true := by decide +kernel
set_option maxRecDepth 65536 in
theorem w_named : about1.methodNamed? x = some theMethod := by decide +kernel
set_option maxRecDepth 65536 in
theorem w_hears : about1.hears theMethod below0 = true := by decide +kernel
set_option maxRecDepth 65536 in
theorem w_ripe : about1.ripe theMethod args0 below0 = true := by decide +kernel
theorem w_running : about1.status = .running := rfl
set_option maxRecDepth 65536 in
theorem w_room : about1.hasRoom e0.platform room_1 = true :=
  launch0.hasRoom_least _ room_1 (by decide +kernel) (by decide +kernel) (by decide +kernel) (by decide +kernel) (by decide +kernel) (by decide +kernel)
theorem allAtoms_all (ts : List Jvm.Cond) (a : Array Jvm.Value) (st : Jvm.State) : (allAtoms ts).before a st = ts.all (fun c => c.before a st) := by
  induction ts with
  | nil => rfl
  | cons c t ih =>
    show (Jvm.Cond.and c (allAtoms t)).before a st = _
    rw [Jvm.Cond.before_and, ih, List.all_cons]
def words1 : List Jvm.Cond := Jvm.Cond.code x code maxLocals ret :: tables_1
/-- a 'code' word, met by the world's own term for the bytes: nothing is compared byte by byte -/
theorem code_word {y : MethodName} {bytes : ByteArray} {mx : Nat} {rt : Option FieldType} {a : Array Value} {s : State} {m : MethodId} {meth : Method} {c : Code} (h1 : s.methodNamed? y = some m) (h2 : s.vm.method? m = some meth) (h3 : meth.code = some c) (h4 : c.code = bytes)
    (h5 : (c.maxLocals == mx && c.exceptionTable.isEmpty && decide (c.maxStack ≤ mostOperands) && decide (meth.sig.returnType = rt) && !meth.locks && decide (parseMethodDescriptor y.desc = some meth.sig)) = true) : (Jvm.Cond.code y bytes mx rt).before a s = true := by
  simp only [Bool.and_eq_true, beq_iff_eq, Bool.not_eq_true', decide_eq_true_eq] at h5
  obtain ⟨⟨⟨⟨⟨g1, g2⟩, g3⟩, g4⟩, g5⟩, g6⟩ := h5
  simp [Cond.before, Cond.holds, Cond.value, h1, h2, h3, h4, g1, g2, g3, g4, g5, g6]
def isCode : Jvm.Cond → Bool
  | .code _ _ _ _ => true
  | _ => false
theorem all_split {L : List Jvm.Cond} {P : Jvm.Cond → Bool} (h1 : L.all (fun c => isCode c || P c) = true) (h2 : ∀ c ∈ L.filter isCode, P c = true) : L.all P = true := by
  refine List.all_eq_true.mpr fun c hc => ?_
  have h := List.all_eq_true.mp h1 c hc
  rcases Bool.eq_false_or_eq_true (isCode c) with hi | hi
  · exact h2 c (List.mem_filter.mpr ⟨hc, hi⟩)
  · simpa [hi] using h
set_option maxRecDepth 65536 in
theorem w_c0 : (Jvm.Cond.code x code maxLocals ret).before args0 about1 = true := code_word (m := ⟨1, 3⟩) (meth := k1m3) (c := k1c3) (by decide +kernel) rfl rfl rfl (by decide +kernel)
set_option maxRecDepth 65536 in
theorem w_c1 : (Jvm.Cond.code ({ cls := "com/example/quietwire/quietwire/Field25519SubtractPinLaw", name := "limb", desc := "(J)J" } : Jvm.MethodName) method_2_code (2 : Nat) (Option.some Jvm.ClassFile.FieldType.long)).before args0 about1 = true := code_word (m := ⟨1, 1⟩) (meth := k1m1) (c := k1c1) (by decide +kernel) rfl rfl rfl (by decide +kernel)
set_option maxRecDepth 65536 in
theorem w_c2 : (Jvm.Cond.code ({ cls := "com/example/quietwire/quietwire/Field25519", name := "subtract", desc := "([J[J[J)V" } : Jvm.MethodName) prog_33_method_6_code (4 : Nat) (Option.none : Option Jvm.ClassFile.FieldType)).before args0 about1 = true := code_word (m := ⟨2, 1⟩) (meth := k2m1) (c := k2c1) (by decide +kernel) rfl rfl rfl (by decide +kernel)
set_option maxRecDepth 65536 in
theorem w_c3 : (Jvm.Cond.code ({ cls := "com/example/quietwire/quietwire/Field25519SubtractPinLaw", name := "ok", desc := "(JJJJ)Z" } : Jvm.MethodName) method_3_code (8 : Nat) (Option.some Jvm.ClassFile.FieldType.boolean)).before args0 about1 = true := code_word (m := ⟨1, 2⟩) (meth := k1m2) (c := k1c2) (by decide +kernel) rfl rfl rfl (by decide +kernel)
def codes1 : List Jvm.Cond := [Jvm.Cond.code x code maxLocals ret, Jvm.Cond.code ({ cls := "com/example/quietwire/quietwire/Field25519SubtractPinLaw", name := "limb", desc := "(J)J" } : Jvm.MethodName) method_2_code (2 : Nat) (Option.some Jvm.ClassFile.FieldType.long), Jvm.Cond.code ({ cls := "com/example/quietwire/quietwire/Field25519", name := "subtract", desc := "([J[J[J)V" } : Jvm.MethodName) prog_33_method_6_code (4 : Nat) (Option.none : Option Jvm.ClassFile.FieldType), Jvm.Cond.code ({ cls := "com/example/quietwire/quietwire/Field25519SubtractPinLaw", name := "ok", desc := "(JJJJ)Z" } : Jvm.MethodName) method_3_code (8 : Nat) (Option.some Jvm.ClassFile.FieldType.boolean)]
set_option maxRecDepth 65536 in
theorem codes_eq : words1.filter isCode = codes1 := rfl
theorem w_codes : ∀ c ∈ words1.filter isCode, c.before args0 about1 = true := by
  rw [codes_eq]
  intro c hc
  simp only [codes1, List.mem_cons, List.not_mem_nil, or_false] at hc
  rcases hc with rfl | rfl | rfl | rfl
  · exact w_c0
  · exact w_c1
  · exact w_c2
  · exact w_c3
set_option maxRecDepth 65536 in
theorem w_t1 : words1.all (fun c => isCode c || c.before args0 about1) = true := by decide +kernel
theorem w_tables : (allAtoms (Jvm.Cond.code x code maxLocals ret :: tables_1)).before args0 about1 = true := by
  rw [allAtoms_all]
  show words1.all (fun c => c.before args0 about1) = true
  refine all_split ?_ w_codes
  rw [w_t1]
set_option maxRecDepth 65536 in
theorem w_case : (Jvm.Cond.and given_1 narrow_1).before args0 about1 = true := by decide +kernel
theorem w_applies : (headSpec (Jvm.Cond.code x code maxLocals ret :: tables_1) room_1).applies x e0.platform about1 = true :=
  (Spec.applies_iff w_frames).mpr ⟨w_running, w_runnable, w_alone, w_named, w_hears, w_ripe, w_room, w_tables⟩
theorem atStart : AtStart classFile x code maxLocals ret World_1 tables_1 room_1 Calls_1 rest_1 Pre_1 launch0 p0 e0 about1 theMethod args0 below0 :=
  ⟨lists_1, trivial, launch0.admits_env _ _ _, launch0.least_env, fairChoices_fair.cas, fairChoices_fair.clock, w_frames, w_args, w_heap, w_applies, trivial, trivial, w_case⟩
end start1
theorem witness_1 : WitnessClaimed_1 := ⟨start1.p0, start1.e0, start1.about1, start1.theMethod, start1.args0, start1.below0, start1.atStart⟩
end Jvm.Pilot.@@N@@
