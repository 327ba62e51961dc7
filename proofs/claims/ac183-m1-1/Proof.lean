import JvmDerived
import JvmDerived.Pilot.@@N@@Statement
import JvmDerived.Pilot.@@N@@Code
set_option linter.unusedVariables false
set_option linter.unusedSimpArgs false
namespace Jvm.Pilot.@@N@@
open Jvm Jvm.ClassFile Sem Op Lib Jvm.Free Jvm.Stand Jvm.LawKit Jvm.RoadKit Bundle Jvm.Pilot.@@N@@.Jvm.D
/-! Own kit. own_Fin: from this frame the run comes to the method's end, and Q holds of what it leaves. -/
def own_Fin (p : Program) (e : Env) (below : List Frame) (s : State) (Q : Option Value → Heap → List Loc → Prop) (cl sl : Nat) (T : State) (f : JFrame) : Prop :=
  ∃ s₂ o, Steps p.tables e below (T.setTop f) s₂ ∧ s₂.status = .running ∧ Ended s₂ below o ∧ (∃ v L, o = .returned v ∧ Q v s₂.heap L ∧ FrameEnd s o s₂ L cl sl)
section OwnKit
variable {p : Program} {l : Launch} {e : Env} {R : Room} {s : State} {m : MethodId} {args : Array Value} {below : List Frame} {meth : Method} {c : Code} {T : State} {locs : List Loc} {cells slots : Nat} {Q : Option Value → Heap → List Loc → Prop} {cl sl : Nat} {Z : State} {a0 : Array Value} {h h' : Heap} {a b : Addr}
theorem own_step {T' : State} {f f' : JFrame} (k : ∀ t, Steps p.tables e below (T'.setTop f') t → Steps p.tables e below (T.setTop f) t) (r : own_Fin p e below s Q cl sl T' f') : own_Fin p e below s Q cl sl T f := by
  obtain ⟨s₂, o, h1, h2⟩ := r
  exact ⟨s₂, o, k _ h1, h2⟩
theorem own_stepT {T' : State} {f f' : JFrame} (k : Steps p.tables e below (T.setTop f) (T'.setTop f')) (r : own_Fin p e below s Q cl sl T' f') : own_Fin p e below s Q cl sl T f := by
  obtain ⟨s₂, o, h1, h2⟩ := r
  exact ⟨s₂, o, k.trans h1, h2⟩
theorem own_retZ (X : Stand p l e R s m args below meth c T locs cells slots) (hx : p.tables.exec = Jvm.exec) (hlocks : meth.locks = false) (hret : meth.sig.returnType = some .boolean) {pc : Nat} {Ls : Array Slot} {z z' : Int32} {rest : List Value} (hd : decode c.code pc = .ok (.ireturn, 1))
    (hn : nar .boolean z = z') (hc : cells ≤ cl) (hs : slots ≤ sl) (hT : T.heap = h) (hq : Q (some (.int z')) h locs) : own_Fin p e below s Q cl sl T (mkF m pc Ls (.int z :: rest)) := by
  subst hn hT
  obtain ⟨fs, hr, hrun, hended, hW, hsame⟩ := X.leave (v := some (.int (nar .boolean z))) (fun h => by rw [hret] at h; cases h)
  exact ⟨_, _, retN X hx hret (by simp) hd hr, hrun, hended, _, _, rfl, hq, ⟨_, rfl⟩, hW, hsame.mono hc hs⟩
theorem own_retI (X : Stand p l e R s m args below meth c T locs cells slots) (hx : p.tables.exec = Jvm.exec) (hlocks : meth.locks = false) (hret : meth.sig.returnType = some .int) {pc : Nat} {Ls : Array Slot} {z : Int32} {rest : List Value} (hd : decode c.code pc = .ok (.ireturn, 1))
    (hc : cells ≤ cl) (hs : slots ≤ sl) (hT : T.heap = h) (hq : Q (some (.int z)) h locs) : own_Fin p e below s Q cl sl T (mkF m pc Ls (.int z :: rest)) := by
  subst hT
  obtain ⟨fs, hr, hrun, hended, hW, hsame⟩ := X.leave (v := some (.int z)) (fun h => by rw [hret] at h; cases h)
  refine ⟨_, _, ?_, hrun, hended, _, _, rfl, hq, ⟨_, rfl⟩, hW, hsame.mono hc hs⟩
  have hm' : T.vm.method? m = some meth := X.method'
  have hn : narrow .int (.int z) = .int z := rfl
  show Steps p.tables e below (T.setTop { method := m, pc := pc, locals := Ls, stack := _ :: rest, locked := none }) _
  jvm_step X.here [X.here.top, hx, hd, hm', hret, hn]
  first | (intro acts; rw [hr _ acts rfl rfl rfl]) | rw [hr _ _ rfl rfl rfl]
  exact Steps.refl _
theorem own_retJ (X : Stand p l e R s m args below meth c T locs cells slots) (hx : p.tables.exec = Jvm.exec) (hlocks : meth.locks = false) (hret : meth.sig.returnType = some .long) {pc : Nat} {Ls : Array Slot} {z : Int64} (hd : decode c.code pc = .ok (.lreturn, 1))
    (hc : cells ≤ cl) (hs : slots ≤ sl) (hT : T.heap = h) (hq : Q (some (.long z)) h locs) : own_Fin p e below s Q cl sl T (mkF m pc Ls [.long z]) := by
  subst hT
  obtain ⟨fs, hr, hrun, hended, hW, hsame⟩ := X.leave (v := some (.long z)) (fun h => by rw [hret] at h; cases h)
  exact ⟨_, _, X.lreturnOut hx hret hd hr, hrun, hended, _, _, rfl, hq, ⟨_, rfl⟩, hW, hsame.mono hc hs⟩
theorem own_retV (X : Stand p l e R s m args below meth c T locs cells slots) (hx : p.tables.exec = Jvm.exec) (hlocks : meth.locks = false) (hret : meth.sig.returnType = none) {pc : Nat} {Ls : Array Slot} (hd : decode c.code pc = .ok (.return_, 1))
    (hc : cells ≤ cl) (hs : slots ≤ sl) (hT : T.heap = h) (hq : Q none h locs) : own_Fin p e below s Q cl sl T (mkF m pc Ls []) := by
  subst hT
  obtain ⟨fs, hr, hrun, hended, hW, hsame⟩ := X.leave (v := none) (fun _ => rfl)
  exact ⟨_, _, X.returnOut hx hret hd hr, hrun, hended, _, _, rfl, hq, ⟨_, rfl⟩, hW, hsame.mono hc hs⟩
theorem own_retR (X : Stand p l e R s m args below meth c T locs cells slots) (hx : p.tables.exec = Jvm.exec) (hlocks : meth.locks = false) {t : FieldType} (hret : meth.sig.returnType = some t) (ht : t.isReference = true) {pc : Nat} {Ls : Array Slot} {z : Value} (hz : z.isRef = true) (hd : decode c.code pc = .ok (.areturn, 1))
    (hc : cells ≤ cl) (hs : slots ≤ sl) (hT : T.heap = h) (hq : Q (some z) h locs) : own_Fin p e below s Q cl sl T (mkF m pc Ls [z]) := by
  subst hT
  obtain ⟨fs, hr, hrun, hended, hW, hsame⟩ := X.leave (v := some z) (fun h => by rw [hret] at h; cases h)
  refine ⟨_, _, ?_, hrun, hended, _, _, rfl, hq, ⟨_, rfl⟩, hW, hsame.mono hc hs⟩
  have hm' : T.vm.method? m = some meth := X.method'
  jvm_step X.here [X.here.top, hx, hd, hm', hret, ht, hz]
  first | (intro acts; rw [hr _ acts rfl rfl rfl]) | rw [hr _ _ rfl rfl rfl]
  exact Steps.refl _
/-! comparisons, said over Int -/
theorem own_cl {x y : Int32} {a b : Int} (ha : x.toInt = a) (hb : y.toInt = b) (h : a < b) : if_icmp.holds .lt x y = true ∧ if_icmp.holds .ge x y = false ∧ if_icmp.holds .gt y x = true ∧ if_icmp.holds .le y x = false := tlt (by rw [Int32.lt_iff_toInt_lt, ha, hb]; exact h)
theorem own_cn {x y : Int32} {a b : Int} (ha : x.toInt = a) (hb : y.toInt = b) (h : ¬ a < b) : if_icmp.holds .lt x y = false ∧ if_icmp.holds .ge x y = true ∧ if_icmp.holds .gt y x = false ∧ if_icmp.holds .le y x = true := flt (by rw [Int32.lt_iff_toInt_lt, ha, hb]; exact h)
theorem own_ce {x y : Int32} {a b : Int} (ha : x.toInt = a) (hb : y.toInt = b) (h : a = b) : if_icmp.holds .eq x y = true ∧ if_icmp.holds .ne x y = false := teq (by rw [← Int32.toInt_inj, ha, hb]; exact h)
theorem own_cu {x y : Int32} {a b : Int} (ha : x.toInt = a) (hb : y.toInt = b) (h : ¬ a = b) : if_icmp.holds .eq x y = false ∧ if_icmp.holds .ne x y = true := feq (by rw [← Int32.toInt_inj, ha, hb]; exact h)
theorem own_ll {x y : Int64} {a b : Int} (ha : x.toInt = a) (hb : y.toInt = b) (h : a < b) : ifCond.holds .lt (lcmpW x y) = true ∧ ifCond.holds .ge (lcmpW x y) = false ∧ ifCond.holds .gt (lcmpW y x) = true ∧ ifCond.holds .le (lcmpW y x) = false := by
  have q : x < y := by rw [Int64.lt_iff_toInt_lt, ha, hb]; exact h
  have h1 := tlt ((lw_lt x y).mpr q)
  have h2 := tlt ((lw_gt y x).mpr q)
  exact ⟨(if0 _ _).trans h1.1, (if0 _ _).trans h1.2.1, (if0 _ _).trans h2.2.2.1, (if0 _ _).trans h2.2.2.2⟩
theorem own_ln {x y : Int64} {a b : Int} (ha : x.toInt = a) (hb : y.toInt = b) (h : ¬ a < b) : ifCond.holds .lt (lcmpW x y) = false ∧ ifCond.holds .ge (lcmpW x y) = true ∧ ifCond.holds .gt (lcmpW y x) = false ∧ ifCond.holds .le (lcmpW y x) = true := by
  have q : ¬ x < y := by rw [Int64.lt_iff_toInt_lt, ha, hb]; exact h
  have h1 := flt (fun r => q ((lw_lt x y).mp r))
  have h2 := flt (fun r => q ((lw_gt y x).mp r))
  exact ⟨(if0 _ _).trans h1.1, (if0 _ _).trans h1.2.1, (if0 _ _).trans h2.2.2.1, (if0 _ _).trans h2.2.2.2⟩
theorem own_le {x y : Int64} {a b : Int} (ha : x.toInt = a) (hb : y.toInt = b) (h : a = b) : ifCond.holds .eq (lcmpW x y) = true ∧ ifCond.holds .ne (lcmpW x y) = false := by
  have q : x = y := by rw [← Int64.toInt_inj, ha, hb]; exact h
  have h1 := teq ((lw_eq x y).mpr q)
  exact ⟨(if0 _ _).trans h1.1, (if0 _ _).trans h1.2⟩
theorem own_lu {x y : Int64} {a b : Int} (ha : x.toInt = a) (hb : y.toInt = b) (h : ¬ a = b) : ifCond.holds .eq (lcmpW x y) = false ∧ ifCond.holds .ne (lcmpW x y) = true := by
  have q : ¬ x = y := by rw [← Int64.toInt_inj, ha, hb]; exact h
  have h1 := feq (fun r => q ((lw_eq x y).mp r))
  exact ⟨(if0 _ _).trans h1.1, (if0 _ _).trans h1.2⟩
/-! a boolean as an int -/
abbrev own_B (r : Int32) (P : Prop) : Prop := (r.toInt = 1 ∧ P) ∨ (r.toInt = 0 ∧ ¬ P)
theorem own_B1 {P : Prop} (h : P) : own_B 1 P := Or.inl ⟨rfl, h⟩
theorem own_B0 {P : Prop} (h : ¬ P) : own_B 0 P := Or.inr ⟨rfl, h⟩
theorem own_B.lit {r : Int32} {P : Prop} (H : own_B r P) : (r = 1 ∧ P) ∨ (r = 0 ∧ ¬ P) := by
  rcases H with ⟨q, h⟩ | ⟨q, h⟩
  · exact Or.inl ⟨Int32.toInt_inj.mp q, h⟩
  · exact Or.inr ⟨Int32.toInt_inj.mp q, h⟩
/-! arrays: their length and what each place holds -/
def own_A (Z : State) (h : Heap) (a : Addr) (ty : FieldType) (n : Nat) (f : Nat → Value) : Prop := ∃ c : Cell, Arr Z h a c ty ∧ c.slots.size = n ∧ ∀ i, i < n → c.slots[i]? = some (f i)
def own_AI (Z : State) (h : Heap) (a : Addr) (ty : FieldType) (n : Nat) (f : Nat → Int32) : Prop := own_A Z h a ty n (fun i => .int (f i))
def own_AJ (Z : State) (h : Heap) (a : Addr) (n : Nat) (f : Nat → Int64) : Prop := own_A Z h a .long n (fun i => .long (f i))
variable {ty : FieldType} {n : Nat} {fv : Nat → Value} {fi : Nat → Int32} {fj : Nat → Int64}
theorem own_A.lt (F : own_A Z h a ty n fv) : a < h.size := by obtain ⟨c, A, -⟩ := F; exact A.lt
theorem own_A.ext (F : own_A Z h a ty n fv) (E : Ext h h') : own_A Z h' a ty n fv := by obtain ⟨c, A, r⟩ := F; exact ⟨c, A.ext E, r⟩
theorem own_A.other {sl : Nat} {v : Value} (F : own_A Z h a ty n fv) (W : Wr h h' b sl v) (q : a ≠ b) : own_A Z h' a ty n fv := by obtain ⟨c, A, r⟩ := F; exact ⟨c, A.other W q, r⟩
theorem own_A.keep {ws : List Addr} (F : own_A Z h a ty n fv) (K : Keep h h' ws) (q : a ∉ ws) : own_A Z h' a ty n fv := by obtain ⟨c, A, r⟩ := F; exact ⟨c, ⟨K.2.1 a c A.1 q, A.2⟩, r⟩
theorem own_A.congr {gv : Nat → Value} (F : own_A Z h a ty n fv) (q : ∀ i, i < n → fv i = gv i) : own_A Z h a ty n gv := by obtain ⟨c, A, r, t⟩ := F; exact ⟨c, A, r, fun i hi => by rw [t i hi, q i hi]⟩
theorem own_A.set {j : Nat} {v : Value} (F : own_A Z h a ty n fv) (W : Wr h h' a j v) : own_A Z h' a ty n (fun i => if i = j then v else fv i) := by
  obtain ⟨c, A, r, t⟩ := F
  have W0 := W
  obtain ⟨c2, h1, -, h3, -⟩ := W0
  have ec : c2 = c := Option.some.inj (h1.symm.trans A.1)
  subst ec
  refine ⟨_, A.same W, by rw [sz_set]; exact r, fun i hi => ?_⟩
  by_cases q : i = j
  · subst q; simp [Cell.setSlot, h3]
  · simp only [q, if_false]; rw [← t i hi]; simp only [Cell.setSlot]; exact Array.getElem?_setIfInBounds_ne fun z => q z.symm
theorem own_A.new {k : ClassId} {z : Int32} (A : Arr Z h a (newA k ty z) ty) (q : z.toNatClampNeg = n) : own_A Z h a ty n (fun _ => defaultValue ty) := by
  subst q
  exact ⟨_, A, sz_new _ _ _, fun i hi => by simp [newA, hi]⟩
theorem own_AI.lt (F : own_AI Z h a ty n fi) : a < h.size := own_A.lt F
theorem own_AI.ext (F : own_AI Z h a ty n fi) (E : Ext h h') : own_AI Z h' a ty n fi := own_A.ext F E
theorem own_AI.other {sl : Nat} {v : Value} (F : own_AI Z h a ty n fi) (W : Wr h h' b sl v) (q : a ≠ b) : own_AI Z h' a ty n fi := own_A.other F W q
theorem own_AI.keep {ws : List Addr} (F : own_AI Z h a ty n fi) (K : Keep h h' ws) (q : a ∉ ws) : own_AI Z h' a ty n fi := own_A.keep F K q
theorem own_AI.congr {gi : Nat → Int32} (F : own_AI Z h a ty n fi) (q : ∀ i, i < n → fi i = gi i) : own_AI Z h a ty n gi := own_A.congr F fun i hi => by rw [q i hi]
theorem own_AI.set {j : Nat} {x : Int32} (F : own_AI Z h a ty n fi) (W : Wr h h' a j (.int x)) : own_AI Z h' a ty n (fun i => if i = j then x else fi i) := (own_A.set F W).congr fun i _ => by by_cases q : i = j <;> simp [q]
theorem own_AI.newI {k : ClassId} {z : Int32} (A : Arr Z h a (newA k .int z) .int) (q : z.toNatClampNeg = n) : own_AI Z h a .int n (fun _ => 0) := own_A.new A q
theorem own_AI.newB {k : ClassId} {z : Int32} (A : Arr Z h a (newA k .byte z) .byte) (q : z.toNatClampNeg = n) : own_AI Z h a .byte n (fun _ => 0) := own_A.new A q
theorem own_AJ.lt (F : own_AJ Z h a n fj) : a < h.size := own_A.lt F
theorem own_AJ.ext (F : own_AJ Z h a n fj) (E : Ext h h') : own_AJ Z h' a n fj := own_A.ext F E
theorem own_AJ.other {sl : Nat} {v : Value} (F : own_AJ Z h a n fj) (W : Wr h h' b sl v) (q : a ≠ b) : own_AJ Z h' a n fj := own_A.other F W q
theorem own_AJ.keep {ws : List Addr} (F : own_AJ Z h a n fj) (K : Keep h h' ws) (q : a ∉ ws) : own_AJ Z h' a n fj := own_A.keep F K q
theorem own_AJ.congr {gj : Nat → Int64} (F : own_AJ Z h a n fj) (q : ∀ i, i < n → fj i = gj i) : own_AJ Z h a n gj := own_A.congr F fun i hi => by rw [q i hi]
theorem own_AJ.set {j : Nat} {x : Int64} (F : own_AJ Z h a n fj) (W : Wr h h' a j (.long x)) : own_AJ Z h' a n (fun i => if i = j then x else fj i) := (own_A.set F W).congr fun i _ => by by_cases q : i = j <;> simp [q]
theorem own_AJ.new {k : ClassId} {z : Int32} (A : Arr Z h a (newA k .long z) .long) (q : z.toNatClampNeg = n) : own_AJ Z h a n (fun _ => 0) := own_A.new A q
theorem own_in {j : Int32} {k n : Nat} (hj : j.toInt = (k : Int)) (hk : k < n) : j.toNatClampNeg = k ∧ ¬ (j < 0 ∨ n ≤ j.toNatClampNeg) := by
  have q : j.toNatClampNeg = k := by simp only [Int32.toNatClampNeg, hj]; omega
  refine ⟨q, fun z => ?_⟩
  rcases z with z | z
  · rw [Int32.lt_iff_toInt_lt, hj] at z
    have : (0 : Int32).toInt = 0 := rfl
    omega
  · omega
theorem own_iaload (X : Stand p l e R s m args below meth c T locs cells slots) (hx : p.tables.exec = Jvm.exec) (hZ : Z.Warmed39 s.vm) (eT : T.heap = h) (F : own_AI Z h a .int n fi) {j : Int32} {k : Nat} (hj : j.toInt = (k : Int)) (hk : k < n) {v : Int32} (hv : fi k = v) {pc pc' : Nat} {Ls : Array Slot} {rest : List Value}
    (hd : decode c.code pc = .ok (.iaload, 1)) (hp : pc + 1 = pc') (r : own_Fin p e below s Q cl sl T (mkF m pc' Ls (.int v :: rest))) : own_Fin p e below s Q cl sl T (mkF m pc Ls (.int j :: .ref a :: rest)) := by
  obtain ⟨cc, A, h1, h2⟩ := F
  obtain ⟨q1, q2⟩ := own_in hj hk
  subst hp hv
  exact own_step (fun t k' => X.iaload hx (j := j) (v := .int (fi k)) (by rw [eT]; exact A.1) (State.isArrayOf_alike hZ.alike A.2.1) A.2.2 (by rw [h1]; exact q2) (by rw [q1]; exact h2 k hk) (g := mkF m pc Ls (.int j :: .ref a :: rest)) rfl rfl hd _ k') r
theorem own_baload (X : Stand p l e R s m args below meth c T locs cells slots) (hx : p.tables.exec = Jvm.exec) (hZ : Z.Warmed39 s.vm) (eT : T.heap = h) (F : own_AI Z h a .byte n fi) {j : Int32} {k : Nat} (hj : j.toInt = (k : Int)) (hk : k < n) {v : Int32} (hv : fi k = v) {pc pc' : Nat} {Ls : Array Slot} {rest : List Value}
    (hd : decode c.code pc = .ok (.baload, 1)) (hp : pc + 1 = pc') (r : own_Fin p e below s Q cl sl T (mkF m pc' Ls (.int v :: rest))) : own_Fin p e below s Q cl sl T (mkF m pc Ls (.int j :: .ref a :: rest)) := by
  obtain ⟨cc, A, h1, h2⟩ := F
  obtain ⟨q1, q2⟩ := own_in hj hk
  subst hp hv
  exact own_step (fun t k' => X.baloadBytes hx (j := j) (v := .int (fi k)) (by rw [eT]; exact A.1) (State.isArrayOf_alike hZ.alike A.2.1) A.2.2 (by rw [h1]; exact q2) (by rw [q1]; exact h2 k hk) (g := mkF m pc Ls (.int j :: .ref a :: rest)) rfl rfl hd _ k') r
theorem own_laload (X : Stand p l e R s m args below meth c T locs cells slots) (hx : p.tables.exec = Jvm.exec) (hZ : Z.Warmed39 s.vm) (eT : T.heap = h) (F : own_AJ Z h a n fj) {j : Int32} {k : Nat} (hj : j.toInt = (k : Int)) (hk : k < n) {v : Int64} (hv : fj k = v) {pc pc' : Nat} {Ls : Array Slot} {rest : List Value}
    (hd : decode c.code pc = .ok (.laload, 1)) (hp : pc + 1 = pc') (r : own_Fin p e below s Q cl sl T (mkF m pc' Ls (.long v :: rest))) : own_Fin p e below s Q cl sl T (mkF m pc Ls (.int j :: .ref a :: rest)) := by
  obtain ⟨cc, A, h1, h2⟩ := F
  obtain ⟨q1, q2⟩ := own_in hj hk
  subst hp hv
  exact own_step (fun t k' => X.laload hx (j := j) (v := .long (fj k)) (by rw [eT]; exact A.1) (State.isArrayOf_alike hZ.alike A.2.1) A.2.2 (by rw [h1]; exact q2) (by rw [q1]; exact h2 k hk) (g := mkF m pc Ls (.int j :: .ref a :: rest)) rfl rfl hd _ k') r
theorem own_arrlen (X : Stand p l e R s m args below meth c T locs cells slots) (hx : p.tables.exec = Jvm.exec) (hZ : Z.Warmed39 s.vm) (eT : T.heap = h) (F : own_A Z h a ty n fv) {z : Int32} (hz : n.toInt32 = z) {pc pc' : Nat} {Ls : Array Slot} {rest : List Value}
    (hd : decode c.code pc = .ok (.arraylength, 1)) (hp : pc + 1 = pc') (r : own_Fin p e below s Q cl sl T (mkF m pc' Ls (.int z :: rest))) : own_Fin p e below s Q cl sl T (mkF m pc Ls (.ref a :: rest)) := by
  obtain ⟨cc, A, h1, h2⟩ := F
  subst hp hz
  exact own_step (fun t k' => X.arraylength hx (by rw [eT]; exact A.1) (State.isArrayOf_alike hZ.alike A.2.1) (g := mkF m pc Ls (.ref a :: rest)) rfl rfl hd _ (by rw [h1]; exact k')) r
theorem own_iastore (X : Stand p l e R s m args below meth c T locs cells slots) (hx : p.tables.exec = Jvm.exec) (hZ : Z.Warmed39 s.vm) (eT : T.heap = h) (F : own_AI Z h a .int n fi) {j : Int32} {k : Nat} (hj : j.toInt = (k : Int)) (hk : k < n) {x : Int32} {pc pc' : Nat} {Ls : Array Slot} {rest : List Value}
    (hd : decode c.code pc = .ok (.iastore, 1)) (hp : pc + 1 = pc') :
    ∃ T' h', Stand p l e R s m args below meth c T' (locs ++ [⟨a, k⟩]) cells slots ∧ T'.heap = h' ∧ Wr h h' a k (.int x) ∧ own_AI Z h' a .int n (fun i => if i = k then x else fi i) ∧ ∀ t, Steps p.tables e below (T'.setTop (mkF m pc' Ls rest)) t → Steps p.tables e below (T.setTop (mkF m pc Ls (.int x :: .int j :: .ref a :: rest))) t := by
  obtain ⟨q1, q2⟩ := own_in hj hk
  have F' := F
  obtain ⟨cc, A, h1, h2⟩ := F
  subst hp q1
  obtain ⟨T', h', X', e', W', st⟩ := stI X hx hZ eT A (j := j) (x := x) (by rw [h1]; exact q2) (g := mkF m pc Ls (.int x :: .int j :: .ref a :: rest)) rfl rfl hd
  exact ⟨T', h', X', e', W', F'.set W', st⟩
theorem own_bastore (X : Stand p l e R s m args below meth c T locs cells slots) (hx : p.tables.exec = Jvm.exec) (hZ : Z.Warmed39 s.vm) (eT : T.heap = h) (F : own_AI Z h a .byte n fi) {j : Int32} {k : Nat} (hj : j.toInt = (k : Int)) (hk : k < n) {x y : Int32} (hn : nar .byte x = y) {pc pc' : Nat} {Ls : Array Slot} {rest : List Value}
    (hd : decode c.code pc = .ok (.bastore, 1)) (hp : pc + 1 = pc') :
    ∃ T' h', Stand p l e R s m args below meth c T' (locs ++ [⟨a, k⟩]) cells slots ∧ T'.heap = h' ∧ Wr h h' a k (.int y) ∧ own_AI Z h' a .byte n (fun i => if i = k then y else fi i) ∧ ∀ t, Steps p.tables e below (T'.setTop (mkF m pc' Ls rest)) t → Steps p.tables e below (T.setTop (mkF m pc Ls (.int x :: .int j :: .ref a :: rest))) t := by
  obtain ⟨q1, q2⟩ := own_in hj hk
  have F' := F
  obtain ⟨cc, A, h1, h2⟩ := F
  subst hp q1 hn
  obtain ⟨T', h', X', e', W', st⟩ := stB X hx hZ eT A (j := j) (x := x) (by rw [h1]; exact q2) (g := mkF m pc Ls (.int x :: .int j :: .ref a :: rest)) rfl rfl hd
  exact ⟨T', h', X', e', W', F'.set W', st⟩
theorem own_lastore (X : Stand p l e R s m args below meth c T locs cells slots) (hx : p.tables.exec = Jvm.exec) (hZ : Z.Warmed39 s.vm) (eT : T.heap = h) (F : own_AJ Z h a n fj) {j : Int32} {k : Nat} (hj : j.toInt = (k : Int)) (hk : k < n) {x : Int64} {pc pc' : Nat} {Ls : Array Slot} {rest : List Value}
    (hd : decode c.code pc = .ok (.lastore, 1)) (hp : pc + 1 = pc') :
    ∃ T' h', Stand p l e R s m args below meth c T' (locs ++ [⟨a, k⟩]) cells slots ∧ T'.heap = h' ∧ Wr h h' a k (.long x) ∧ own_AJ Z h' a n (fun i => if i = k then x else fj i) ∧ ∀ t, Steps p.tables e below (T'.setTop (mkF m pc' Ls rest)) t → Steps p.tables e below (T.setTop (mkF m pc Ls (.long x :: .int j :: .ref a :: rest))) t := by
  obtain ⟨q1, q2⟩ := own_in hj hk
  have F' := F
  obtain ⟨cc, A, h1, h2⟩ := F
  subst hp q1
  obtain ⟨T', h', X', e', W', st⟩ := stJ X hx hZ eT A (j := j) (x := x) (by rw [h1]; exact q2) (g := mkF m pc Ls (.long x :: .int j :: .ref a :: rest)) rfl rfl hd
  exact ⟨T', h', X', e', W', F'.set W', st⟩
theorem own_nar8 (x : Int32) : nar .byte x.toInt8.toInt32 = x.toInt8.toInt32 := by
  show (x.toInt8.toInt32).toInt8.toInt32 = x.toInt8.toInt32
  simp
end OwnKit
def own_la (b0 b1 b2 b3 b4 b5 b6 b7 : Int32) : Int64 := (((((((((b0.toInt64 &&& (255 : Int64)) <<< ((56 : Int32) &&& 0x3f).toInt64) ||| ((b1.toInt64 &&& (255 : Int64)) <<< ((48 : Int32) &&& 0x3f).toInt64)) ||| ((b2.toInt64 &&& (255 : Int64)) <<< ((40 : Int32) &&& 0x3f).toInt64)) ||| ((b3.toInt64 &&& (255 : Int64)) <<< ((32 : Int32) &&& 0x3f).toInt64)) ||| ((b4.toInt64 &&& (255 : Int64)) <<< ((24 : Int32) &&& 0x3f).toInt64)) ||| ((b5.toInt64 &&& (255 : Int64)) <<< ((16 : Int32) &&& 0x3f).toInt64)) ||| ((b6.toInt64 &&& (255 : Int64)) <<< ((8 : Int32) &&& 0x3f).toInt64)) ||| (b7.toInt64 &&& (255 : Int64)))
theorem own_dig (b : Int32) : (b.toInt64 &&& (255 : Int64)).toInt = b.toInt % 256 := by
  have h := c_maskL b.toInt64 255 8 (by decide) (by decide)
  rw [h, c_i2l]; rfl
theorem own_la_i (b0 b1 b2 b3 b4 b5 b6 b7 : Int32) : ((own_la b0 b1 b2 b3 b4 b5 b6 b7).toInt - (b0.toInt % 256 * 72057594037927936 + b1.toInt % 256 * 281474976710656 + b2.toInt % 256 * 1099511627776 + b3.toInt % 256 * 4294967296 + b4.toInt % 256 * 16777216 + b5.toInt % 256 * 65536 + b6.toInt % 256 * 256 + b7.toInt % 256 * 1)) % 18446744073709551616 = 0 := by
  unfold own_la
  have d0 := own_dig b0
  generalize b0.toInt64 &&& (255 : Int64) = x0 at *
  have h0 := c_lshl x0 56 56 (by decide)
  have r0 := rng64 (x0 <<< ((56 : Int32) &&& 0x3f).toInt64)
  generalize (x0 <<< ((56 : Int32) &&& 0x3f).toInt64) = s0 at *
  rw [show ((2 : Nat) ^ 56 : Nat) = 72057594037927936 from by decide] at h0
  have d1 := own_dig b1
  generalize b1.toInt64 &&& (255 : Int64) = x1 at *
  have h1 := c_lshl x1 48 48 (by decide)
  have r1 := rng64 (x1 <<< ((48 : Int32) &&& 0x3f).toInt64)
  generalize (x1 <<< ((48 : Int32) &&& 0x3f).toInt64) = s1 at *
  rw [show ((2 : Nat) ^ 48 : Nat) = 281474976710656 from by decide] at h1
  have d2 := own_dig b2
  generalize b2.toInt64 &&& (255 : Int64) = x2 at *
  have h2 := c_lshl x2 40 40 (by decide)
  have r2 := rng64 (x2 <<< ((40 : Int32) &&& 0x3f).toInt64)
  generalize (x2 <<< ((40 : Int32) &&& 0x3f).toInt64) = s2 at *
  rw [show ((2 : Nat) ^ 40 : Nat) = 1099511627776 from by decide] at h2
  have d3 := own_dig b3
  generalize b3.toInt64 &&& (255 : Int64) = x3 at *
  have h3 := c_lshl x3 32 32 (by decide)
  have r3 := rng64 (x3 <<< ((32 : Int32) &&& 0x3f).toInt64)
  generalize (x3 <<< ((32 : Int32) &&& 0x3f).toInt64) = s3 at *
  rw [show ((2 : Nat) ^ 32 : Nat) = 4294967296 from by decide] at h3
  have d4 := own_dig b4
  generalize b4.toInt64 &&& (255 : Int64) = x4 at *
  have h4 := c_lshl x4 24 24 (by decide)
  have r4 := rng64 (x4 <<< ((24 : Int32) &&& 0x3f).toInt64)
  generalize (x4 <<< ((24 : Int32) &&& 0x3f).toInt64) = s4 at *
  rw [show ((2 : Nat) ^ 24 : Nat) = 16777216 from by decide] at h4
  have d5 := own_dig b5
  generalize b5.toInt64 &&& (255 : Int64) = x5 at *
  have h5 := c_lshl x5 16 16 (by decide)
  have r5 := rng64 (x5 <<< ((16 : Int32) &&& 0x3f).toInt64)
  generalize (x5 <<< ((16 : Int32) &&& 0x3f).toInt64) = s5 at *
  rw [show ((2 : Nat) ^ 16 : Nat) = 65536 from by decide] at h5
  have d6 := own_dig b6
  generalize b6.toInt64 &&& (255 : Int64) = x6 at *
  have h6 := c_lshl x6 8 8 (by decide)
  have r6 := rng64 (x6 <<< ((8 : Int32) &&& 0x3f).toInt64)
  generalize (x6 <<< ((8 : Int32) &&& 0x3f).toInt64) = s6 at *
  rw [show ((2 : Nat) ^ 8 : Nat) = 256 from by decide] at h6
  have d7 := own_dig b7
  generalize b7.toInt64 &&& (255 : Int64) = x7 at *
  have z0 := h0
  have t1 : s1.toInt = x1.toInt * 281474976710656 := by omega
  have o1 := c_orL s0 s1 56 (by decide) 72057594037927936 (by decide) (by omega) (by omega) (by omega)
  generalize s0 ||| s1 = a1 at *
  have t2 : s2.toInt = x2.toInt * 1099511627776 := by omega
  have o2 := c_orL a1 s2 48 (by decide) 281474976710656 (by decide) (by omega) (by omega) (by omega)
  generalize a1 ||| s2 = a2 at *
  have t3 : s3.toInt = x3.toInt * 4294967296 := by omega
  have o3 := c_orL a2 s3 40 (by decide) 1099511627776 (by decide) (by omega) (by omega) (by omega)
  generalize a2 ||| s3 = a3 at *
  have t4 : s4.toInt = x4.toInt * 16777216 := by omega
  have o4 := c_orL a3 s4 32 (by decide) 4294967296 (by decide) (by omega) (by omega) (by omega)
  generalize a3 ||| s4 = a4 at *
  have t5 : s5.toInt = x5.toInt * 65536 := by omega
  have o5 := c_orL a4 s5 24 (by decide) 16777216 (by decide) (by omega) (by omega) (by omega)
  generalize a4 ||| s5 = a5 at *
  have t6 : s6.toInt = x6.toInt * 256 := by omega
  have o6 := c_orL a5 s6 16 (by decide) 65536 (by decide) (by omega) (by omega) (by omega)
  generalize a5 ||| s6 = a6 at *
  have o7 := c_orL a6 x7 8 (by decide) 256 (by decide) (by omega) (by omega) (by omega)
  generalize a6 ||| x7 = a7 at *
  omega
theorem own_byt (w : Int64) : (w.toInt32.toInt8.toInt32).toInt % 256 = w.toInt % 256 := by
  have h1 := c_i2b w.toInt32
  have h2 := c_l2i w
  omega
theorem own_tel (u : Int) (h0 : 0 ≤ u) (h1 : u < 18446744073709551616) : u = u / 72057594037927936 % 256 * 72057594037927936 + u / 281474976710656 % 256 * 281474976710656 + u / 1099511627776 % 256 * 1099511627776 + u / 4294967296 % 256 * 4294967296 + u / 16777216 % 256 * 16777216 + u / 65536 % 256 * 65536 + u / 256 % 256 * 256 + u % 256 := by
  have q1 : u / 256 / 256 = u / 65536 := by omega
  have q2 : u / 65536 / 256 = u / 16777216 := by omega
  have q3 : u / 16777216 / 256 = u / 4294967296 := by omega
  have q4 : u / 4294967296 / 256 = u / 1099511627776 := by omega
  have q5 : u / 1099511627776 / 256 = u / 281474976710656 := by omega
  have q6 : u / 281474976710656 / 256 = u / 72057594037927936 := by omega
  have b7 : 0 ≤ u / 72057594037927936 ∧ u / 72057594037927936 < 256 := by omega
  generalize hw1 : u / 256 = w1 at *
  generalize u / 65536 = w2 at *
  generalize u / 16777216 = w3 at *
  generalize u / 4294967296 = w4 at *
  generalize u / 1099511627776 = w5 at *
  generalize u / 281474976710656 = w6 at *
  generalize u / 72057594037927936 = w7 at *
  omega
theorem own_la_v (v : Int64) : own_la ((((v.toUInt64 >>> ((56 : Int32) &&& 0x3f).toInt64.toUInt64).toInt64).toInt32).toInt8.toInt32) ((((v.toUInt64 >>> ((48 : Int32) &&& 0x3f).toInt64.toUInt64).toInt64).toInt32).toInt8.toInt32) ((((v.toUInt64 >>> ((40 : Int32) &&& 0x3f).toInt64.toUInt64).toInt64).toInt32).toInt8.toInt32) ((((v.toUInt64 >>> ((32 : Int32) &&& 0x3f).toInt64.toUInt64).toInt64).toInt32).toInt8.toInt32) ((((v.toUInt64 >>> ((24 : Int32) &&& 0x3f).toInt64.toUInt64).toInt64).toInt32).toInt8.toInt32) ((((v.toUInt64 >>> ((16 : Int32) &&& 0x3f).toInt64.toUInt64).toInt64).toInt32).toInt8.toInt32) ((((v.toUInt64 >>> ((8 : Int32) &&& 0x3f).toInt64.toUInt64).toInt64).toInt32).toInt8.toInt32) ((v.toInt32).toInt8.toInt32) = v := by
  have h := own_la_i ((((v.toUInt64 >>> ((56 : Int32) &&& 0x3f).toInt64.toUInt64).toInt64).toInt32).toInt8.toInt32) ((((v.toUInt64 >>> ((48 : Int32) &&& 0x3f).toInt64.toUInt64).toInt64).toInt32).toInt8.toInt32) ((((v.toUInt64 >>> ((40 : Int32) &&& 0x3f).toInt64.toUInt64).toInt64).toInt32).toInt8.toInt32) ((((v.toUInt64 >>> ((32 : Int32) &&& 0x3f).toInt64.toUInt64).toInt64).toInt32).toInt8.toInt32) ((((v.toUInt64 >>> ((24 : Int32) &&& 0x3f).toInt64.toUInt64).toInt64).toInt32).toInt8.toInt32) ((((v.toUInt64 >>> ((16 : Int32) &&& 0x3f).toInt64.toUInt64).toInt64).toInt32).toInt8.toInt32) ((((v.toUInt64 >>> ((8 : Int32) &&& 0x3f).toInt64.toUInt64).toInt64).toInt32).toInt8.toInt32) ((v.toInt32).toInt8.toInt32)
  have e0 := own_byt ((v.toUInt64 >>> ((56 : Int32) &&& 0x3f).toInt64.toUInt64).toInt64)
  rw [c_lushr v 56 56 (by decide) (by decide), show ((2 : Nat) ^ 56 : Nat) = 72057594037927936 from by decide] at e0
  have e1 := own_byt ((v.toUInt64 >>> ((48 : Int32) &&& 0x3f).toInt64.toUInt64).toInt64)
  rw [c_lushr v 48 48 (by decide) (by decide), show ((2 : Nat) ^ 48 : Nat) = 281474976710656 from by decide] at e1
  have e2 := own_byt ((v.toUInt64 >>> ((40 : Int32) &&& 0x3f).toInt64.toUInt64).toInt64)
  rw [c_lushr v 40 40 (by decide) (by decide), show ((2 : Nat) ^ 40 : Nat) = 1099511627776 from by decide] at e2
  have e3 := own_byt ((v.toUInt64 >>> ((32 : Int32) &&& 0x3f).toInt64.toUInt64).toInt64)
  rw [c_lushr v 32 32 (by decide) (by decide), show ((2 : Nat) ^ 32 : Nat) = 4294967296 from by decide] at e3
  have e4 := own_byt ((v.toUInt64 >>> ((24 : Int32) &&& 0x3f).toInt64.toUInt64).toInt64)
  rw [c_lushr v 24 24 (by decide) (by decide), show ((2 : Nat) ^ 24 : Nat) = 16777216 from by decide] at e4
  have e5 := own_byt ((v.toUInt64 >>> ((16 : Int32) &&& 0x3f).toInt64.toUInt64).toInt64)
  rw [c_lushr v 16 16 (by decide) (by decide), show ((2 : Nat) ^ 16 : Nat) = 65536 from by decide] at e5
  have e6 := own_byt ((v.toUInt64 >>> ((8 : Int32) &&& 0x3f).toInt64.toUInt64).toInt64)
  rw [c_lushr v 8 8 (by decide) (by decide), show ((2 : Nat) ^ 8 : Nat) = 256 from by decide] at e6
  have e7 := own_byt v
  rw [e0, e1, e2, e3, e4, e5, e6, e7] at h
  have r := rng64 v
  have t := own_tel (v.toInt % 18446744073709551616) (by omega) (by omega)
  have r2 := rng64 (own_la ((((v.toUInt64 >>> ((56 : Int32) &&& 0x3f).toInt64.toUInt64).toInt64).toInt32).toInt8.toInt32) ((((v.toUInt64 >>> ((48 : Int32) &&& 0x3f).toInt64.toUInt64).toInt64).toInt32).toInt8.toInt32) ((((v.toUInt64 >>> ((40 : Int32) &&& 0x3f).toInt64.toUInt64).toInt64).toInt32).toInt8.toInt32) ((((v.toUInt64 >>> ((32 : Int32) &&& 0x3f).toInt64.toUInt64).toInt64).toInt32).toInt8.toInt32) ((((v.toUInt64 >>> ((24 : Int32) &&& 0x3f).toInt64.toUInt64).toInt64).toInt32).toInt8.toInt32) ((((v.toUInt64 >>> ((16 : Int32) &&& 0x3f).toInt64.toUInt64).toInt64).toInt32).toInt8.toInt32) ((((v.toUInt64 >>> ((8 : Int32) &&& 0x3f).toInt64.toUInt64).toInt64).toInt32).toInt8.toInt32) ((v.toInt32).toInt8.toInt32))
  apply Int64.toInt_inj.mp
  generalize own_la ((((v.toUInt64 >>> ((56 : Int32) &&& 0x3f).toInt64.toUInt64).toInt64).toInt32).toInt8.toInt32) ((((v.toUInt64 >>> ((48 : Int32) &&& 0x3f).toInt64.toUInt64).toInt64).toInt32).toInt8.toInt32) ((((v.toUInt64 >>> ((40 : Int32) &&& 0x3f).toInt64.toUInt64).toInt64).toInt32).toInt8.toInt32) ((((v.toUInt64 >>> ((32 : Int32) &&& 0x3f).toInt64.toUInt64).toInt64).toInt32).toInt8.toInt32) ((((v.toUInt64 >>> ((24 : Int32) &&& 0x3f).toInt64.toUInt64).toInt64).toInt32).toInt8.toInt32) ((((v.toUInt64 >>> ((16 : Int32) &&& 0x3f).toInt64.toUInt64).toInt64).toInt32).toInt8.toInt32) ((((v.toUInt64 >>> ((8 : Int32) &&& 0x3f).toInt64.toUInt64).toInt64).toInt32).toInt8.toInt32) ((v.toInt32).toInt8.toInt32) = z at *
  have e : v.toInt % 18446744073709551616 % 256 = v.toInt % 256 := by omega
  rw [e] at t
  generalize v.toInt % 18446744073709551616 / 72057594037927936 % 256 = y0 at *
  generalize v.toInt % 18446744073709551616 / 281474976710656 % 256 = y1 at *
  generalize v.toInt % 18446744073709551616 / 1099511627776 % 256 = y2 at *
  generalize v.toInt % 18446744073709551616 / 4294967296 % 256 = y3 at *
  generalize v.toInt % 18446744073709551616 / 16777216 % 256 = y4 at *
  generalize v.toInt % 18446744073709551616 / 65536 % 256 = y5 at *
  generalize v.toInt % 18446744073709551616 / 256 % 256 = y6 at *
  generalize v.toInt % 256 = y7 at *
  omega
theorem own_ix (a : Int32) (k : Int32) (n : Int) (hk : k.toInt = n) (h0 : 0 ≤ a.toInt) (h1 : a.toInt ≤ 1000) (h2 : 0 ≤ n) (h3 : n ≤ 1000) : (a + k).toInt = a.toInt + n := by
  have h := c_iadd a k
  have r := rng32 (a + k)
  rw [hk] at h
  omega
theorem d1_0 : decode prog_24_method_10_code 0 = .ok (.aload_n 0, 1) := by decide +kernel
theorem d1_1 : decode prog_24_method_10_code 1 = .ok (.iload_n 1, 1) := by decide +kernel
theorem d1_2 : decode prog_24_method_10_code 2 = .ok (.baload, 1) := by decide +kernel
theorem d1_3 : decode prog_24_method_10_code 3 = .ok (.i2l, 1) := by decide +kernel
theorem d1_4 : decode prog_24_method_10_code 4 = .ok (.ldc2_w 33, 3) := by decide +kernel
theorem d1_7 : decode prog_24_method_10_code 7 = .ok (.land, 1) := by decide +kernel
theorem d1_8 : decode prog_24_method_10_code 8 = .ok (.bipush 56, 2) := by decide +kernel
theorem d1_10 : decode prog_24_method_10_code 10 = .ok (.lshl, 1) := by decide +kernel
theorem d1_11 : decode prog_24_method_10_code 11 = .ok (.aload_n 0, 1) := by decide +kernel
theorem d1_12 : decode prog_24_method_10_code 12 = .ok (.iload_n 1, 1) := by decide +kernel
theorem d1_13 : decode prog_24_method_10_code 13 = .ok (.iconst 1, 1) := by decide +kernel
theorem d1_14 : decode prog_24_method_10_code 14 = .ok (.iadd, 1) := by decide +kernel
theorem d1_15 : decode prog_24_method_10_code 15 = .ok (.baload, 1) := by decide +kernel
theorem d1_16 : decode prog_24_method_10_code 16 = .ok (.i2l, 1) := by decide +kernel
theorem d1_17 : decode prog_24_method_10_code 17 = .ok (.ldc2_w 33, 3) := by decide +kernel
theorem d1_20 : decode prog_24_method_10_code 20 = .ok (.land, 1) := by decide +kernel
theorem d1_21 : decode prog_24_method_10_code 21 = .ok (.bipush 48, 2) := by decide +kernel
theorem d1_23 : decode prog_24_method_10_code 23 = .ok (.lshl, 1) := by decide +kernel
theorem d1_24 : decode prog_24_method_10_code 24 = .ok (.lor, 1) := by decide +kernel
theorem d1_25 : decode prog_24_method_10_code 25 = .ok (.aload_n 0, 1) := by decide +kernel
theorem d1_26 : decode prog_24_method_10_code 26 = .ok (.iload_n 1, 1) := by decide +kernel
theorem d1_27 : decode prog_24_method_10_code 27 = .ok (.iconst 2, 1) := by decide +kernel
theorem d1_28 : decode prog_24_method_10_code 28 = .ok (.iadd, 1) := by decide +kernel
theorem d1_29 : decode prog_24_method_10_code 29 = .ok (.baload, 1) := by decide +kernel
theorem d1_30 : decode prog_24_method_10_code 30 = .ok (.i2l, 1) := by decide +kernel
theorem d1_31 : decode prog_24_method_10_code 31 = .ok (.ldc2_w 33, 3) := by decide +kernel
theorem d1_34 : decode prog_24_method_10_code 34 = .ok (.land, 1) := by decide +kernel
theorem d1_35 : decode prog_24_method_10_code 35 = .ok (.bipush 40, 2) := by decide +kernel
theorem d1_37 : decode prog_24_method_10_code 37 = .ok (.lshl, 1) := by decide +kernel
theorem d1_38 : decode prog_24_method_10_code 38 = .ok (.lor, 1) := by decide +kernel
theorem d1_39 : decode prog_24_method_10_code 39 = .ok (.aload_n 0, 1) := by decide +kernel
theorem d1_40 : decode prog_24_method_10_code 40 = .ok (.iload_n 1, 1) := by decide +kernel
theorem d1_41 : decode prog_24_method_10_code 41 = .ok (.iconst 3, 1) := by decide +kernel
theorem d1_42 : decode prog_24_method_10_code 42 = .ok (.iadd, 1) := by decide +kernel
theorem d1_43 : decode prog_24_method_10_code 43 = .ok (.baload, 1) := by decide +kernel
theorem d1_44 : decode prog_24_method_10_code 44 = .ok (.i2l, 1) := by decide +kernel
theorem d1_45 : decode prog_24_method_10_code 45 = .ok (.ldc2_w 33, 3) := by decide +kernel
theorem d1_48 : decode prog_24_method_10_code 48 = .ok (.land, 1) := by decide +kernel
theorem d1_49 : decode prog_24_method_10_code 49 = .ok (.bipush 32, 2) := by decide +kernel
theorem d1_51 : decode prog_24_method_10_code 51 = .ok (.lshl, 1) := by decide +kernel
theorem d1_52 : decode prog_24_method_10_code 52 = .ok (.lor, 1) := by decide +kernel
theorem d1_53 : decode prog_24_method_10_code 53 = .ok (.aload_n 0, 1) := by decide +kernel
theorem d1_54 : decode prog_24_method_10_code 54 = .ok (.iload_n 1, 1) := by decide +kernel
theorem d1_55 : decode prog_24_method_10_code 55 = .ok (.iconst 4, 1) := by decide +kernel
theorem d1_56 : decode prog_24_method_10_code 56 = .ok (.iadd, 1) := by decide +kernel
theorem d1_57 : decode prog_24_method_10_code 57 = .ok (.baload, 1) := by decide +kernel
theorem d1_58 : decode prog_24_method_10_code 58 = .ok (.i2l, 1) := by decide +kernel
theorem d1_59 : decode prog_24_method_10_code 59 = .ok (.ldc2_w 33, 3) := by decide +kernel
theorem d1_62 : decode prog_24_method_10_code 62 = .ok (.land, 1) := by decide +kernel
theorem d1_63 : decode prog_24_method_10_code 63 = .ok (.bipush 24, 2) := by decide +kernel
theorem d1_65 : decode prog_24_method_10_code 65 = .ok (.lshl, 1) := by decide +kernel
theorem d1_66 : decode prog_24_method_10_code 66 = .ok (.lor, 1) := by decide +kernel
theorem d1_67 : decode prog_24_method_10_code 67 = .ok (.aload_n 0, 1) := by decide +kernel
theorem d1_68 : decode prog_24_method_10_code 68 = .ok (.iload_n 1, 1) := by decide +kernel
theorem d1_69 : decode prog_24_method_10_code 69 = .ok (.iconst 5, 1) := by decide +kernel
theorem d1_70 : decode prog_24_method_10_code 70 = .ok (.iadd, 1) := by decide +kernel
theorem d1_71 : decode prog_24_method_10_code 71 = .ok (.baload, 1) := by decide +kernel
theorem d1_72 : decode prog_24_method_10_code 72 = .ok (.i2l, 1) := by decide +kernel
theorem d1_73 : decode prog_24_method_10_code 73 = .ok (.ldc2_w 33, 3) := by decide +kernel
theorem d1_76 : decode prog_24_method_10_code 76 = .ok (.land, 1) := by decide +kernel
theorem d1_77 : decode prog_24_method_10_code 77 = .ok (.bipush 16, 2) := by decide +kernel
theorem d1_79 : decode prog_24_method_10_code 79 = .ok (.lshl, 1) := by decide +kernel
theorem d1_80 : decode prog_24_method_10_code 80 = .ok (.lor, 1) := by decide +kernel
theorem d1_81 : decode prog_24_method_10_code 81 = .ok (.aload_n 0, 1) := by decide +kernel
theorem d1_82 : decode prog_24_method_10_code 82 = .ok (.iload_n 1, 1) := by decide +kernel
theorem d1_83 : decode prog_24_method_10_code 83 = .ok (.bipush 6, 2) := by decide +kernel
theorem d1_85 : decode prog_24_method_10_code 85 = .ok (.iadd, 1) := by decide +kernel
theorem d1_86 : decode prog_24_method_10_code 86 = .ok (.baload, 1) := by decide +kernel
theorem d1_87 : decode prog_24_method_10_code 87 = .ok (.i2l, 1) := by decide +kernel
theorem d1_88 : decode prog_24_method_10_code 88 = .ok (.ldc2_w 33, 3) := by decide +kernel
theorem d1_91 : decode prog_24_method_10_code 91 = .ok (.land, 1) := by decide +kernel
theorem d1_92 : decode prog_24_method_10_code 92 = .ok (.bipush 8, 2) := by decide +kernel
theorem d1_94 : decode prog_24_method_10_code 94 = .ok (.lshl, 1) := by decide +kernel
theorem d1_95 : decode prog_24_method_10_code 95 = .ok (.lor, 1) := by decide +kernel
theorem d1_96 : decode prog_24_method_10_code 96 = .ok (.aload_n 0, 1) := by decide +kernel
theorem d1_97 : decode prog_24_method_10_code 97 = .ok (.iload_n 1, 1) := by decide +kernel
theorem d1_98 : decode prog_24_method_10_code 98 = .ok (.bipush 7, 2) := by decide +kernel
theorem d1_100 : decode prog_24_method_10_code 100 = .ok (.iadd, 1) := by decide +kernel
theorem d1_101 : decode prog_24_method_10_code 101 = .ok (.baload, 1) := by decide +kernel
theorem d1_102 : decode prog_24_method_10_code 102 = .ok (.i2l, 1) := by decide +kernel
theorem d1_103 : decode prog_24_method_10_code 103 = .ok (.ldc2_w 33, 3) := by decide +kernel
theorem d1_106 : decode prog_24_method_10_code 106 = .ok (.land, 1) := by decide +kernel
theorem d1_107 : decode prog_24_method_10_code 107 = .ok (.lor, 1) := by decide +kernel
theorem d1_108 : decode prog_24_method_10_code 108 = .ok (.lreturn, 1) := by decide +kernel
theorem own_pn_1 : plainName "com/example/pcr10/pcr10/ScratchBytes" = true := by first | (simp [plainName, overriddenIn]; done) | decide +kernel
theorem own_ef_1 (m : MethodId) (a1 : Addr) (p2 : Int32) : entryFrame m #[(.ref a1), (.int p2)] 2 = mkF m 0 #[.val (.ref a1), .val (.int p2)] [] := by first | (simp [entryFrame, mkF, argsToLocals, Value.category]; done) | rfl
abbrev own_R1 : Room := { frames := 0, cells := 0, slots := 0, locals := 0 }
def own_Q1 (Z : State) (a1 : Addr) (p2 : Int32) (f1 : Nat → Int32) (h0 : Heap) (n0 : Nat) (v : Option Value) (h : Heap) (L : List Loc) : Prop := v = some (.long (own_la (f1 (p2.toInt.toNat)) (f1 (p2.toInt.toNat + 1)) (f1 (p2.toInt.toNat + 2)) (f1 (p2.toInt.toNat + 3)) (f1 (p2.toInt.toNat + 4)) (f1 (p2.toInt.toNat + 5)) (f1 (p2.toInt.toNat + 6)) (f1 (p2.toInt.toNat + 7)))) ∧ Fr n0 L ∧ h = h0
set_option maxRecDepth 65536 in
set_option maxHeartbeats 40000000 in
theorem rm1 (l : Launch) (Z : State) (a0 : Array Value) (hw : ∀ d ∈ tables_1, d.before a0 Z = true) (ws : List Jvm.Cond) (a1 : Addr) (p2 : Int32) (f1 : Nat → Int32) (h0 : Heap) (n0 : Nat) (Z0 : n0 ≤ h0.size) (V_a1 : own_AI Z h0 a1 .byte 11 f1) (hp : 0 ≤ p2.toInt ∧ p2.toInt + 7 < 11) :
    MetFree l (⟨"com/example/pcr10/pcr10/ScratchBytes", "longAt", "([BI)J"⟩ : MethodName) (head1 (Jvm.Cond.code (⟨"com/example/pcr10/pcr10/ScratchBytes", "longAt", "([BI)J"⟩ : MethodName) prog_24_method_10_code 2 (some .long) :: ws) own_R1) (fun a U => a = #[(.ref a1), (.int p2)] ∧ Z.Warmed39 U.vm ∧ U.heap = h0) (fun _ _ _ _ _ => True) (fun _ U o U' => ∃ v L, o = .returned v ∧ own_Q1 Z a1 p2 f1 h0 n0 v U'.heap L ∧ FrameEnd U o U' L own_R1.cells own_R1.slots) := by
  refine MetFree.of_bodySF (plainFor_of_name own_pn_1) hisR ?_
  intro p e s m args below meth c s₁ Bd hml0 hP hK
  obtain ⟨rfl, hZ, hh⟩ := hP
  have hx := Bd.exec
  have hby := Bd.bytes
  have hlk := BodyLoose.notSynchronized Bd
  have hml : c.maxLocals = 2 := hml0
  have hown : s.vm.findClass "com/example/pcr10/pcr10/ScratchBytes" = some m.cls := (findClass_of_methodNamed Bd.named : s.vm.findClass (⟨"com/example/pcr10/pcr10/ScratchBytes", "longAt", "([BI)J"⟩ : MethodName).cls = some m.cls)
  have hnm := (name_of_methodNamed Bd.named Bd.method).1
  have X0 : Stand p l e own_R1 s m #[(.ref a1), (.int p2)] below meth c s₁ [] 0 0 := Stand.of_body Bd
  have e0 : s₁.heap = h0 := by rw [← hh, Bd.state]; rfl
  have Nf := Fr.nil n0
  have Zs := Z0
  show own_Fin p e below s (own_Q1 Z a1 p2 f1 h0 n0) 0 0 s₁ (entryFrame m #[(.ref a1), (.int p2)] 2)
  rw [own_ef_1 m a1 p2]
  show own_Fin _ _ _ _ _ _ _ _ (mkF m 0 #[.val (.ref a1), .val (.int p2)] [])
  refine own_step (fun t k => XS.aloadN X0.here hx rfl (hb hby d1_0) rfl rfl k) ?_
  show own_Fin _ _ _ _ _ _ _ _ (mkF m 1 #[.val (.ref a1), .val (.int p2)] [(.ref a1)])
  refine own_step (fun t k => XS.iloadN X0.here hx rfl (hb hby d1_1) rfl k) ?_
  show own_Fin _ _ _ _ _ _ _ _ (mkF m 2 #[.val (.ref a1), .val (.int p2)] [(.int p2), (.ref a1)])
  refine own_baload X0 hx hZ e0 V_a1 (k := p2.toInt.toNat) (by omega) (by omega) (v := (f1 (p2.toInt.toNat))) rfl (hb hby d1_2) rfl ?_
  show own_Fin _ _ _ _ _ _ _ _ (mkF m 3 #[.val (.ref a1), .val (.int p2)] [(.int (f1 (p2.toInt.toNat)))])
  refine own_step (fun t k => XS.i2l X0.here hx rfl (hb hby d1_3) rfl k) ?_
  show own_Fin _ _ _ _ _ _ _ _ (mkF m 4 #[.val (.ref a1), .val (.int p2)] [(.long ((f1 (p2.toInt.toNat)).toInt64))])
  refine own_step (fun t k => X0.ldc2Long hx hown (mvT hZ (hw _ (List.mem_of_getElem? (i := 5) rfl))) (g := (mkF m 4 #[.val (.ref a1), .val (.int p2)] [(.long ((f1 (p2.toInt.toNat)).toInt64))])) rfl (hb hby d1_4) _ k) ?_
  show own_Fin _ _ _ _ _ _ _ _ (mkF m 7 #[.val (.ref a1), .val (.int p2)] [(.long (255 : Int64)), (.long ((f1 (p2.toInt.toNat)).toInt64))])
  refine own_step (fun t k => XS.land X0.here hx rfl (hb hby d1_7) rfl k) ?_
  show own_Fin _ _ _ _ _ _ _ _ (mkF m 8 #[.val (.ref a1), .val (.int p2)] [(.long (((f1 (p2.toInt.toNat)).toInt64) &&& (255 : Int64)))])
  refine own_step (fun t k => XS.bipush X0.here hx rfl (hb hby d1_8) k) ?_
  show own_Fin _ _ _ _ _ _ _ _ (mkF m 10 #[.val (.ref a1), .val (.int p2)] [(.int (56 : Int32)), (.long (((f1 (p2.toInt.toNat)).toInt64) &&& (255 : Int64)))])
  refine own_step (fun t k => XS.lshl X0.here hx rfl (hb hby d1_10) rfl k) ?_
  show own_Fin _ _ _ _ _ _ _ _ (mkF m 11 #[.val (.ref a1), .val (.int p2)] [(.long ((((f1 (p2.toInt.toNat)).toInt64) &&& (255 : Int64)) <<< ((56 : Int32) &&& 0x3f).toInt64))])
  refine own_step (fun t k => XS.aloadN X0.here hx rfl (hb hby d1_11) rfl rfl k) ?_
  show own_Fin _ _ _ _ _ _ _ _ (mkF m 12 #[.val (.ref a1), .val (.int p2)] [(.ref a1), (.long ((((f1 (p2.toInt.toNat)).toInt64) &&& (255 : Int64)) <<< ((56 : Int32) &&& 0x3f).toInt64))])
  refine own_step (fun t k => XS.iloadN X0.here hx rfl (hb hby d1_12) rfl k) ?_
  show own_Fin _ _ _ _ _ _ _ _ (mkF m 13 #[.val (.ref a1), .val (.int p2)] [(.int p2), (.ref a1), (.long ((((f1 (p2.toInt.toNat)).toInt64) &&& (255 : Int64)) <<< ((56 : Int32) &&& 0x3f).toInt64))])
  refine own_step (fun t k => XS.iconst X0.here hx rfl (hb hby d1_13) k) ?_
  show own_Fin _ _ _ _ _ _ _ _ (mkF m 14 #[.val (.ref a1), .val (.int p2)] [(.int (1 : Int32)), (.int p2), (.ref a1), (.long ((((f1 (p2.toInt.toNat)).toInt64) &&& (255 : Int64)) <<< ((56 : Int32) &&& 0x3f).toInt64))])
  refine own_step (fun t k => XS.iadd X0.here hx rfl (hb hby d1_14) rfl k) ?_
  show own_Fin _ _ _ _ _ _ _ _ (mkF m 15 #[.val (.ref a1), .val (.int p2)] [(.int (p2 + (1 : Int32))), (.ref a1), (.long ((((f1 (p2.toInt.toNat)).toInt64) &&& (255 : Int64)) <<< ((56 : Int32) &&& 0x3f).toInt64))])
  refine own_baload X0 hx hZ e0 V_a1 (k := p2.toInt.toNat + 1) (by rw [own_ix p2 1 1 (by decide) (by omega) (by omega) (by omega) (by omega)]; omega) (by omega) (v := (f1 (p2.toInt.toNat + 1))) rfl (hb hby d1_15) rfl ?_
  show own_Fin _ _ _ _ _ _ _ _ (mkF m 16 #[.val (.ref a1), .val (.int p2)] [(.int (f1 (p2.toInt.toNat + 1))), (.long ((((f1 (p2.toInt.toNat)).toInt64) &&& (255 : Int64)) <<< ((56 : Int32) &&& 0x3f).toInt64))])
  refine own_step (fun t k => XS.i2l X0.here hx rfl (hb hby d1_16) rfl k) ?_
  show own_Fin _ _ _ _ _ _ _ _ (mkF m 17 #[.val (.ref a1), .val (.int p2)] [(.long ((f1 (p2.toInt.toNat + 1)).toInt64)), (.long ((((f1 (p2.toInt.toNat)).toInt64) &&& (255 : Int64)) <<< ((56 : Int32) &&& 0x3f).toInt64))])
  refine own_step (fun t k => X0.ldc2Long hx hown (mvT hZ (hw _ (List.mem_of_getElem? (i := 5) rfl))) (g := (mkF m 17 #[.val (.ref a1), .val (.int p2)] [(.long ((f1 (p2.toInt.toNat + 1)).toInt64)), (.long ((((f1 (p2.toInt.toNat)).toInt64) &&& (255 : Int64)) <<< ((56 : Int32) &&& 0x3f).toInt64))])) rfl (hb hby d1_17) _ k) ?_
  show own_Fin _ _ _ _ _ _ _ _ (mkF m 20 #[.val (.ref a1), .val (.int p2)] [(.long (255 : Int64)), (.long ((f1 (p2.toInt.toNat + 1)).toInt64)), (.long ((((f1 (p2.toInt.toNat)).toInt64) &&& (255 : Int64)) <<< ((56 : Int32) &&& 0x3f).toInt64))])
  refine own_step (fun t k => XS.land X0.here hx rfl (hb hby d1_20) rfl k) ?_
  show own_Fin _ _ _ _ _ _ _ _ (mkF m 21 #[.val (.ref a1), .val (.int p2)] [(.long (((f1 (p2.toInt.toNat + 1)).toInt64) &&& (255 : Int64))), (.long ((((f1 (p2.toInt.toNat)).toInt64) &&& (255 : Int64)) <<< ((56 : Int32) &&& 0x3f).toInt64))])
  refine own_step (fun t k => XS.bipush X0.here hx rfl (hb hby d1_21) k) ?_
  show own_Fin _ _ _ _ _ _ _ _ (mkF m 23 #[.val (.ref a1), .val (.int p2)] [(.int (48 : Int32)), (.long (((f1 (p2.toInt.toNat + 1)).toInt64) &&& (255 : Int64))), (.long ((((f1 (p2.toInt.toNat)).toInt64) &&& (255 : Int64)) <<< ((56 : Int32) &&& 0x3f).toInt64))])
  refine own_step (fun t k => XS.lshl X0.here hx rfl (hb hby d1_23) rfl k) ?_
  show own_Fin _ _ _ _ _ _ _ _ (mkF m 24 #[.val (.ref a1), .val (.int p2)] [(.long ((((f1 (p2.toInt.toNat + 1)).toInt64) &&& (255 : Int64)) <<< ((48 : Int32) &&& 0x3f).toInt64)), (.long ((((f1 (p2.toInt.toNat)).toInt64) &&& (255 : Int64)) <<< ((56 : Int32) &&& 0x3f).toInt64))])
  refine own_step (fun t k => XS.lor X0.here hx rfl (hb hby d1_24) rfl k) ?_
  show own_Fin _ _ _ _ _ _ _ _ (mkF m 25 #[.val (.ref a1), .val (.int p2)] [(.long (((((f1 (p2.toInt.toNat)).toInt64) &&& (255 : Int64)) <<< ((56 : Int32) &&& 0x3f).toInt64) ||| ((((f1 (p2.toInt.toNat + 1)).toInt64) &&& (255 : Int64)) <<< ((48 : Int32) &&& 0x3f).toInt64)))])
  refine own_step (fun t k => XS.aloadN X0.here hx rfl (hb hby d1_25) rfl rfl k) ?_
  show own_Fin _ _ _ _ _ _ _ _ (mkF m 26 #[.val (.ref a1), .val (.int p2)] [(.ref a1), (.long (((((f1 (p2.toInt.toNat)).toInt64) &&& (255 : Int64)) <<< ((56 : Int32) &&& 0x3f).toInt64) ||| ((((f1 (p2.toInt.toNat + 1)).toInt64) &&& (255 : Int64)) <<< ((48 : Int32) &&& 0x3f).toInt64)))])
  refine own_step (fun t k => XS.iloadN X0.here hx rfl (hb hby d1_26) rfl k) ?_
  show own_Fin _ _ _ _ _ _ _ _ (mkF m 27 #[.val (.ref a1), .val (.int p2)] [(.int p2), (.ref a1), (.long (((((f1 (p2.toInt.toNat)).toInt64) &&& (255 : Int64)) <<< ((56 : Int32) &&& 0x3f).toInt64) ||| ((((f1 (p2.toInt.toNat + 1)).toInt64) &&& (255 : Int64)) <<< ((48 : Int32) &&& 0x3f).toInt64)))])
  refine own_step (fun t k => XS.iconst X0.here hx rfl (hb hby d1_27) k) ?_
  show own_Fin _ _ _ _ _ _ _ _ (mkF m 28 #[.val (.ref a1), .val (.int p2)] [(.int (2 : Int32)), (.int p2), (.ref a1), (.long (((((f1 (p2.toInt.toNat)).toInt64) &&& (255 : Int64)) <<< ((56 : Int32) &&& 0x3f).toInt64) ||| ((((f1 (p2.toInt.toNat + 1)).toInt64) &&& (255 : Int64)) <<< ((48 : Int32) &&& 0x3f).toInt64)))])
  refine own_step (fun t k => XS.iadd X0.here hx rfl (hb hby d1_28) rfl k) ?_
  show own_Fin _ _ _ _ _ _ _ _ (mkF m 29 #[.val (.ref a1), .val (.int p2)] [(.int (p2 + (2 : Int32))), (.ref a1), (.long (((((f1 (p2.toInt.toNat)).toInt64) &&& (255 : Int64)) <<< ((56 : Int32) &&& 0x3f).toInt64) ||| ((((f1 (p2.toInt.toNat + 1)).toInt64) &&& (255 : Int64)) <<< ((48 : Int32) &&& 0x3f).toInt64)))])
  refine own_baload X0 hx hZ e0 V_a1 (k := p2.toInt.toNat + 2) (by rw [own_ix p2 2 2 (by decide) (by omega) (by omega) (by omega) (by omega)]; omega) (by omega) (v := (f1 (p2.toInt.toNat + 2))) rfl (hb hby d1_29) rfl ?_
  show own_Fin _ _ _ _ _ _ _ _ (mkF m 30 #[.val (.ref a1), .val (.int p2)] [(.int (f1 (p2.toInt.toNat + 2))), (.long (((((f1 (p2.toInt.toNat)).toInt64) &&& (255 : Int64)) <<< ((56 : Int32) &&& 0x3f).toInt64) ||| ((((f1 (p2.toInt.toNat + 1)).toInt64) &&& (255 : Int64)) <<< ((48 : Int32) &&& 0x3f).toInt64)))])
  refine own_step (fun t k => XS.i2l X0.here hx rfl (hb hby d1_30) rfl k) ?_
  show own_Fin _ _ _ _ _ _ _ _ (mkF m 31 #[.val (.ref a1), .val (.int p2)] [(.long ((f1 (p2.toInt.toNat + 2)).toInt64)), (.long (((((f1 (p2.toInt.toNat)).toInt64) &&& (255 : Int64)) <<< ((56 : Int32) &&& 0x3f).toInt64) ||| ((((f1 (p2.toInt.toNat + 1)).toInt64) &&& (255 : Int64)) <<< ((48 : Int32) &&& 0x3f).toInt64)))])
  refine own_step (fun t k => X0.ldc2Long hx hown (mvT hZ (hw _ (List.mem_of_getElem? (i := 5) rfl))) (g := (mkF m 31 #[.val (.ref a1), .val (.int p2)] [(.long ((f1 (p2.toInt.toNat + 2)).toInt64)), (.long (((((f1 (p2.toInt.toNat)).toInt64) &&& (255 : Int64)) <<< ((56 : Int32) &&& 0x3f).toInt64) ||| ((((f1 (p2.toInt.toNat + 1)).toInt64) &&& (255 : Int64)) <<< ((48 : Int32) &&& 0x3f).toInt64)))])) rfl (hb hby d1_31) _ k) ?_
  show own_Fin _ _ _ _ _ _ _ _ (mkF m 34 #[.val (.ref a1), .val (.int p2)] [(.long (255 : Int64)), (.long ((f1 (p2.toInt.toNat + 2)).toInt64)), (.long (((((f1 (p2.toInt.toNat)).toInt64) &&& (255 : Int64)) <<< ((56 : Int32) &&& 0x3f).toInt64) ||| ((((f1 (p2.toInt.toNat + 1)).toInt64) &&& (255 : Int64)) <<< ((48 : Int32) &&& 0x3f).toInt64)))])
  refine own_step (fun t k => XS.land X0.here hx rfl (hb hby d1_34) rfl k) ?_
  show own_Fin _ _ _ _ _ _ _ _ (mkF m 35 #[.val (.ref a1), .val (.int p2)] [(.long (((f1 (p2.toInt.toNat + 2)).toInt64) &&& (255 : Int64))), (.long (((((f1 (p2.toInt.toNat)).toInt64) &&& (255 : Int64)) <<< ((56 : Int32) &&& 0x3f).toInt64) ||| ((((f1 (p2.toInt.toNat + 1)).toInt64) &&& (255 : Int64)) <<< ((48 : Int32) &&& 0x3f).toInt64)))])
  refine own_step (fun t k => XS.bipush X0.here hx rfl (hb hby d1_35) k) ?_
  show own_Fin _ _ _ _ _ _ _ _ (mkF m 37 #[.val (.ref a1), .val (.int p2)] [(.int (40 : Int32)), (.long (((f1 (p2.toInt.toNat + 2)).toInt64) &&& (255 : Int64))), (.long (((((f1 (p2.toInt.toNat)).toInt64) &&& (255 : Int64)) <<< ((56 : Int32) &&& 0x3f).toInt64) ||| ((((f1 (p2.toInt.toNat + 1)).toInt64) &&& (255 : Int64)) <<< ((48 : Int32) &&& 0x3f).toInt64)))])
  refine own_step (fun t k => XS.lshl X0.here hx rfl (hb hby d1_37) rfl k) ?_
  show own_Fin _ _ _ _ _ _ _ _ (mkF m 38 #[.val (.ref a1), .val (.int p2)] [(.long ((((f1 (p2.toInt.toNat + 2)).toInt64) &&& (255 : Int64)) <<< ((40 : Int32) &&& 0x3f).toInt64)), (.long (((((f1 (p2.toInt.toNat)).toInt64) &&& (255 : Int64)) <<< ((56 : Int32) &&& 0x3f).toInt64) ||| ((((f1 (p2.toInt.toNat + 1)).toInt64) &&& (255 : Int64)) <<< ((48 : Int32) &&& 0x3f).toInt64)))])
  refine own_step (fun t k => XS.lor X0.here hx rfl (hb hby d1_38) rfl k) ?_
  show own_Fin _ _ _ _ _ _ _ _ (mkF m 39 #[.val (.ref a1), .val (.int p2)] [(.long ((((((f1 (p2.toInt.toNat)).toInt64) &&& (255 : Int64)) <<< ((56 : Int32) &&& 0x3f).toInt64) ||| ((((f1 (p2.toInt.toNat + 1)).toInt64) &&& (255 : Int64)) <<< ((48 : Int32) &&& 0x3f).toInt64)) ||| ((((f1 (p2.toInt.toNat + 2)).toInt64) &&& (255 : Int64)) <<< ((40 : Int32) &&& 0x3f).toInt64)))])
  refine own_step (fun t k => XS.aloadN X0.here hx rfl (hb hby d1_39) rfl rfl k) ?_
  show own_Fin _ _ _ _ _ _ _ _ (mkF m 40 #[.val (.ref a1), .val (.int p2)] [(.ref a1), (.long ((((((f1 (p2.toInt.toNat)).toInt64) &&& (255 : Int64)) <<< ((56 : Int32) &&& 0x3f).toInt64) ||| ((((f1 (p2.toInt.toNat + 1)).toInt64) &&& (255 : Int64)) <<< ((48 : Int32) &&& 0x3f).toInt64)) ||| ((((f1 (p2.toInt.toNat + 2)).toInt64) &&& (255 : Int64)) <<< ((40 : Int32) &&& 0x3f).toInt64)))])
  refine own_step (fun t k => XS.iloadN X0.here hx rfl (hb hby d1_40) rfl k) ?_
  show own_Fin _ _ _ _ _ _ _ _ (mkF m 41 #[.val (.ref a1), .val (.int p2)] [(.int p2), (.ref a1), (.long ((((((f1 (p2.toInt.toNat)).toInt64) &&& (255 : Int64)) <<< ((56 : Int32) &&& 0x3f).toInt64) ||| ((((f1 (p2.toInt.toNat + 1)).toInt64) &&& (255 : Int64)) <<< ((48 : Int32) &&& 0x3f).toInt64)) ||| ((((f1 (p2.toInt.toNat + 2)).toInt64) &&& (255 : Int64)) <<< ((40 : Int32) &&& 0x3f).toInt64)))])
  refine own_step (fun t k => XS.iconst X0.here hx rfl (hb hby d1_41) k) ?_
  show own_Fin _ _ _ _ _ _ _ _ (mkF m 42 #[.val (.ref a1), .val (.int p2)] [(.int (3 : Int32)), (.int p2), (.ref a1), (.long ((((((f1 (p2.toInt.toNat)).toInt64) &&& (255 : Int64)) <<< ((56 : Int32) &&& 0x3f).toInt64) ||| ((((f1 (p2.toInt.toNat + 1)).toInt64) &&& (255 : Int64)) <<< ((48 : Int32) &&& 0x3f).toInt64)) ||| ((((f1 (p2.toInt.toNat + 2)).toInt64) &&& (255 : Int64)) <<< ((40 : Int32) &&& 0x3f).toInt64)))])
  refine own_step (fun t k => XS.iadd X0.here hx rfl (hb hby d1_42) rfl k) ?_
  show own_Fin _ _ _ _ _ _ _ _ (mkF m 43 #[.val (.ref a1), .val (.int p2)] [(.int (p2 + (3 : Int32))), (.ref a1), (.long ((((((f1 (p2.toInt.toNat)).toInt64) &&& (255 : Int64)) <<< ((56 : Int32) &&& 0x3f).toInt64) ||| ((((f1 (p2.toInt.toNat + 1)).toInt64) &&& (255 : Int64)) <<< ((48 : Int32) &&& 0x3f).toInt64)) ||| ((((f1 (p2.toInt.toNat + 2)).toInt64) &&& (255 : Int64)) <<< ((40 : Int32) &&& 0x3f).toInt64)))])
  refine own_baload X0 hx hZ e0 V_a1 (k := p2.toInt.toNat + 3) (by rw [own_ix p2 3 3 (by decide) (by omega) (by omega) (by omega) (by omega)]; omega) (by omega) (v := (f1 (p2.toInt.toNat + 3))) rfl (hb hby d1_43) rfl ?_
  show own_Fin _ _ _ _ _ _ _ _ (mkF m 44 #[.val (.ref a1), .val (.int p2)] [(.int (f1 (p2.toInt.toNat + 3))), (.long ((((((f1 (p2.toInt.toNat)).toInt64) &&& (255 : Int64)) <<< ((56 : Int32) &&& 0x3f).toInt64) ||| ((((f1 (p2.toInt.toNat + 1)).toInt64) &&& (255 : Int64)) <<< ((48 : Int32) &&& 0x3f).toInt64)) ||| ((((f1 (p2.toInt.toNat + 2)).toInt64) &&& (255 : Int64)) <<< ((40 : Int32) &&& 0x3f).toInt64)))])
  refine own_step (fun t k => XS.i2l X0.here hx rfl (hb hby d1_44) rfl k) ?_
  show own_Fin _ _ _ _ _ _ _ _ (mkF m 45 #[.val (.ref a1), .val (.int p2)] [(.long ((f1 (p2.toInt.toNat + 3)).toInt64)), (.long ((((((f1 (p2.toInt.toNat)).toInt64) &&& (255 : Int64)) <<< ((56 : Int32) &&& 0x3f).toInt64) ||| ((((f1 (p2.toInt.toNat + 1)).toInt64) &&& (255 : Int64)) <<< ((48 : Int32) &&& 0x3f).toInt64)) ||| ((((f1 (p2.toInt.toNat + 2)).toInt64) &&& (255 : Int64)) <<< ((40 : Int32) &&& 0x3f).toInt64)))])
  refine own_step (fun t k => X0.ldc2Long hx hown (mvT hZ (hw _ (List.mem_of_getElem? (i := 5) rfl))) (g := (mkF m 45 #[.val (.ref a1), .val (.int p2)] [(.long ((f1 (p2.toInt.toNat + 3)).toInt64)), (.long ((((((f1 (p2.toInt.toNat)).toInt64) &&& (255 : Int64)) <<< ((56 : Int32) &&& 0x3f).toInt64) ||| ((((f1 (p2.toInt.toNat + 1)).toInt64) &&& (255 : Int64)) <<< ((48 : Int32) &&& 0x3f).toInt64)) ||| ((((f1 (p2.toInt.toNat + 2)).toInt64) &&& (255 : Int64)) <<< ((40 : Int32) &&& 0x3f).toInt64)))])) rfl (hb hby d1_45) _ k) ?_
  show own_Fin _ _ _ _ _ _ _ _ (mkF m 48 #[.val (.ref a1), .val (.int p2)] [(.long (255 : Int64)), (.long ((f1 (p2.toInt.toNat + 3)).toInt64)), (.long ((((((f1 (p2.toInt.toNat)).toInt64) &&& (255 : Int64)) <<< ((56 : Int32) &&& 0x3f).toInt64) ||| ((((f1 (p2.toInt.toNat + 1)).toInt64) &&& (255 : Int64)) <<< ((48 : Int32) &&& 0x3f).toInt64)) ||| ((((f1 (p2.toInt.toNat + 2)).toInt64) &&& (255 : Int64)) <<< ((40 : Int32) &&& 0x3f).toInt64)))])
  refine own_step (fun t k => XS.land X0.here hx rfl (hb hby d1_48) rfl k) ?_
  show own_Fin _ _ _ _ _ _ _ _ (mkF m 49 #[.val (.ref a1), .val (.int p2)] [(.long (((f1 (p2.toInt.toNat + 3)).toInt64) &&& (255 : Int64))), (.long ((((((f1 (p2.toInt.toNat)).toInt64) &&& (255 : Int64)) <<< ((56 : Int32) &&& 0x3f).toInt64) ||| ((((f1 (p2.toInt.toNat + 1)).toInt64) &&& (255 : Int64)) <<< ((48 : Int32) &&& 0x3f).toInt64)) ||| ((((f1 (p2.toInt.toNat + 2)).toInt64) &&& (255 : Int64)) <<< ((40 : Int32) &&& 0x3f).toInt64)))])
  refine own_step (fun t k => XS.bipush X0.here hx rfl (hb hby d1_49) k) ?_
  show own_Fin _ _ _ _ _ _ _ _ (mkF m 51 #[.val (.ref a1), .val (.int p2)] [(.int (32 : Int32)), (.long (((f1 (p2.toInt.toNat + 3)).toInt64) &&& (255 : Int64))), (.long ((((((f1 (p2.toInt.toNat)).toInt64) &&& (255 : Int64)) <<< ((56 : Int32) &&& 0x3f).toInt64) ||| ((((f1 (p2.toInt.toNat + 1)).toInt64) &&& (255 : Int64)) <<< ((48 : Int32) &&& 0x3f).toInt64)) ||| ((((f1 (p2.toInt.toNat + 2)).toInt64) &&& (255 : Int64)) <<< ((40 : Int32) &&& 0x3f).toInt64)))])
  refine own_step (fun t k => XS.lshl X0.here hx rfl (hb hby d1_51) rfl k) ?_
  show own_Fin _ _ _ _ _ _ _ _ (mkF m 52 #[.val (.ref a1), .val (.int p2)] [(.long ((((f1 (p2.toInt.toNat + 3)).toInt64) &&& (255 : Int64)) <<< ((32 : Int32) &&& 0x3f).toInt64)), (.long ((((((f1 (p2.toInt.toNat)).toInt64) &&& (255 : Int64)) <<< ((56 : Int32) &&& 0x3f).toInt64) ||| ((((f1 (p2.toInt.toNat + 1)).toInt64) &&& (255 : Int64)) <<< ((48 : Int32) &&& 0x3f).toInt64)) ||| ((((f1 (p2.toInt.toNat + 2)).toInt64) &&& (255 : Int64)) <<< ((40 : Int32) &&& 0x3f).toInt64)))])
  refine own_step (fun t k => XS.lor X0.here hx rfl (hb hby d1_52) rfl k) ?_
  show own_Fin _ _ _ _ _ _ _ _ (mkF m 53 #[.val (.ref a1), .val (.int p2)] [(.long (((((((f1 (p2.toInt.toNat)).toInt64) &&& (255 : Int64)) <<< ((56 : Int32) &&& 0x3f).toInt64) ||| ((((f1 (p2.toInt.toNat + 1)).toInt64) &&& (255 : Int64)) <<< ((48 : Int32) &&& 0x3f).toInt64)) ||| ((((f1 (p2.toInt.toNat + 2)).toInt64) &&& (255 : Int64)) <<< ((40 : Int32) &&& 0x3f).toInt64)) ||| ((((f1 (p2.toInt.toNat + 3)).toInt64) &&& (255 : Int64)) <<< ((32 : Int32) &&& 0x3f).toInt64)))])
  refine own_step (fun t k => XS.aloadN X0.here hx rfl (hb hby d1_53) rfl rfl k) ?_
  show own_Fin _ _ _ _ _ _ _ _ (mkF m 54 #[.val (.ref a1), .val (.int p2)] [(.ref a1), (.long (((((((f1 (p2.toInt.toNat)).toInt64) &&& (255 : Int64)) <<< ((56 : Int32) &&& 0x3f).toInt64) ||| ((((f1 (p2.toInt.toNat + 1)).toInt64) &&& (255 : Int64)) <<< ((48 : Int32) &&& 0x3f).toInt64)) ||| ((((f1 (p2.toInt.toNat + 2)).toInt64) &&& (255 : Int64)) <<< ((40 : Int32) &&& 0x3f).toInt64)) ||| ((((f1 (p2.toInt.toNat + 3)).toInt64) &&& (255 : Int64)) <<< ((32 : Int32) &&& 0x3f).toInt64)))])
  refine own_step (fun t k => XS.iloadN X0.here hx rfl (hb hby d1_54) rfl k) ?_
  show own_Fin _ _ _ _ _ _ _ _ (mkF m 55 #[.val (.ref a1), .val (.int p2)] [(.int p2), (.ref a1), (.long (((((((f1 (p2.toInt.toNat)).toInt64) &&& (255 : Int64)) <<< ((56 : Int32) &&& 0x3f).toInt64) ||| ((((f1 (p2.toInt.toNat + 1)).toInt64) &&& (255 : Int64)) <<< ((48 : Int32) &&& 0x3f).toInt64)) ||| ((((f1 (p2.toInt.toNat + 2)).toInt64) &&& (255 : Int64)) <<< ((40 : Int32) &&& 0x3f).toInt64)) ||| ((((f1 (p2.toInt.toNat + 3)).toInt64) &&& (255 : Int64)) <<< ((32 : Int32) &&& 0x3f).toInt64)))])
  refine own_step (fun t k => XS.iconst X0.here hx rfl (hb hby d1_55) k) ?_
  show own_Fin _ _ _ _ _ _ _ _ (mkF m 56 #[.val (.ref a1), .val (.int p2)] [(.int (4 : Int32)), (.int p2), (.ref a1), (.long (((((((f1 (p2.toInt.toNat)).toInt64) &&& (255 : Int64)) <<< ((56 : Int32) &&& 0x3f).toInt64) ||| ((((f1 (p2.toInt.toNat + 1)).toInt64) &&& (255 : Int64)) <<< ((48 : Int32) &&& 0x3f).toInt64)) ||| ((((f1 (p2.toInt.toNat + 2)).toInt64) &&& (255 : Int64)) <<< ((40 : Int32) &&& 0x3f).toInt64)) ||| ((((f1 (p2.toInt.toNat + 3)).toInt64) &&& (255 : Int64)) <<< ((32 : Int32) &&& 0x3f).toInt64)))])
  refine own_step (fun t k => XS.iadd X0.here hx rfl (hb hby d1_56) rfl k) ?_
  show own_Fin _ _ _ _ _ _ _ _ (mkF m 57 #[.val (.ref a1), .val (.int p2)] [(.int (p2 + (4 : Int32))), (.ref a1), (.long (((((((f1 (p2.toInt.toNat)).toInt64) &&& (255 : Int64)) <<< ((56 : Int32) &&& 0x3f).toInt64) ||| ((((f1 (p2.toInt.toNat + 1)).toInt64) &&& (255 : Int64)) <<< ((48 : Int32) &&& 0x3f).toInt64)) ||| ((((f1 (p2.toInt.toNat + 2)).toInt64) &&& (255 : Int64)) <<< ((40 : Int32) &&& 0x3f).toInt64)) ||| ((((f1 (p2.toInt.toNat + 3)).toInt64) &&& (255 : Int64)) <<< ((32 : Int32) &&& 0x3f).toInt64)))])
  refine own_baload X0 hx hZ e0 V_a1 (k := p2.toInt.toNat + 4) (by rw [own_ix p2 4 4 (by decide) (by omega) (by omega) (by omega) (by omega)]; omega) (by omega) (v := (f1 (p2.toInt.toNat + 4))) rfl (hb hby d1_57) rfl ?_
  show own_Fin _ _ _ _ _ _ _ _ (mkF m 58 #[.val (.ref a1), .val (.int p2)] [(.int (f1 (p2.toInt.toNat + 4))), (.long (((((((f1 (p2.toInt.toNat)).toInt64) &&& (255 : Int64)) <<< ((56 : Int32) &&& 0x3f).toInt64) ||| ((((f1 (p2.toInt.toNat + 1)).toInt64) &&& (255 : Int64)) <<< ((48 : Int32) &&& 0x3f).toInt64)) ||| ((((f1 (p2.toInt.toNat + 2)).toInt64) &&& (255 : Int64)) <<< ((40 : Int32) &&& 0x3f).toInt64)) ||| ((((f1 (p2.toInt.toNat + 3)).toInt64) &&& (255 : Int64)) <<< ((32 : Int32) &&& 0x3f).toInt64)))])
  refine own_step (fun t k => XS.i2l X0.here hx rfl (hb hby d1_58) rfl k) ?_
  show own_Fin _ _ _ _ _ _ _ _ (mkF m 59 #[.val (.ref a1), .val (.int p2)] [(.long ((f1 (p2.toInt.toNat + 4)).toInt64)), (.long (((((((f1 (p2.toInt.toNat)).toInt64) &&& (255 : Int64)) <<< ((56 : Int32) &&& 0x3f).toInt64) ||| ((((f1 (p2.toInt.toNat + 1)).toInt64) &&& (255 : Int64)) <<< ((48 : Int32) &&& 0x3f).toInt64)) ||| ((((f1 (p2.toInt.toNat + 2)).toInt64) &&& (255 : Int64)) <<< ((40 : Int32) &&& 0x3f).toInt64)) ||| ((((f1 (p2.toInt.toNat + 3)).toInt64) &&& (255 : Int64)) <<< ((32 : Int32) &&& 0x3f).toInt64)))])
  refine own_step (fun t k => X0.ldc2Long hx hown (mvT hZ (hw _ (List.mem_of_getElem? (i := 5) rfl))) (g := (mkF m 59 #[.val (.ref a1), .val (.int p2)] [(.long ((f1 (p2.toInt.toNat + 4)).toInt64)), (.long (((((((f1 (p2.toInt.toNat)).toInt64) &&& (255 : Int64)) <<< ((56 : Int32) &&& 0x3f).toInt64) ||| ((((f1 (p2.toInt.toNat + 1)).toInt64) &&& (255 : Int64)) <<< ((48 : Int32) &&& 0x3f).toInt64)) ||| ((((f1 (p2.toInt.toNat + 2)).toInt64) &&& (255 : Int64)) <<< ((40 : Int32) &&& 0x3f).toInt64)) ||| ((((f1 (p2.toInt.toNat + 3)).toInt64) &&& (255 : Int64)) <<< ((32 : Int32) &&& 0x3f).toInt64)))])) rfl (hb hby d1_59) _ k) ?_
  show own_Fin _ _ _ _ _ _ _ _ (mkF m 62 #[.val (.ref a1), .val (.int p2)] [(.long (255 : Int64)), (.long ((f1 (p2.toInt.toNat + 4)).toInt64)), (.long (((((((f1 (p2.toInt.toNat)).toInt64) &&& (255 : Int64)) <<< ((56 : Int32) &&& 0x3f).toInt64) ||| ((((f1 (p2.toInt.toNat + 1)).toInt64) &&& (255 : Int64)) <<< ((48 : Int32) &&& 0x3f).toInt64)) ||| ((((f1 (p2.toInt.toNat + 2)).toInt64) &&& (255 : Int64)) <<< ((40 : Int32) &&& 0x3f).toInt64)) ||| ((((f1 (p2.toInt.toNat + 3)).toInt64) &&& (255 : Int64)) <<< ((32 : Int32) &&& 0x3f).toInt64)))])
  refine own_step (fun t k => XS.land X0.here hx rfl (hb hby d1_62) rfl k) ?_
  show own_Fin _ _ _ _ _ _ _ _ (mkF m 63 #[.val (.ref a1), .val (.int p2)] [(.long (((f1 (p2.toInt.toNat + 4)).toInt64) &&& (255 : Int64))), (.long (((((((f1 (p2.toInt.toNat)).toInt64) &&& (255 : Int64)) <<< ((56 : Int32) &&& 0x3f).toInt64) ||| ((((f1 (p2.toInt.toNat + 1)).toInt64) &&& (255 : Int64)) <<< ((48 : Int32) &&& 0x3f).toInt64)) ||| ((((f1 (p2.toInt.toNat + 2)).toInt64) &&& (255 : Int64)) <<< ((40 : Int32) &&& 0x3f).toInt64)) ||| ((((f1 (p2.toInt.toNat + 3)).toInt64) &&& (255 : Int64)) <<< ((32 : Int32) &&& 0x3f).toInt64)))])
  refine own_step (fun t k => XS.bipush X0.here hx rfl (hb hby d1_63) k) ?_
  show own_Fin _ _ _ _ _ _ _ _ (mkF m 65 #[.val (.ref a1), .val (.int p2)] [(.int (24 : Int32)), (.long (((f1 (p2.toInt.toNat + 4)).toInt64) &&& (255 : Int64))), (.long (((((((f1 (p2.toInt.toNat)).toInt64) &&& (255 : Int64)) <<< ((56 : Int32) &&& 0x3f).toInt64) ||| ((((f1 (p2.toInt.toNat + 1)).toInt64) &&& (255 : Int64)) <<< ((48 : Int32) &&& 0x3f).toInt64)) ||| ((((f1 (p2.toInt.toNat + 2)).toInt64) &&& (255 : Int64)) <<< ((40 : Int32) &&& 0x3f).toInt64)) ||| ((((f1 (p2.toInt.toNat + 3)).toInt64) &&& (255 : Int64)) <<< ((32 : Int32) &&& 0x3f).toInt64)))])
  refine own_step (fun t k => XS.lshl X0.here hx rfl (hb hby d1_65) rfl k) ?_
  show own_Fin _ _ _ _ _ _ _ _ (mkF m 66 #[.val (.ref a1), .val (.int p2)] [(.long ((((f1 (p2.toInt.toNat + 4)).toInt64) &&& (255 : Int64)) <<< ((24 : Int32) &&& 0x3f).toInt64)), (.long (((((((f1 (p2.toInt.toNat)).toInt64) &&& (255 : Int64)) <<< ((56 : Int32) &&& 0x3f).toInt64) ||| ((((f1 (p2.toInt.toNat + 1)).toInt64) &&& (255 : Int64)) <<< ((48 : Int32) &&& 0x3f).toInt64)) ||| ((((f1 (p2.toInt.toNat + 2)).toInt64) &&& (255 : Int64)) <<< ((40 : Int32) &&& 0x3f).toInt64)) ||| ((((f1 (p2.toInt.toNat + 3)).toInt64) &&& (255 : Int64)) <<< ((32 : Int32) &&& 0x3f).toInt64)))])
  refine own_step (fun t k => XS.lor X0.here hx rfl (hb hby d1_66) rfl k) ?_
  show own_Fin _ _ _ _ _ _ _ _ (mkF m 67 #[.val (.ref a1), .val (.int p2)] [(.long ((((((((f1 (p2.toInt.toNat)).toInt64) &&& (255 : Int64)) <<< ((56 : Int32) &&& 0x3f).toInt64) ||| ((((f1 (p2.toInt.toNat + 1)).toInt64) &&& (255 : Int64)) <<< ((48 : Int32) &&& 0x3f).toInt64)) ||| ((((f1 (p2.toInt.toNat + 2)).toInt64) &&& (255 : Int64)) <<< ((40 : Int32) &&& 0x3f).toInt64)) ||| ((((f1 (p2.toInt.toNat + 3)).toInt64) &&& (255 : Int64)) <<< ((32 : Int32) &&& 0x3f).toInt64)) ||| ((((f1 (p2.toInt.toNat + 4)).toInt64) &&& (255 : Int64)) <<< ((24 : Int32) &&& 0x3f).toInt64)))])
  refine own_step (fun t k => XS.aloadN X0.here hx rfl (hb hby d1_67) rfl rfl k) ?_
  show own_Fin _ _ _ _ _ _ _ _ (mkF m 68 #[.val (.ref a1), .val (.int p2)] [(.ref a1), (.long ((((((((f1 (p2.toInt.toNat)).toInt64) &&& (255 : Int64)) <<< ((56 : Int32) &&& 0x3f).toInt64) ||| ((((f1 (p2.toInt.toNat + 1)).toInt64) &&& (255 : Int64)) <<< ((48 : Int32) &&& 0x3f).toInt64)) ||| ((((f1 (p2.toInt.toNat + 2)).toInt64) &&& (255 : Int64)) <<< ((40 : Int32) &&& 0x3f).toInt64)) ||| ((((f1 (p2.toInt.toNat + 3)).toInt64) &&& (255 : Int64)) <<< ((32 : Int32) &&& 0x3f).toInt64)) ||| ((((f1 (p2.toInt.toNat + 4)).toInt64) &&& (255 : Int64)) <<< ((24 : Int32) &&& 0x3f).toInt64)))])
  refine own_step (fun t k => XS.iloadN X0.here hx rfl (hb hby d1_68) rfl k) ?_
  show own_Fin _ _ _ _ _ _ _ _ (mkF m 69 #[.val (.ref a1), .val (.int p2)] [(.int p2), (.ref a1), (.long ((((((((f1 (p2.toInt.toNat)).toInt64) &&& (255 : Int64)) <<< ((56 : Int32) &&& 0x3f).toInt64) ||| ((((f1 (p2.toInt.toNat + 1)).toInt64) &&& (255 : Int64)) <<< ((48 : Int32) &&& 0x3f).toInt64)) ||| ((((f1 (p2.toInt.toNat + 2)).toInt64) &&& (255 : Int64)) <<< ((40 : Int32) &&& 0x3f).toInt64)) ||| ((((f1 (p2.toInt.toNat + 3)).toInt64) &&& (255 : Int64)) <<< ((32 : Int32) &&& 0x3f).toInt64)) ||| ((((f1 (p2.toInt.toNat + 4)).toInt64) &&& (255 : Int64)) <<< ((24 : Int32) &&& 0x3f).toInt64)))])
  refine own_step (fun t k => XS.iconst X0.here hx rfl (hb hby d1_69) k) ?_
  show own_Fin _ _ _ _ _ _ _ _ (mkF m 70 #[.val (.ref a1), .val (.int p2)] [(.int (5 : Int32)), (.int p2), (.ref a1), (.long ((((((((f1 (p2.toInt.toNat)).toInt64) &&& (255 : Int64)) <<< ((56 : Int32) &&& 0x3f).toInt64) ||| ((((f1 (p2.toInt.toNat + 1)).toInt64) &&& (255 : Int64)) <<< ((48 : Int32) &&& 0x3f).toInt64)) ||| ((((f1 (p2.toInt.toNat + 2)).toInt64) &&& (255 : Int64)) <<< ((40 : Int32) &&& 0x3f).toInt64)) ||| ((((f1 (p2.toInt.toNat + 3)).toInt64) &&& (255 : Int64)) <<< ((32 : Int32) &&& 0x3f).toInt64)) ||| ((((f1 (p2.toInt.toNat + 4)).toInt64) &&& (255 : Int64)) <<< ((24 : Int32) &&& 0x3f).toInt64)))])
  refine own_step (fun t k => XS.iadd X0.here hx rfl (hb hby d1_70) rfl k) ?_
  show own_Fin _ _ _ _ _ _ _ _ (mkF m 71 #[.val (.ref a1), .val (.int p2)] [(.int (p2 + (5 : Int32))), (.ref a1), (.long ((((((((f1 (p2.toInt.toNat)).toInt64) &&& (255 : Int64)) <<< ((56 : Int32) &&& 0x3f).toInt64) ||| ((((f1 (p2.toInt.toNat + 1)).toInt64) &&& (255 : Int64)) <<< ((48 : Int32) &&& 0x3f).toInt64)) ||| ((((f1 (p2.toInt.toNat + 2)).toInt64) &&& (255 : Int64)) <<< ((40 : Int32) &&& 0x3f).toInt64)) ||| ((((f1 (p2.toInt.toNat + 3)).toInt64) &&& (255 : Int64)) <<< ((32 : Int32) &&& 0x3f).toInt64)) ||| ((((f1 (p2.toInt.toNat + 4)).toInt64) &&& (255 : Int64)) <<< ((24 : Int32) &&& 0x3f).toInt64)))])
  refine own_baload X0 hx hZ e0 V_a1 (k := p2.toInt.toNat + 5) (by rw [own_ix p2 5 5 (by decide) (by omega) (by omega) (by omega) (by omega)]; omega) (by omega) (v := (f1 (p2.toInt.toNat + 5))) rfl (hb hby d1_71) rfl ?_
  show own_Fin _ _ _ _ _ _ _ _ (mkF m 72 #[.val (.ref a1), .val (.int p2)] [(.int (f1 (p2.toInt.toNat + 5))), (.long ((((((((f1 (p2.toInt.toNat)).toInt64) &&& (255 : Int64)) <<< ((56 : Int32) &&& 0x3f).toInt64) ||| ((((f1 (p2.toInt.toNat + 1)).toInt64) &&& (255 : Int64)) <<< ((48 : Int32) &&& 0x3f).toInt64)) ||| ((((f1 (p2.toInt.toNat + 2)).toInt64) &&& (255 : Int64)) <<< ((40 : Int32) &&& 0x3f).toInt64)) ||| ((((f1 (p2.toInt.toNat + 3)).toInt64) &&& (255 : Int64)) <<< ((32 : Int32) &&& 0x3f).toInt64)) ||| ((((f1 (p2.toInt.toNat + 4)).toInt64) &&& (255 : Int64)) <<< ((24 : Int32) &&& 0x3f).toInt64)))])
  refine own_step (fun t k => XS.i2l X0.here hx rfl (hb hby d1_72) rfl k) ?_
  show own_Fin _ _ _ _ _ _ _ _ (mkF m 73 #[.val (.ref a1), .val (.int p2)] [(.long ((f1 (p2.toInt.toNat + 5)).toInt64)), (.long ((((((((f1 (p2.toInt.toNat)).toInt64) &&& (255 : Int64)) <<< ((56 : Int32) &&& 0x3f).toInt64) ||| ((((f1 (p2.toInt.toNat + 1)).toInt64) &&& (255 : Int64)) <<< ((48 : Int32) &&& 0x3f).toInt64)) ||| ((((f1 (p2.toInt.toNat + 2)).toInt64) &&& (255 : Int64)) <<< ((40 : Int32) &&& 0x3f).toInt64)) ||| ((((f1 (p2.toInt.toNat + 3)).toInt64) &&& (255 : Int64)) <<< ((32 : Int32) &&& 0x3f).toInt64)) ||| ((((f1 (p2.toInt.toNat + 4)).toInt64) &&& (255 : Int64)) <<< ((24 : Int32) &&& 0x3f).toInt64)))])
  refine own_step (fun t k => X0.ldc2Long hx hown (mvT hZ (hw _ (List.mem_of_getElem? (i := 5) rfl))) (g := (mkF m 73 #[.val (.ref a1), .val (.int p2)] [(.long ((f1 (p2.toInt.toNat + 5)).toInt64)), (.long ((((((((f1 (p2.toInt.toNat)).toInt64) &&& (255 : Int64)) <<< ((56 : Int32) &&& 0x3f).toInt64) ||| ((((f1 (p2.toInt.toNat + 1)).toInt64) &&& (255 : Int64)) <<< ((48 : Int32) &&& 0x3f).toInt64)) ||| ((((f1 (p2.toInt.toNat + 2)).toInt64) &&& (255 : Int64)) <<< ((40 : Int32) &&& 0x3f).toInt64)) ||| ((((f1 (p2.toInt.toNat + 3)).toInt64) &&& (255 : Int64)) <<< ((32 : Int32) &&& 0x3f).toInt64)) ||| ((((f1 (p2.toInt.toNat + 4)).toInt64) &&& (255 : Int64)) <<< ((24 : Int32) &&& 0x3f).toInt64)))])) rfl (hb hby d1_73) _ k) ?_
  show own_Fin _ _ _ _ _ _ _ _ (mkF m 76 #[.val (.ref a1), .val (.int p2)] [(.long (255 : Int64)), (.long ((f1 (p2.toInt.toNat + 5)).toInt64)), (.long ((((((((f1 (p2.toInt.toNat)).toInt64) &&& (255 : Int64)) <<< ((56 : Int32) &&& 0x3f).toInt64) ||| ((((f1 (p2.toInt.toNat + 1)).toInt64) &&& (255 : Int64)) <<< ((48 : Int32) &&& 0x3f).toInt64)) ||| ((((f1 (p2.toInt.toNat + 2)).toInt64) &&& (255 : Int64)) <<< ((40 : Int32) &&& 0x3f).toInt64)) ||| ((((f1 (p2.toInt.toNat + 3)).toInt64) &&& (255 : Int64)) <<< ((32 : Int32) &&& 0x3f).toInt64)) ||| ((((f1 (p2.toInt.toNat + 4)).toInt64) &&& (255 : Int64)) <<< ((24 : Int32) &&& 0x3f).toInt64)))])
  refine own_step (fun t k => XS.land X0.here hx rfl (hb hby d1_76) rfl k) ?_
  show own_Fin _ _ _ _ _ _ _ _ (mkF m 77 #[.val (.ref a1), .val (.int p2)] [(.long (((f1 (p2.toInt.toNat + 5)).toInt64) &&& (255 : Int64))), (.long ((((((((f1 (p2.toInt.toNat)).toInt64) &&& (255 : Int64)) <<< ((56 : Int32) &&& 0x3f).toInt64) ||| ((((f1 (p2.toInt.toNat + 1)).toInt64) &&& (255 : Int64)) <<< ((48 : Int32) &&& 0x3f).toInt64)) ||| ((((f1 (p2.toInt.toNat + 2)).toInt64) &&& (255 : Int64)) <<< ((40 : Int32) &&& 0x3f).toInt64)) ||| ((((f1 (p2.toInt.toNat + 3)).toInt64) &&& (255 : Int64)) <<< ((32 : Int32) &&& 0x3f).toInt64)) ||| ((((f1 (p2.toInt.toNat + 4)).toInt64) &&& (255 : Int64)) <<< ((24 : Int32) &&& 0x3f).toInt64)))])
  refine own_step (fun t k => XS.bipush X0.here hx rfl (hb hby d1_77) k) ?_
  show own_Fin _ _ _ _ _ _ _ _ (mkF m 79 #[.val (.ref a1), .val (.int p2)] [(.int (16 : Int32)), (.long (((f1 (p2.toInt.toNat + 5)).toInt64) &&& (255 : Int64))), (.long ((((((((f1 (p2.toInt.toNat)).toInt64) &&& (255 : Int64)) <<< ((56 : Int32) &&& 0x3f).toInt64) ||| ((((f1 (p2.toInt.toNat + 1)).toInt64) &&& (255 : Int64)) <<< ((48 : Int32) &&& 0x3f).toInt64)) ||| ((((f1 (p2.toInt.toNat + 2)).toInt64) &&& (255 : Int64)) <<< ((40 : Int32) &&& 0x3f).toInt64)) ||| ((((f1 (p2.toInt.toNat + 3)).toInt64) &&& (255 : Int64)) <<< ((32 : Int32) &&& 0x3f).toInt64)) ||| ((((f1 (p2.toInt.toNat + 4)).toInt64) &&& (255 : Int64)) <<< ((24 : Int32) &&& 0x3f).toInt64)))])
  refine own_step (fun t k => XS.lshl X0.here hx rfl (hb hby d1_79) rfl k) ?_
  show own_Fin _ _ _ _ _ _ _ _ (mkF m 80 #[.val (.ref a1), .val (.int p2)] [(.long ((((f1 (p2.toInt.toNat + 5)).toInt64) &&& (255 : Int64)) <<< ((16 : Int32) &&& 0x3f).toInt64)), (.long ((((((((f1 (p2.toInt.toNat)).toInt64) &&& (255 : Int64)) <<< ((56 : Int32) &&& 0x3f).toInt64) ||| ((((f1 (p2.toInt.toNat + 1)).toInt64) &&& (255 : Int64)) <<< ((48 : Int32) &&& 0x3f).toInt64)) ||| ((((f1 (p2.toInt.toNat + 2)).toInt64) &&& (255 : Int64)) <<< ((40 : Int32) &&& 0x3f).toInt64)) ||| ((((f1 (p2.toInt.toNat + 3)).toInt64) &&& (255 : Int64)) <<< ((32 : Int32) &&& 0x3f).toInt64)) ||| ((((f1 (p2.toInt.toNat + 4)).toInt64) &&& (255 : Int64)) <<< ((24 : Int32) &&& 0x3f).toInt64)))])
  refine own_step (fun t k => XS.lor X0.here hx rfl (hb hby d1_80) rfl k) ?_
  show own_Fin _ _ _ _ _ _ _ _ (mkF m 81 #[.val (.ref a1), .val (.int p2)] [(.long (((((((((f1 (p2.toInt.toNat)).toInt64) &&& (255 : Int64)) <<< ((56 : Int32) &&& 0x3f).toInt64) ||| ((((f1 (p2.toInt.toNat + 1)).toInt64) &&& (255 : Int64)) <<< ((48 : Int32) &&& 0x3f).toInt64)) ||| ((((f1 (p2.toInt.toNat + 2)).toInt64) &&& (255 : Int64)) <<< ((40 : Int32) &&& 0x3f).toInt64)) ||| ((((f1 (p2.toInt.toNat + 3)).toInt64) &&& (255 : Int64)) <<< ((32 : Int32) &&& 0x3f).toInt64)) ||| ((((f1 (p2.toInt.toNat + 4)).toInt64) &&& (255 : Int64)) <<< ((24 : Int32) &&& 0x3f).toInt64)) ||| ((((f1 (p2.toInt.toNat + 5)).toInt64) &&& (255 : Int64)) <<< ((16 : Int32) &&& 0x3f).toInt64)))])
  refine own_step (fun t k => XS.aloadN X0.here hx rfl (hb hby d1_81) rfl rfl k) ?_
  show own_Fin _ _ _ _ _ _ _ _ (mkF m 82 #[.val (.ref a1), .val (.int p2)] [(.ref a1), (.long (((((((((f1 (p2.toInt.toNat)).toInt64) &&& (255 : Int64)) <<< ((56 : Int32) &&& 0x3f).toInt64) ||| ((((f1 (p2.toInt.toNat + 1)).toInt64) &&& (255 : Int64)) <<< ((48 : Int32) &&& 0x3f).toInt64)) ||| ((((f1 (p2.toInt.toNat + 2)).toInt64) &&& (255 : Int64)) <<< ((40 : Int32) &&& 0x3f).toInt64)) ||| ((((f1 (p2.toInt.toNat + 3)).toInt64) &&& (255 : Int64)) <<< ((32 : Int32) &&& 0x3f).toInt64)) ||| ((((f1 (p2.toInt.toNat + 4)).toInt64) &&& (255 : Int64)) <<< ((24 : Int32) &&& 0x3f).toInt64)) ||| ((((f1 (p2.toInt.toNat + 5)).toInt64) &&& (255 : Int64)) <<< ((16 : Int32) &&& 0x3f).toInt64)))])
  refine own_step (fun t k => XS.iloadN X0.here hx rfl (hb hby d1_82) rfl k) ?_
  show own_Fin _ _ _ _ _ _ _ _ (mkF m 83 #[.val (.ref a1), .val (.int p2)] [(.int p2), (.ref a1), (.long (((((((((f1 (p2.toInt.toNat)).toInt64) &&& (255 : Int64)) <<< ((56 : Int32) &&& 0x3f).toInt64) ||| ((((f1 (p2.toInt.toNat + 1)).toInt64) &&& (255 : Int64)) <<< ((48 : Int32) &&& 0x3f).toInt64)) ||| ((((f1 (p2.toInt.toNat + 2)).toInt64) &&& (255 : Int64)) <<< ((40 : Int32) &&& 0x3f).toInt64)) ||| ((((f1 (p2.toInt.toNat + 3)).toInt64) &&& (255 : Int64)) <<< ((32 : Int32) &&& 0x3f).toInt64)) ||| ((((f1 (p2.toInt.toNat + 4)).toInt64) &&& (255 : Int64)) <<< ((24 : Int32) &&& 0x3f).toInt64)) ||| ((((f1 (p2.toInt.toNat + 5)).toInt64) &&& (255 : Int64)) <<< ((16 : Int32) &&& 0x3f).toInt64)))])
  refine own_step (fun t k => XS.bipush X0.here hx rfl (hb hby d1_83) k) ?_
  show own_Fin _ _ _ _ _ _ _ _ (mkF m 85 #[.val (.ref a1), .val (.int p2)] [(.int (6 : Int32)), (.int p2), (.ref a1), (.long (((((((((f1 (p2.toInt.toNat)).toInt64) &&& (255 : Int64)) <<< ((56 : Int32) &&& 0x3f).toInt64) ||| ((((f1 (p2.toInt.toNat + 1)).toInt64) &&& (255 : Int64)) <<< ((48 : Int32) &&& 0x3f).toInt64)) ||| ((((f1 (p2.toInt.toNat + 2)).toInt64) &&& (255 : Int64)) <<< ((40 : Int32) &&& 0x3f).toInt64)) ||| ((((f1 (p2.toInt.toNat + 3)).toInt64) &&& (255 : Int64)) <<< ((32 : Int32) &&& 0x3f).toInt64)) ||| ((((f1 (p2.toInt.toNat + 4)).toInt64) &&& (255 : Int64)) <<< ((24 : Int32) &&& 0x3f).toInt64)) ||| ((((f1 (p2.toInt.toNat + 5)).toInt64) &&& (255 : Int64)) <<< ((16 : Int32) &&& 0x3f).toInt64)))])
  refine own_step (fun t k => XS.iadd X0.here hx rfl (hb hby d1_85) rfl k) ?_
  show own_Fin _ _ _ _ _ _ _ _ (mkF m 86 #[.val (.ref a1), .val (.int p2)] [(.int (p2 + (6 : Int32))), (.ref a1), (.long (((((((((f1 (p2.toInt.toNat)).toInt64) &&& (255 : Int64)) <<< ((56 : Int32) &&& 0x3f).toInt64) ||| ((((f1 (p2.toInt.toNat + 1)).toInt64) &&& (255 : Int64)) <<< ((48 : Int32) &&& 0x3f).toInt64)) ||| ((((f1 (p2.toInt.toNat + 2)).toInt64) &&& (255 : Int64)) <<< ((40 : Int32) &&& 0x3f).toInt64)) ||| ((((f1 (p2.toInt.toNat + 3)).toInt64) &&& (255 : Int64)) <<< ((32 : Int32) &&& 0x3f).toInt64)) ||| ((((f1 (p2.toInt.toNat + 4)).toInt64) &&& (255 : Int64)) <<< ((24 : Int32) &&& 0x3f).toInt64)) ||| ((((f1 (p2.toInt.toNat + 5)).toInt64) &&& (255 : Int64)) <<< ((16 : Int32) &&& 0x3f).toInt64)))])
  refine own_baload X0 hx hZ e0 V_a1 (k := p2.toInt.toNat + 6) (by rw [own_ix p2 6 6 (by decide) (by omega) (by omega) (by omega) (by omega)]; omega) (by omega) (v := (f1 (p2.toInt.toNat + 6))) rfl (hb hby d1_86) rfl ?_
  show own_Fin _ _ _ _ _ _ _ _ (mkF m 87 #[.val (.ref a1), .val (.int p2)] [(.int (f1 (p2.toInt.toNat + 6))), (.long (((((((((f1 (p2.toInt.toNat)).toInt64) &&& (255 : Int64)) <<< ((56 : Int32) &&& 0x3f).toInt64) ||| ((((f1 (p2.toInt.toNat + 1)).toInt64) &&& (255 : Int64)) <<< ((48 : Int32) &&& 0x3f).toInt64)) ||| ((((f1 (p2.toInt.toNat + 2)).toInt64) &&& (255 : Int64)) <<< ((40 : Int32) &&& 0x3f).toInt64)) ||| ((((f1 (p2.toInt.toNat + 3)).toInt64) &&& (255 : Int64)) <<< ((32 : Int32) &&& 0x3f).toInt64)) ||| ((((f1 (p2.toInt.toNat + 4)).toInt64) &&& (255 : Int64)) <<< ((24 : Int32) &&& 0x3f).toInt64)) ||| ((((f1 (p2.toInt.toNat + 5)).toInt64) &&& (255 : Int64)) <<< ((16 : Int32) &&& 0x3f).toInt64)))])
  refine own_step (fun t k => XS.i2l X0.here hx rfl (hb hby d1_87) rfl k) ?_
  show own_Fin _ _ _ _ _ _ _ _ (mkF m 88 #[.val (.ref a1), .val (.int p2)] [(.long ((f1 (p2.toInt.toNat + 6)).toInt64)), (.long (((((((((f1 (p2.toInt.toNat)).toInt64) &&& (255 : Int64)) <<< ((56 : Int32) &&& 0x3f).toInt64) ||| ((((f1 (p2.toInt.toNat + 1)).toInt64) &&& (255 : Int64)) <<< ((48 : Int32) &&& 0x3f).toInt64)) ||| ((((f1 (p2.toInt.toNat + 2)).toInt64) &&& (255 : Int64)) <<< ((40 : Int32) &&& 0x3f).toInt64)) ||| ((((f1 (p2.toInt.toNat + 3)).toInt64) &&& (255 : Int64)) <<< ((32 : Int32) &&& 0x3f).toInt64)) ||| ((((f1 (p2.toInt.toNat + 4)).toInt64) &&& (255 : Int64)) <<< ((24 : Int32) &&& 0x3f).toInt64)) ||| ((((f1 (p2.toInt.toNat + 5)).toInt64) &&& (255 : Int64)) <<< ((16 : Int32) &&& 0x3f).toInt64)))])
  refine own_step (fun t k => X0.ldc2Long hx hown (mvT hZ (hw _ (List.mem_of_getElem? (i := 5) rfl))) (g := (mkF m 88 #[.val (.ref a1), .val (.int p2)] [(.long ((f1 (p2.toInt.toNat + 6)).toInt64)), (.long (((((((((f1 (p2.toInt.toNat)).toInt64) &&& (255 : Int64)) <<< ((56 : Int32) &&& 0x3f).toInt64) ||| ((((f1 (p2.toInt.toNat + 1)).toInt64) &&& (255 : Int64)) <<< ((48 : Int32) &&& 0x3f).toInt64)) ||| ((((f1 (p2.toInt.toNat + 2)).toInt64) &&& (255 : Int64)) <<< ((40 : Int32) &&& 0x3f).toInt64)) ||| ((((f1 (p2.toInt.toNat + 3)).toInt64) &&& (255 : Int64)) <<< ((32 : Int32) &&& 0x3f).toInt64)) ||| ((((f1 (p2.toInt.toNat + 4)).toInt64) &&& (255 : Int64)) <<< ((24 : Int32) &&& 0x3f).toInt64)) ||| ((((f1 (p2.toInt.toNat + 5)).toInt64) &&& (255 : Int64)) <<< ((16 : Int32) &&& 0x3f).toInt64)))])) rfl (hb hby d1_88) _ k) ?_
  show own_Fin _ _ _ _ _ _ _ _ (mkF m 91 #[.val (.ref a1), .val (.int p2)] [(.long (255 : Int64)), (.long ((f1 (p2.toInt.toNat + 6)).toInt64)), (.long (((((((((f1 (p2.toInt.toNat)).toInt64) &&& (255 : Int64)) <<< ((56 : Int32) &&& 0x3f).toInt64) ||| ((((f1 (p2.toInt.toNat + 1)).toInt64) &&& (255 : Int64)) <<< ((48 : Int32) &&& 0x3f).toInt64)) ||| ((((f1 (p2.toInt.toNat + 2)).toInt64) &&& (255 : Int64)) <<< ((40 : Int32) &&& 0x3f).toInt64)) ||| ((((f1 (p2.toInt.toNat + 3)).toInt64) &&& (255 : Int64)) <<< ((32 : Int32) &&& 0x3f).toInt64)) ||| ((((f1 (p2.toInt.toNat + 4)).toInt64) &&& (255 : Int64)) <<< ((24 : Int32) &&& 0x3f).toInt64)) ||| ((((f1 (p2.toInt.toNat + 5)).toInt64) &&& (255 : Int64)) <<< ((16 : Int32) &&& 0x3f).toInt64)))])
  refine own_step (fun t k => XS.land X0.here hx rfl (hb hby d1_91) rfl k) ?_
  show own_Fin _ _ _ _ _ _ _ _ (mkF m 92 #[.val (.ref a1), .val (.int p2)] [(.long (((f1 (p2.toInt.toNat + 6)).toInt64) &&& (255 : Int64))), (.long (((((((((f1 (p2.toInt.toNat)).toInt64) &&& (255 : Int64)) <<< ((56 : Int32) &&& 0x3f).toInt64) ||| ((((f1 (p2.toInt.toNat + 1)).toInt64) &&& (255 : Int64)) <<< ((48 : Int32) &&& 0x3f).toInt64)) ||| ((((f1 (p2.toInt.toNat + 2)).toInt64) &&& (255 : Int64)) <<< ((40 : Int32) &&& 0x3f).toInt64)) ||| ((((f1 (p2.toInt.toNat + 3)).toInt64) &&& (255 : Int64)) <<< ((32 : Int32) &&& 0x3f).toInt64)) ||| ((((f1 (p2.toInt.toNat + 4)).toInt64) &&& (255 : Int64)) <<< ((24 : Int32) &&& 0x3f).toInt64)) ||| ((((f1 (p2.toInt.toNat + 5)).toInt64) &&& (255 : Int64)) <<< ((16 : Int32) &&& 0x3f).toInt64)))])
  refine own_step (fun t k => XS.bipush X0.here hx rfl (hb hby d1_92) k) ?_
  show own_Fin _ _ _ _ _ _ _ _ (mkF m 94 #[.val (.ref a1), .val (.int p2)] [(.int (8 : Int32)), (.long (((f1 (p2.toInt.toNat + 6)).toInt64) &&& (255 : Int64))), (.long (((((((((f1 (p2.toInt.toNat)).toInt64) &&& (255 : Int64)) <<< ((56 : Int32) &&& 0x3f).toInt64) ||| ((((f1 (p2.toInt.toNat + 1)).toInt64) &&& (255 : Int64)) <<< ((48 : Int32) &&& 0x3f).toInt64)) ||| ((((f1 (p2.toInt.toNat + 2)).toInt64) &&& (255 : Int64)) <<< ((40 : Int32) &&& 0x3f).toInt64)) ||| ((((f1 (p2.toInt.toNat + 3)).toInt64) &&& (255 : Int64)) <<< ((32 : Int32) &&& 0x3f).toInt64)) ||| ((((f1 (p2.toInt.toNat + 4)).toInt64) &&& (255 : Int64)) <<< ((24 : Int32) &&& 0x3f).toInt64)) ||| ((((f1 (p2.toInt.toNat + 5)).toInt64) &&& (255 : Int64)) <<< ((16 : Int32) &&& 0x3f).toInt64)))])
  refine own_step (fun t k => XS.lshl X0.here hx rfl (hb hby d1_94) rfl k) ?_
  show own_Fin _ _ _ _ _ _ _ _ (mkF m 95 #[.val (.ref a1), .val (.int p2)] [(.long ((((f1 (p2.toInt.toNat + 6)).toInt64) &&& (255 : Int64)) <<< ((8 : Int32) &&& 0x3f).toInt64)), (.long (((((((((f1 (p2.toInt.toNat)).toInt64) &&& (255 : Int64)) <<< ((56 : Int32) &&& 0x3f).toInt64) ||| ((((f1 (p2.toInt.toNat + 1)).toInt64) &&& (255 : Int64)) <<< ((48 : Int32) &&& 0x3f).toInt64)) ||| ((((f1 (p2.toInt.toNat + 2)).toInt64) &&& (255 : Int64)) <<< ((40 : Int32) &&& 0x3f).toInt64)) ||| ((((f1 (p2.toInt.toNat + 3)).toInt64) &&& (255 : Int64)) <<< ((32 : Int32) &&& 0x3f).toInt64)) ||| ((((f1 (p2.toInt.toNat + 4)).toInt64) &&& (255 : Int64)) <<< ((24 : Int32) &&& 0x3f).toInt64)) ||| ((((f1 (p2.toInt.toNat + 5)).toInt64) &&& (255 : Int64)) <<< ((16 : Int32) &&& 0x3f).toInt64)))])
  refine own_step (fun t k => XS.lor X0.here hx rfl (hb hby d1_95) rfl k) ?_
  show own_Fin _ _ _ _ _ _ _ _ (mkF m 96 #[.val (.ref a1), .val (.int p2)] [(.long ((((((((((f1 (p2.toInt.toNat)).toInt64) &&& (255 : Int64)) <<< ((56 : Int32) &&& 0x3f).toInt64) ||| ((((f1 (p2.toInt.toNat + 1)).toInt64) &&& (255 : Int64)) <<< ((48 : Int32) &&& 0x3f).toInt64)) ||| ((((f1 (p2.toInt.toNat + 2)).toInt64) &&& (255 : Int64)) <<< ((40 : Int32) &&& 0x3f).toInt64)) ||| ((((f1 (p2.toInt.toNat + 3)).toInt64) &&& (255 : Int64)) <<< ((32 : Int32) &&& 0x3f).toInt64)) ||| ((((f1 (p2.toInt.toNat + 4)).toInt64) &&& (255 : Int64)) <<< ((24 : Int32) &&& 0x3f).toInt64)) ||| ((((f1 (p2.toInt.toNat + 5)).toInt64) &&& (255 : Int64)) <<< ((16 : Int32) &&& 0x3f).toInt64)) ||| ((((f1 (p2.toInt.toNat + 6)).toInt64) &&& (255 : Int64)) <<< ((8 : Int32) &&& 0x3f).toInt64)))])
  refine own_step (fun t k => XS.aloadN X0.here hx rfl (hb hby d1_96) rfl rfl k) ?_
  show own_Fin _ _ _ _ _ _ _ _ (mkF m 97 #[.val (.ref a1), .val (.int p2)] [(.ref a1), (.long ((((((((((f1 (p2.toInt.toNat)).toInt64) &&& (255 : Int64)) <<< ((56 : Int32) &&& 0x3f).toInt64) ||| ((((f1 (p2.toInt.toNat + 1)).toInt64) &&& (255 : Int64)) <<< ((48 : Int32) &&& 0x3f).toInt64)) ||| ((((f1 (p2.toInt.toNat + 2)).toInt64) &&& (255 : Int64)) <<< ((40 : Int32) &&& 0x3f).toInt64)) ||| ((((f1 (p2.toInt.toNat + 3)).toInt64) &&& (255 : Int64)) <<< ((32 : Int32) &&& 0x3f).toInt64)) ||| ((((f1 (p2.toInt.toNat + 4)).toInt64) &&& (255 : Int64)) <<< ((24 : Int32) &&& 0x3f).toInt64)) ||| ((((f1 (p2.toInt.toNat + 5)).toInt64) &&& (255 : Int64)) <<< ((16 : Int32) &&& 0x3f).toInt64)) ||| ((((f1 (p2.toInt.toNat + 6)).toInt64) &&& (255 : Int64)) <<< ((8 : Int32) &&& 0x3f).toInt64)))])
  refine own_step (fun t k => XS.iloadN X0.here hx rfl (hb hby d1_97) rfl k) ?_
  show own_Fin _ _ _ _ _ _ _ _ (mkF m 98 #[.val (.ref a1), .val (.int p2)] [(.int p2), (.ref a1), (.long ((((((((((f1 (p2.toInt.toNat)).toInt64) &&& (255 : Int64)) <<< ((56 : Int32) &&& 0x3f).toInt64) ||| ((((f1 (p2.toInt.toNat + 1)).toInt64) &&& (255 : Int64)) <<< ((48 : Int32) &&& 0x3f).toInt64)) ||| ((((f1 (p2.toInt.toNat + 2)).toInt64) &&& (255 : Int64)) <<< ((40 : Int32) &&& 0x3f).toInt64)) ||| ((((f1 (p2.toInt.toNat + 3)).toInt64) &&& (255 : Int64)) <<< ((32 : Int32) &&& 0x3f).toInt64)) ||| ((((f1 (p2.toInt.toNat + 4)).toInt64) &&& (255 : Int64)) <<< ((24 : Int32) &&& 0x3f).toInt64)) ||| ((((f1 (p2.toInt.toNat + 5)).toInt64) &&& (255 : Int64)) <<< ((16 : Int32) &&& 0x3f).toInt64)) ||| ((((f1 (p2.toInt.toNat + 6)).toInt64) &&& (255 : Int64)) <<< ((8 : Int32) &&& 0x3f).toInt64)))])
  refine own_step (fun t k => XS.bipush X0.here hx rfl (hb hby d1_98) k) ?_
  show own_Fin _ _ _ _ _ _ _ _ (mkF m 100 #[.val (.ref a1), .val (.int p2)] [(.int (7 : Int32)), (.int p2), (.ref a1), (.long ((((((((((f1 (p2.toInt.toNat)).toInt64) &&& (255 : Int64)) <<< ((56 : Int32) &&& 0x3f).toInt64) ||| ((((f1 (p2.toInt.toNat + 1)).toInt64) &&& (255 : Int64)) <<< ((48 : Int32) &&& 0x3f).toInt64)) ||| ((((f1 (p2.toInt.toNat + 2)).toInt64) &&& (255 : Int64)) <<< ((40 : Int32) &&& 0x3f).toInt64)) ||| ((((f1 (p2.toInt.toNat + 3)).toInt64) &&& (255 : Int64)) <<< ((32 : Int32) &&& 0x3f).toInt64)) ||| ((((f1 (p2.toInt.toNat + 4)).toInt64) &&& (255 : Int64)) <<< ((24 : Int32) &&& 0x3f).toInt64)) ||| ((((f1 (p2.toInt.toNat + 5)).toInt64) &&& (255 : Int64)) <<< ((16 : Int32) &&& 0x3f).toInt64)) ||| ((((f1 (p2.toInt.toNat + 6)).toInt64) &&& (255 : Int64)) <<< ((8 : Int32) &&& 0x3f).toInt64)))])
  refine own_step (fun t k => XS.iadd X0.here hx rfl (hb hby d1_100) rfl k) ?_
  show own_Fin _ _ _ _ _ _ _ _ (mkF m 101 #[.val (.ref a1), .val (.int p2)] [(.int (p2 + (7 : Int32))), (.ref a1), (.long ((((((((((f1 (p2.toInt.toNat)).toInt64) &&& (255 : Int64)) <<< ((56 : Int32) &&& 0x3f).toInt64) ||| ((((f1 (p2.toInt.toNat + 1)).toInt64) &&& (255 : Int64)) <<< ((48 : Int32) &&& 0x3f).toInt64)) ||| ((((f1 (p2.toInt.toNat + 2)).toInt64) &&& (255 : Int64)) <<< ((40 : Int32) &&& 0x3f).toInt64)) ||| ((((f1 (p2.toInt.toNat + 3)).toInt64) &&& (255 : Int64)) <<< ((32 : Int32) &&& 0x3f).toInt64)) ||| ((((f1 (p2.toInt.toNat + 4)).toInt64) &&& (255 : Int64)) <<< ((24 : Int32) &&& 0x3f).toInt64)) ||| ((((f1 (p2.toInt.toNat + 5)).toInt64) &&& (255 : Int64)) <<< ((16 : Int32) &&& 0x3f).toInt64)) ||| ((((f1 (p2.toInt.toNat + 6)).toInt64) &&& (255 : Int64)) <<< ((8 : Int32) &&& 0x3f).toInt64)))])
  refine own_baload X0 hx hZ e0 V_a1 (k := p2.toInt.toNat + 7) (by rw [own_ix p2 7 7 (by decide) (by omega) (by omega) (by omega) (by omega)]; omega) (by omega) (v := (f1 (p2.toInt.toNat + 7))) rfl (hb hby d1_101) rfl ?_
  show own_Fin _ _ _ _ _ _ _ _ (mkF m 102 #[.val (.ref a1), .val (.int p2)] [(.int (f1 (p2.toInt.toNat + 7))), (.long ((((((((((f1 (p2.toInt.toNat)).toInt64) &&& (255 : Int64)) <<< ((56 : Int32) &&& 0x3f).toInt64) ||| ((((f1 (p2.toInt.toNat + 1)).toInt64) &&& (255 : Int64)) <<< ((48 : Int32) &&& 0x3f).toInt64)) ||| ((((f1 (p2.toInt.toNat + 2)).toInt64) &&& (255 : Int64)) <<< ((40 : Int32) &&& 0x3f).toInt64)) ||| ((((f1 (p2.toInt.toNat + 3)).toInt64) &&& (255 : Int64)) <<< ((32 : Int32) &&& 0x3f).toInt64)) ||| ((((f1 (p2.toInt.toNat + 4)).toInt64) &&& (255 : Int64)) <<< ((24 : Int32) &&& 0x3f).toInt64)) ||| ((((f1 (p2.toInt.toNat + 5)).toInt64) &&& (255 : Int64)) <<< ((16 : Int32) &&& 0x3f).toInt64)) ||| ((((f1 (p2.toInt.toNat + 6)).toInt64) &&& (255 : Int64)) <<< ((8 : Int32) &&& 0x3f).toInt64)))])
  refine own_step (fun t k => XS.i2l X0.here hx rfl (hb hby d1_102) rfl k) ?_
  show own_Fin _ _ _ _ _ _ _ _ (mkF m 103 #[.val (.ref a1), .val (.int p2)] [(.long ((f1 (p2.toInt.toNat + 7)).toInt64)), (.long ((((((((((f1 (p2.toInt.toNat)).toInt64) &&& (255 : Int64)) <<< ((56 : Int32) &&& 0x3f).toInt64) ||| ((((f1 (p2.toInt.toNat + 1)).toInt64) &&& (255 : Int64)) <<< ((48 : Int32) &&& 0x3f).toInt64)) ||| ((((f1 (p2.toInt.toNat + 2)).toInt64) &&& (255 : Int64)) <<< ((40 : Int32) &&& 0x3f).toInt64)) ||| ((((f1 (p2.toInt.toNat + 3)).toInt64) &&& (255 : Int64)) <<< ((32 : Int32) &&& 0x3f).toInt64)) ||| ((((f1 (p2.toInt.toNat + 4)).toInt64) &&& (255 : Int64)) <<< ((24 : Int32) &&& 0x3f).toInt64)) ||| ((((f1 (p2.toInt.toNat + 5)).toInt64) &&& (255 : Int64)) <<< ((16 : Int32) &&& 0x3f).toInt64)) ||| ((((f1 (p2.toInt.toNat + 6)).toInt64) &&& (255 : Int64)) <<< ((8 : Int32) &&& 0x3f).toInt64)))])
  refine own_step (fun t k => X0.ldc2Long hx hown (mvT hZ (hw _ (List.mem_of_getElem? (i := 5) rfl))) (g := (mkF m 103 #[.val (.ref a1), .val (.int p2)] [(.long ((f1 (p2.toInt.toNat + 7)).toInt64)), (.long ((((((((((f1 (p2.toInt.toNat)).toInt64) &&& (255 : Int64)) <<< ((56 : Int32) &&& 0x3f).toInt64) ||| ((((f1 (p2.toInt.toNat + 1)).toInt64) &&& (255 : Int64)) <<< ((48 : Int32) &&& 0x3f).toInt64)) ||| ((((f1 (p2.toInt.toNat + 2)).toInt64) &&& (255 : Int64)) <<< ((40 : Int32) &&& 0x3f).toInt64)) ||| ((((f1 (p2.toInt.toNat + 3)).toInt64) &&& (255 : Int64)) <<< ((32 : Int32) &&& 0x3f).toInt64)) ||| ((((f1 (p2.toInt.toNat + 4)).toInt64) &&& (255 : Int64)) <<< ((24 : Int32) &&& 0x3f).toInt64)) ||| ((((f1 (p2.toInt.toNat + 5)).toInt64) &&& (255 : Int64)) <<< ((16 : Int32) &&& 0x3f).toInt64)) ||| ((((f1 (p2.toInt.toNat + 6)).toInt64) &&& (255 : Int64)) <<< ((8 : Int32) &&& 0x3f).toInt64)))])) rfl (hb hby d1_103) _ k) ?_
  show own_Fin _ _ _ _ _ _ _ _ (mkF m 106 #[.val (.ref a1), .val (.int p2)] [(.long (255 : Int64)), (.long ((f1 (p2.toInt.toNat + 7)).toInt64)), (.long ((((((((((f1 (p2.toInt.toNat)).toInt64) &&& (255 : Int64)) <<< ((56 : Int32) &&& 0x3f).toInt64) ||| ((((f1 (p2.toInt.toNat + 1)).toInt64) &&& (255 : Int64)) <<< ((48 : Int32) &&& 0x3f).toInt64)) ||| ((((f1 (p2.toInt.toNat + 2)).toInt64) &&& (255 : Int64)) <<< ((40 : Int32) &&& 0x3f).toInt64)) ||| ((((f1 (p2.toInt.toNat + 3)).toInt64) &&& (255 : Int64)) <<< ((32 : Int32) &&& 0x3f).toInt64)) ||| ((((f1 (p2.toInt.toNat + 4)).toInt64) &&& (255 : Int64)) <<< ((24 : Int32) &&& 0x3f).toInt64)) ||| ((((f1 (p2.toInt.toNat + 5)).toInt64) &&& (255 : Int64)) <<< ((16 : Int32) &&& 0x3f).toInt64)) ||| ((((f1 (p2.toInt.toNat + 6)).toInt64) &&& (255 : Int64)) <<< ((8 : Int32) &&& 0x3f).toInt64)))])
  refine own_step (fun t k => XS.land X0.here hx rfl (hb hby d1_106) rfl k) ?_
  show own_Fin _ _ _ _ _ _ _ _ (mkF m 107 #[.val (.ref a1), .val (.int p2)] [(.long (((f1 (p2.toInt.toNat + 7)).toInt64) &&& (255 : Int64))), (.long ((((((((((f1 (p2.toInt.toNat)).toInt64) &&& (255 : Int64)) <<< ((56 : Int32) &&& 0x3f).toInt64) ||| ((((f1 (p2.toInt.toNat + 1)).toInt64) &&& (255 : Int64)) <<< ((48 : Int32) &&& 0x3f).toInt64)) ||| ((((f1 (p2.toInt.toNat + 2)).toInt64) &&& (255 : Int64)) <<< ((40 : Int32) &&& 0x3f).toInt64)) ||| ((((f1 (p2.toInt.toNat + 3)).toInt64) &&& (255 : Int64)) <<< ((32 : Int32) &&& 0x3f).toInt64)) ||| ((((f1 (p2.toInt.toNat + 4)).toInt64) &&& (255 : Int64)) <<< ((24 : Int32) &&& 0x3f).toInt64)) ||| ((((f1 (p2.toInt.toNat + 5)).toInt64) &&& (255 : Int64)) <<< ((16 : Int32) &&& 0x3f).toInt64)) ||| ((((f1 (p2.toInt.toNat + 6)).toInt64) &&& (255 : Int64)) <<< ((8 : Int32) &&& 0x3f).toInt64)))])
  refine own_step (fun t k => XS.lor X0.here hx rfl (hb hby d1_107) rfl k) ?_
  show own_Fin _ _ _ _ _ _ _ _ (mkF m 108 #[.val (.ref a1), .val (.int p2)] [(.long (((((((((((f1 (p2.toInt.toNat)).toInt64) &&& (255 : Int64)) <<< ((56 : Int32) &&& 0x3f).toInt64) ||| ((((f1 (p2.toInt.toNat + 1)).toInt64) &&& (255 : Int64)) <<< ((48 : Int32) &&& 0x3f).toInt64)) ||| ((((f1 (p2.toInt.toNat + 2)).toInt64) &&& (255 : Int64)) <<< ((40 : Int32) &&& 0x3f).toInt64)) ||| ((((f1 (p2.toInt.toNat + 3)).toInt64) &&& (255 : Int64)) <<< ((32 : Int32) &&& 0x3f).toInt64)) ||| ((((f1 (p2.toInt.toNat + 4)).toInt64) &&& (255 : Int64)) <<< ((24 : Int32) &&& 0x3f).toInt64)) ||| ((((f1 (p2.toInt.toNat + 5)).toInt64) &&& (255 : Int64)) <<< ((16 : Int32) &&& 0x3f).toInt64)) ||| ((((f1 (p2.toInt.toNat + 6)).toInt64) &&& (255 : Int64)) <<< ((8 : Int32) &&& 0x3f).toInt64)) ||| (((f1 (p2.toInt.toNat + 7)).toInt64) &&& (255 : Int64))))])
  refine own_retJ X0 hx hlk Bd.returns (hb hby d1_108) (by decide) (by decide) e0 ?_
  exact ⟨rfl, Nf, rfl⟩
theorem own_pd_0 : parseMethodDescriptor "([BI)J" = some ⟨[(.array .byte), .int], some .long⟩ := by decide +kernel
theorem own_pn_0 : plainName "com/example/pcr10/pcr10/ScratchBytesLongAtPinLaw" = true := by first | (simp [plainName, overriddenIn]; done) | decide +kernel
theorem own_ef_0 (m : MethodId) (q1 : Int64) (p2 : Int32) (p3 : Int32) (p4 : Int32) : entryFrame m #[(.long q1), (.int p2), (.int p3), (.int p4)] maxLocals = mkF m 0 #[.val (.long q1), .second, .val (.int p2), .val (.int p3), .val (.int p4), .unset, .unset, .unset] [] := by first | (simp [entryFrame, mkF, argsToLocals, Value.category, maxLocals]; done) | rfl
def own_Q0 (Z : State) (q1 : Int64) (p2 : Int32) (p3 : Int32) (p4 : Int32) (h0 : Heap) (n0 : Nat) (v : Option Value) (h : Heap) (L : List Loc) : Prop := v = some (.int 1) ∧ Fr n0 L
set_option maxRecDepth 65536 in
set_option maxHeartbeats 40000000 in
theorem rm0 (l : Launch) (Z : State) (a0 : Array Value) (hw : ∀ d ∈ tables_1, d.before a0 Z = true) (ws : List Jvm.Cond) (q1 : Int64) (p2 : Int32) (p3 : Int32) (p4 : Int32) (h0 : Heap) (n0 : Nat) (Z0 : n0 ≤ h0.size) :
    MetFree l x (head1 (Jvm.Cond.code x code maxLocals ret :: ws) room_1) (fun a U => a = #[(.long q1), (.int p2), (.int p3), (.int p4)] ∧ Z.Warmed39 U.vm ∧ U.heap = h0) (fun _ _ _ _ _ => True) (fun _ U o U' => ∃ v L, o = .returned v ∧ own_Q0 Z q1 p2 p3 p4 h0 n0 v U'.heap L ∧ FrameEnd U o U' L 16 128) := by
  refine MetFree.of_bodySF (plainFor_of_name own_pn_0) hisR ?_
  intro p e s m args below meth c s₁ Bd hml0 hP hK
  obtain ⟨rfl, hZ, hh⟩ := hP
  have hx := Bd.exec
  have hby := Bd.bytes
  have hlk := BodyLoose.notSynchronized Bd
  have hml : c.maxLocals = 8 := hml0
  have hown : s.vm.findClass "com/example/pcr10/pcr10/ScratchBytesLongAtPinLaw" = some m.cls := (findClass_of_methodNamed Bd.named : s.vm.findClass x.cls = some m.cls)
  have hnm := (name_of_methodNamed Bd.named Bd.method).1
  have X0 : Stand p l e room_1 s m #[(.long q1), (.int p2), (.int p3), (.int p4)] below meth c s₁ [] 0 0 := Stand.of_body Bd
  have e0 : s₁.heap = h0 := by rw [← hh, Bd.state]; rfl
  have Nf := Fr.nil n0
  have Zs := Z0
  show own_Fin p e below s (own_Q0 Z q1 p2 p3 p4 h0 n0) 16 128 s₁ (entryFrame m #[(.long q1), (.int p2), (.int p3), (.int p4)] maxLocals)
  rw [own_ef_0 m q1 p2 p3 p4]
  show own_Fin _ _ _ _ _ _ _ _ (mkF m 0 #[.val (.long q1), .second, .val (.int p2), .val (.int p3), .val (.int p4), .unset, .unset, .unset] [])
  refine own_step (fun t k => XS.iloadN X0.here hx rfl (hb hby at_0) rfl k) ?_
  show own_Fin _ _ _ _ _ _ _ _ (mkF m 1 #[.val (.long q1), .second, .val (.int p2), .val (.int p3), .val (.int p4), .unset, .unset, .unset] [(.int p2)])
  refine own_step (fun t k => XS.iconst X0.here hx rfl (hb hby at_1) k) ?_
  show own_Fin _ _ _ _ _ _ _ _ (mkF m 2 #[.val (.long q1), .second, .val (.int p2), .val (.int p3), .val (.int p4), .unset, .unset, .unset] [(.int (3 : Int32)), (.int p2)])
  refine own_step (fun t k => XS.iand X0.here hx rfl (hb hby at_2) rfl k) ?_
  show own_Fin _ _ _ _ _ _ _ _ (mkF m 3 #[.val (.long q1), .second, .val (.int p2), .val (.int p3), .val (.int p4), .unset, .unset, .unset] [(.int (p2 &&& (3 : Int32)))])
  generalize haa : (p2 &&& (3 : Int32)) = aa
  refine own_step (fun t k => XS.istore X0.here hx rfl (hb hby at_3) rfl (l' := #[.val (.long q1), .second, .val (.int p2), .val (.int p3), .val (.int p4), .val (.int aa), .unset, .unset]) rfl k) ?_
  show own_Fin _ _ _ _ _ _ _ _ (mkF m 5 #[.val (.long q1), .second, .val (.int p2), .val (.int p3), .val (.int p4), .val (.int aa), .unset, .unset] [])
  have hA : 0 ≤ aa.toInt ∧ aa.toInt ≤ 3 := by
    have q := c_mask p2 3 2 (by decide) (by decide)
    rw [haa] at q
    omega
  refine own_step (fun t k => XS.iloadN X0.here hx rfl (hb hby at_5) rfl k) ?_
  show own_Fin _ _ _ _ _ _ _ _ (mkF m 6 #[.val (.long q1), .second, .val (.int p2), .val (.int p3), .val (.int p4), .val (.int aa), .unset, .unset] [(.int p3)])
  refine own_step (fun t k => XS.iload X0.here hx rfl (hb hby at_6) rfl k) ?_
  show own_Fin _ _ _ _ _ _ _ _ (mkF m 8 #[.val (.long q1), .second, .val (.int p2), .val (.int p3), .val (.int p4), .val (.int aa), .unset, .unset] [(.int p4), (.int p3)])
  refine own_step (fun t k => XS.ixor X0.here hx rfl (hb hby at_8) rfl k) ?_
  show own_Fin _ _ _ _ _ _ _ _ (mkF m 9 #[.val (.long q1), .second, .val (.int p2), .val (.int p3), .val (.int p4), .val (.int aa), .unset, .unset] [(.int (p3 ^^^ p4))])
  refine own_step (fun t k => XS.istore X0.here hx rfl (hb hby at_9) rfl (l' := #[.val (.long q1), .second, .val (.int p2), .val (.int p3), .val (.int p4), .val (.int aa), .val (.int (p3 ^^^ p4)), .unset]) rfl k) ?_
  show own_Fin _ _ _ _ _ _ _ _ (mkF m 11 #[.val (.long q1), .second, .val (.int p2), .val (.int p3), .val (.int p4), .val (.int aa), .val (.int (p3 ^^^ p4)), .unset] [])
  refine own_step (fun t k => XS.bipush X0.here hx rfl (hb hby at_11) k) ?_
  show own_Fin _ _ _ _ _ _ _ _ (mkF m 13 #[.val (.long q1), .second, .val (.int p2), .val (.int p3), .val (.int p4), .val (.int aa), .val (.int (p3 ^^^ p4)), .unset] [(.int (11 : Int32))])
  obtain ⟨T1, h1, k1, X1, e1, E1, A1, st1⟩ := newP X0 hx hZ (hw _ (List.mem_of_getElem? (i := 0) rfl)) e0 (g := (mkF m 13 #[.val (.long q1), .second, .val (.int p2), .val (.int p3), .val (.int p4), .val (.int aa), .val (.int (p3 ^^^ p4)), .unset] [(.int (11 : Int32))])) rfl (hb hby at_13) rfl (by decide) (cap := 11) (by decide) (by decide) (by decide) (by decide)
  obtain ⟨b1, g1⟩ : ∃ z, z = h0.size := ⟨_, rfl⟩
  rw [← g1] at A1 st1
  refine own_step st1 ?_
  have g_b1 : n0 ≤ b1 := Nat.le_trans Zs (Nat.le_of_eq g1.symm)
  replace Zs := Nat.le_trans Zs E1.1
  have V_b1 := own_AI.newB (n := 11) A1 (by decide)
  show own_Fin _ _ _ _ _ _ _ _ (mkF m 15 #[.val (.long q1), .second, .val (.int p2), .val (.int p3), .val (.int p4), .val (.int aa), .val (.int (p3 ^^^ p4)), .unset] [(.ref b1)])
  refine own_step (fun t k => XS.astore X1.here hx rfl (hb hby at_15) rfl rfl (l' := #[.val (.long q1), .second, .val (.int p2), .val (.int p3), .val (.int p4), .val (.int aa), .val (.int (p3 ^^^ p4)), .val (.ref b1)]) rfl k) ?_
  show own_Fin _ _ _ _ _ _ _ _ (mkF m 17 #[.val (.long q1), .second, .val (.int p2), .val (.int p3), .val (.int p4), .val (.int aa), .val (.int (p3 ^^^ p4)), .val (.ref b1)] [])
  refine own_step (fun t k => XS.aload X1.here hx rfl (hb hby at_17) rfl rfl k) ?_
  show own_Fin _ _ _ _ _ _ _ _ (mkF m 19 #[.val (.long q1), .second, .val (.int p2), .val (.int p3), .val (.int p4), .val (.int aa), .val (.int (p3 ^^^ p4)), .val (.ref b1)] [(.ref b1)])
  refine own_step (fun t k => XS.iconst X1.here hx rfl (hb hby at_19) k) ?_
  show own_Fin _ _ _ _ _ _ _ _ (mkF m 20 #[.val (.long q1), .second, .val (.int p2), .val (.int p3), .val (.int p4), .val (.int aa), .val (.int (p3 ^^^ p4)), .val (.ref b1)] [(.int (0 : Int32)), (.ref b1)])
  refine own_step (fun t k => XS.iloadN X1.here hx rfl (hb hby at_20) rfl k) ?_
  show own_Fin _ _ _ _ _ _ _ _ (mkF m 21 #[.val (.long q1), .second, .val (.int p2), .val (.int p3), .val (.int p4), .val (.int aa), .val (.int (p3 ^^^ p4)), .val (.ref b1)] [(.int p3), (.int (0 : Int32)), (.ref b1)])
  refine own_step (fun t k => XS.i2b X1.here hx rfl (hb hby at_21) rfl k) ?_
  show own_Fin _ _ _ _ _ _ _ _ (mkF m 22 #[.val (.long q1), .second, .val (.int p2), .val (.int p3), .val (.int p4), .val (.int aa), .val (.int (p3 ^^^ p4)), .val (.ref b1)] [(.int (p3.toInt8.toInt32)), (.int (0 : Int32)), (.ref b1)])
  obtain ⟨T2, h2, X2, e2, W2, B2, st2⟩ := own_bastore X1 hx hZ e1 V_b1 (j := (0 : Int32)) (k := 0) rfl (by decide) (own_nar8 _) (x := (p3.toInt8.toInt32)) (pc := 22) (Ls := #[.val (.long q1), .second, .val (.int p2), .val (.int p3), .val (.int p4), .val (.int aa), .val (.int (p3 ^^^ p4)), .val (.ref b1)]) (rest := []) (hb hby at_22) rfl
  refine own_step st2 ?_
  replace Zs : n0 ≤ h2.size := by rw [W2.size]; exact Zs
  replace V_b1 := B2
  replace Nf := Fr.snoc X2 Nf g_b1
  show own_Fin _ _ _ _ _ _ _ _ (mkF m 23 #[.val (.long q1), .second, .val (.int p2), .val (.int p3), .val (.int p4), .val (.int aa), .val (.int (p3 ^^^ p4)), .val (.ref b1)] [])
  refine own_step (fun t k => XS.aload X2.here hx rfl (hb hby at_23) rfl rfl k) ?_
  show own_Fin _ _ _ _ _ _ _ _ (mkF m 25 #[.val (.long q1), .second, .val (.int p2), .val (.int p3), .val (.int p4), .val (.int aa), .val (.int (p3 ^^^ p4)), .val (.ref b1)] [(.ref b1)])
  refine own_step (fun t k => XS.iconst X2.here hx rfl (hb hby at_25) k) ?_
  show own_Fin _ _ _ _ _ _ _ _ (mkF m 26 #[.val (.long q1), .second, .val (.int p2), .val (.int p3), .val (.int p4), .val (.int aa), .val (.int (p3 ^^^ p4)), .val (.ref b1)] [(.int (1 : Int32)), (.ref b1)])
  refine own_step (fun t k => XS.iloadN X2.here hx rfl (hb hby at_26) rfl k) ?_
  show own_Fin _ _ _ _ _ _ _ _ (mkF m 27 #[.val (.long q1), .second, .val (.int p2), .val (.int p3), .val (.int p4), .val (.int aa), .val (.int (p3 ^^^ p4)), .val (.ref b1)] [(.int p3), (.int (1 : Int32)), (.ref b1)])
  refine own_step (fun t k => XS.bipush X2.here hx rfl (hb hby at_27) k) ?_
  show own_Fin _ _ _ _ _ _ _ _ (mkF m 29 #[.val (.long q1), .second, .val (.int p2), .val (.int p3), .val (.int p4), .val (.int aa), .val (.int (p3 ^^^ p4)), .val (.ref b1)] [(.int (8 : Int32)), (.int p3), (.int (1 : Int32)), (.ref b1)])
  refine own_step (fun t k => XS.iushr X2.here hx rfl (hb hby at_29) rfl k) ?_
  show own_Fin _ _ _ _ _ _ _ _ (mkF m 30 #[.val (.long q1), .second, .val (.int p2), .val (.int p3), .val (.int p4), .val (.int aa), .val (.int (p3 ^^^ p4)), .val (.ref b1)] [(.int ((p3.toUInt32 >>> ((8 : Int32) &&& 31).toUInt32).toInt32)), (.int (1 : Int32)), (.ref b1)])
  refine own_step (fun t k => XS.i2b X2.here hx rfl (hb hby at_30) rfl k) ?_
  show own_Fin _ _ _ _ _ _ _ _ (mkF m 31 #[.val (.long q1), .second, .val (.int p2), .val (.int p3), .val (.int p4), .val (.int aa), .val (.int (p3 ^^^ p4)), .val (.ref b1)] [(.int (((p3.toUInt32 >>> ((8 : Int32) &&& 31).toUInt32).toInt32).toInt8.toInt32)), (.int (1 : Int32)), (.ref b1)])
  obtain ⟨T3, h3, X3, e3, W3, B3, st3⟩ := own_bastore X2 hx hZ e2 V_b1 (j := (1 : Int32)) (k := 1) rfl (by decide) (own_nar8 _) (x := (((p3.toUInt32 >>> ((8 : Int32) &&& 31).toUInt32).toInt32).toInt8.toInt32)) (pc := 31) (Ls := #[.val (.long q1), .second, .val (.int p2), .val (.int p3), .val (.int p4), .val (.int aa), .val (.int (p3 ^^^ p4)), .val (.ref b1)]) (rest := []) (hb hby at_31) rfl
  refine own_step st3 ?_
  replace Zs : n0 ≤ h3.size := by rw [W3.size]; exact Zs
  replace V_b1 := B3
  replace Nf := Fr.snoc X3 Nf g_b1
  show own_Fin _ _ _ _ _ _ _ _ (mkF m 32 #[.val (.long q1), .second, .val (.int p2), .val (.int p3), .val (.int p4), .val (.int aa), .val (.int (p3 ^^^ p4)), .val (.ref b1)] [])
  refine own_step (fun t k => XS.aload X3.here hx rfl (hb hby at_32) rfl rfl k) ?_
  show own_Fin _ _ _ _ _ _ _ _ (mkF m 34 #[.val (.long q1), .second, .val (.int p2), .val (.int p3), .val (.int p4), .val (.int aa), .val (.int (p3 ^^^ p4)), .val (.ref b1)] [(.ref b1)])
  refine own_step (fun t k => XS.iconst X3.here hx rfl (hb hby at_34) k) ?_
  show own_Fin _ _ _ _ _ _ _ _ (mkF m 35 #[.val (.long q1), .second, .val (.int p2), .val (.int p3), .val (.int p4), .val (.int aa), .val (.int (p3 ^^^ p4)), .val (.ref b1)] [(.int (2 : Int32)), (.ref b1)])
  refine own_step (fun t k => XS.iloadN X3.here hx rfl (hb hby at_35) rfl k) ?_
  show own_Fin _ _ _ _ _ _ _ _ (mkF m 36 #[.val (.long q1), .second, .val (.int p2), .val (.int p3), .val (.int p4), .val (.int aa), .val (.int (p3 ^^^ p4)), .val (.ref b1)] [(.int p3), (.int (2 : Int32)), (.ref b1)])
  refine own_step (fun t k => XS.bipush X3.here hx rfl (hb hby at_36) k) ?_
  show own_Fin _ _ _ _ _ _ _ _ (mkF m 38 #[.val (.long q1), .second, .val (.int p2), .val (.int p3), .val (.int p4), .val (.int aa), .val (.int (p3 ^^^ p4)), .val (.ref b1)] [(.int (16 : Int32)), (.int p3), (.int (2 : Int32)), (.ref b1)])
  refine own_step (fun t k => XS.iushr X3.here hx rfl (hb hby at_38) rfl k) ?_
  show own_Fin _ _ _ _ _ _ _ _ (mkF m 39 #[.val (.long q1), .second, .val (.int p2), .val (.int p3), .val (.int p4), .val (.int aa), .val (.int (p3 ^^^ p4)), .val (.ref b1)] [(.int ((p3.toUInt32 >>> ((16 : Int32) &&& 31).toUInt32).toInt32)), (.int (2 : Int32)), (.ref b1)])
  refine own_step (fun t k => XS.i2b X3.here hx rfl (hb hby at_39) rfl k) ?_
  show own_Fin _ _ _ _ _ _ _ _ (mkF m 40 #[.val (.long q1), .second, .val (.int p2), .val (.int p3), .val (.int p4), .val (.int aa), .val (.int (p3 ^^^ p4)), .val (.ref b1)] [(.int (((p3.toUInt32 >>> ((16 : Int32) &&& 31).toUInt32).toInt32).toInt8.toInt32)), (.int (2 : Int32)), (.ref b1)])
  obtain ⟨T4, h4, X4, e4, W4, B4, st4⟩ := own_bastore X3 hx hZ e3 V_b1 (j := (2 : Int32)) (k := 2) rfl (by decide) (own_nar8 _) (x := (((p3.toUInt32 >>> ((16 : Int32) &&& 31).toUInt32).toInt32).toInt8.toInt32)) (pc := 40) (Ls := #[.val (.long q1), .second, .val (.int p2), .val (.int p3), .val (.int p4), .val (.int aa), .val (.int (p3 ^^^ p4)), .val (.ref b1)]) (rest := []) (hb hby at_40) rfl
  refine own_step st4 ?_
  replace Zs : n0 ≤ h4.size := by rw [W4.size]; exact Zs
  replace V_b1 := B4
  replace Nf := Fr.snoc X4 Nf g_b1
  show own_Fin _ _ _ _ _ _ _ _ (mkF m 41 #[.val (.long q1), .second, .val (.int p2), .val (.int p3), .val (.int p4), .val (.int aa), .val (.int (p3 ^^^ p4)), .val (.ref b1)] [])
  refine own_step (fun t k => XS.aload X4.here hx rfl (hb hby at_41) rfl rfl k) ?_
  show own_Fin _ _ _ _ _ _ _ _ (mkF m 43 #[.val (.long q1), .second, .val (.int p2), .val (.int p3), .val (.int p4), .val (.int aa), .val (.int (p3 ^^^ p4)), .val (.ref b1)] [(.ref b1)])
  refine own_step (fun t k => XS.iconst X4.here hx rfl (hb hby at_43) k) ?_
  show own_Fin _ _ _ _ _ _ _ _ (mkF m 44 #[.val (.long q1), .second, .val (.int p2), .val (.int p3), .val (.int p4), .val (.int aa), .val (.int (p3 ^^^ p4)), .val (.ref b1)] [(.int (3 : Int32)), (.ref b1)])
  refine own_step (fun t k => XS.iloadN X4.here hx rfl (hb hby at_44) rfl k) ?_
  show own_Fin _ _ _ _ _ _ _ _ (mkF m 45 #[.val (.long q1), .second, .val (.int p2), .val (.int p3), .val (.int p4), .val (.int aa), .val (.int (p3 ^^^ p4)), .val (.ref b1)] [(.int p3), (.int (3 : Int32)), (.ref b1)])
  refine own_step (fun t k => XS.bipush X4.here hx rfl (hb hby at_45) k) ?_
  show own_Fin _ _ _ _ _ _ _ _ (mkF m 47 #[.val (.long q1), .second, .val (.int p2), .val (.int p3), .val (.int p4), .val (.int aa), .val (.int (p3 ^^^ p4)), .val (.ref b1)] [(.int (24 : Int32)), (.int p3), (.int (3 : Int32)), (.ref b1)])
  refine own_step (fun t k => XS.iushr X4.here hx rfl (hb hby at_47) rfl k) ?_
  show own_Fin _ _ _ _ _ _ _ _ (mkF m 48 #[.val (.long q1), .second, .val (.int p2), .val (.int p3), .val (.int p4), .val (.int aa), .val (.int (p3 ^^^ p4)), .val (.ref b1)] [(.int ((p3.toUInt32 >>> ((24 : Int32) &&& 31).toUInt32).toInt32)), (.int (3 : Int32)), (.ref b1)])
  refine own_step (fun t k => XS.i2b X4.here hx rfl (hb hby at_48) rfl k) ?_
  show own_Fin _ _ _ _ _ _ _ _ (mkF m 49 #[.val (.long q1), .second, .val (.int p2), .val (.int p3), .val (.int p4), .val (.int aa), .val (.int (p3 ^^^ p4)), .val (.ref b1)] [(.int (((p3.toUInt32 >>> ((24 : Int32) &&& 31).toUInt32).toInt32).toInt8.toInt32)), (.int (3 : Int32)), (.ref b1)])
  obtain ⟨T5, h5, X5, e5, W5, B5, st5⟩ := own_bastore X4 hx hZ e4 V_b1 (j := (3 : Int32)) (k := 3) rfl (by decide) (own_nar8 _) (x := (((p3.toUInt32 >>> ((24 : Int32) &&& 31).toUInt32).toInt32).toInt8.toInt32)) (pc := 49) (Ls := #[.val (.long q1), .second, .val (.int p2), .val (.int p3), .val (.int p4), .val (.int aa), .val (.int (p3 ^^^ p4)), .val (.ref b1)]) (rest := []) (hb hby at_49) rfl
  refine own_step st5 ?_
  replace Zs : n0 ≤ h5.size := by rw [W5.size]; exact Zs
  replace V_b1 := B5
  replace Nf := Fr.snoc X5 Nf g_b1
  show own_Fin _ _ _ _ _ _ _ _ (mkF m 50 #[.val (.long q1), .second, .val (.int p2), .val (.int p3), .val (.int p4), .val (.int aa), .val (.int (p3 ^^^ p4)), .val (.ref b1)] [])
  refine own_step (fun t k => XS.aload X5.here hx rfl (hb hby at_50) rfl rfl k) ?_
  show own_Fin _ _ _ _ _ _ _ _ (mkF m 52 #[.val (.long q1), .second, .val (.int p2), .val (.int p3), .val (.int p4), .val (.int aa), .val (.int (p3 ^^^ p4)), .val (.ref b1)] [(.ref b1)])
  refine own_step (fun t k => XS.iconst X5.here hx rfl (hb hby at_52) k) ?_
  show own_Fin _ _ _ _ _ _ _ _ (mkF m 53 #[.val (.long q1), .second, .val (.int p2), .val (.int p3), .val (.int p4), .val (.int aa), .val (.int (p3 ^^^ p4)), .val (.ref b1)] [(.int (4 : Int32)), (.ref b1)])
  refine own_step (fun t k => XS.iload X5.here hx rfl (hb hby at_53) rfl k) ?_
  show own_Fin _ _ _ _ _ _ _ _ (mkF m 55 #[.val (.long q1), .second, .val (.int p2), .val (.int p3), .val (.int p4), .val (.int aa), .val (.int (p3 ^^^ p4)), .val (.ref b1)] [(.int p4), (.int (4 : Int32)), (.ref b1)])
  refine own_step (fun t k => XS.i2b X5.here hx rfl (hb hby at_55) rfl k) ?_
  show own_Fin _ _ _ _ _ _ _ _ (mkF m 56 #[.val (.long q1), .second, .val (.int p2), .val (.int p3), .val (.int p4), .val (.int aa), .val (.int (p3 ^^^ p4)), .val (.ref b1)] [(.int (p4.toInt8.toInt32)), (.int (4 : Int32)), (.ref b1)])
  obtain ⟨T6, h6, X6, e6, W6, B6, st6⟩ := own_bastore X5 hx hZ e5 V_b1 (j := (4 : Int32)) (k := 4) rfl (by decide) (own_nar8 _) (x := (p4.toInt8.toInt32)) (pc := 56) (Ls := #[.val (.long q1), .second, .val (.int p2), .val (.int p3), .val (.int p4), .val (.int aa), .val (.int (p3 ^^^ p4)), .val (.ref b1)]) (rest := []) (hb hby at_56) rfl
  refine own_step st6 ?_
  replace Zs : n0 ≤ h6.size := by rw [W6.size]; exact Zs
  replace V_b1 := B6
  replace Nf := Fr.snoc X6 Nf g_b1
  show own_Fin _ _ _ _ _ _ _ _ (mkF m 57 #[.val (.long q1), .second, .val (.int p2), .val (.int p3), .val (.int p4), .val (.int aa), .val (.int (p3 ^^^ p4)), .val (.ref b1)] [])
  refine own_step (fun t k => XS.aload X6.here hx rfl (hb hby at_57) rfl rfl k) ?_
  show own_Fin _ _ _ _ _ _ _ _ (mkF m 59 #[.val (.long q1), .second, .val (.int p2), .val (.int p3), .val (.int p4), .val (.int aa), .val (.int (p3 ^^^ p4)), .val (.ref b1)] [(.ref b1)])
  refine own_step (fun t k => XS.iconst X6.here hx rfl (hb hby at_59) k) ?_
  show own_Fin _ _ _ _ _ _ _ _ (mkF m 60 #[.val (.long q1), .second, .val (.int p2), .val (.int p3), .val (.int p4), .val (.int aa), .val (.int (p3 ^^^ p4)), .val (.ref b1)] [(.int (5 : Int32)), (.ref b1)])
  refine own_step (fun t k => XS.iload X6.here hx rfl (hb hby at_60) rfl k) ?_
  show own_Fin _ _ _ _ _ _ _ _ (mkF m 62 #[.val (.long q1), .second, .val (.int p2), .val (.int p3), .val (.int p4), .val (.int aa), .val (.int (p3 ^^^ p4)), .val (.ref b1)] [(.int p4), (.int (5 : Int32)), (.ref b1)])
  refine own_step (fun t k => XS.bipush X6.here hx rfl (hb hby at_62) k) ?_
  show own_Fin _ _ _ _ _ _ _ _ (mkF m 64 #[.val (.long q1), .second, .val (.int p2), .val (.int p3), .val (.int p4), .val (.int aa), .val (.int (p3 ^^^ p4)), .val (.ref b1)] [(.int (8 : Int32)), (.int p4), (.int (5 : Int32)), (.ref b1)])
  refine own_step (fun t k => XS.iushr X6.here hx rfl (hb hby at_64) rfl k) ?_
  show own_Fin _ _ _ _ _ _ _ _ (mkF m 65 #[.val (.long q1), .second, .val (.int p2), .val (.int p3), .val (.int p4), .val (.int aa), .val (.int (p3 ^^^ p4)), .val (.ref b1)] [(.int ((p4.toUInt32 >>> ((8 : Int32) &&& 31).toUInt32).toInt32)), (.int (5 : Int32)), (.ref b1)])
  refine own_step (fun t k => XS.i2b X6.here hx rfl (hb hby at_65) rfl k) ?_
  show own_Fin _ _ _ _ _ _ _ _ (mkF m 66 #[.val (.long q1), .second, .val (.int p2), .val (.int p3), .val (.int p4), .val (.int aa), .val (.int (p3 ^^^ p4)), .val (.ref b1)] [(.int (((p4.toUInt32 >>> ((8 : Int32) &&& 31).toUInt32).toInt32).toInt8.toInt32)), (.int (5 : Int32)), (.ref b1)])
  obtain ⟨T7, h7, X7, e7, W7, B7, st7⟩ := own_bastore X6 hx hZ e6 V_b1 (j := (5 : Int32)) (k := 5) rfl (by decide) (own_nar8 _) (x := (((p4.toUInt32 >>> ((8 : Int32) &&& 31).toUInt32).toInt32).toInt8.toInt32)) (pc := 66) (Ls := #[.val (.long q1), .second, .val (.int p2), .val (.int p3), .val (.int p4), .val (.int aa), .val (.int (p3 ^^^ p4)), .val (.ref b1)]) (rest := []) (hb hby at_66) rfl
  refine own_step st7 ?_
  replace Zs : n0 ≤ h7.size := by rw [W7.size]; exact Zs
  replace V_b1 := B7
  replace Nf := Fr.snoc X7 Nf g_b1
  show own_Fin _ _ _ _ _ _ _ _ (mkF m 67 #[.val (.long q1), .second, .val (.int p2), .val (.int p3), .val (.int p4), .val (.int aa), .val (.int (p3 ^^^ p4)), .val (.ref b1)] [])
  refine own_step (fun t k => XS.aload X7.here hx rfl (hb hby at_67) rfl rfl k) ?_
  show own_Fin _ _ _ _ _ _ _ _ (mkF m 69 #[.val (.long q1), .second, .val (.int p2), .val (.int p3), .val (.int p4), .val (.int aa), .val (.int (p3 ^^^ p4)), .val (.ref b1)] [(.ref b1)])
  refine own_step (fun t k => XS.bipush X7.here hx rfl (hb hby at_69) k) ?_
  show own_Fin _ _ _ _ _ _ _ _ (mkF m 71 #[.val (.long q1), .second, .val (.int p2), .val (.int p3), .val (.int p4), .val (.int aa), .val (.int (p3 ^^^ p4)), .val (.ref b1)] [(.int (6 : Int32)), (.ref b1)])
  refine own_step (fun t k => XS.iload X7.here hx rfl (hb hby at_71) rfl k) ?_
  show own_Fin _ _ _ _ _ _ _ _ (mkF m 73 #[.val (.long q1), .second, .val (.int p2), .val (.int p3), .val (.int p4), .val (.int aa), .val (.int (p3 ^^^ p4)), .val (.ref b1)] [(.int p4), (.int (6 : Int32)), (.ref b1)])
  refine own_step (fun t k => XS.bipush X7.here hx rfl (hb hby at_73) k) ?_
  show own_Fin _ _ _ _ _ _ _ _ (mkF m 75 #[.val (.long q1), .second, .val (.int p2), .val (.int p3), .val (.int p4), .val (.int aa), .val (.int (p3 ^^^ p4)), .val (.ref b1)] [(.int (16 : Int32)), (.int p4), (.int (6 : Int32)), (.ref b1)])
  refine own_step (fun t k => XS.iushr X7.here hx rfl (hb hby at_75) rfl k) ?_
  show own_Fin _ _ _ _ _ _ _ _ (mkF m 76 #[.val (.long q1), .second, .val (.int p2), .val (.int p3), .val (.int p4), .val (.int aa), .val (.int (p3 ^^^ p4)), .val (.ref b1)] [(.int ((p4.toUInt32 >>> ((16 : Int32) &&& 31).toUInt32).toInt32)), (.int (6 : Int32)), (.ref b1)])
  refine own_step (fun t k => XS.i2b X7.here hx rfl (hb hby at_76) rfl k) ?_
  show own_Fin _ _ _ _ _ _ _ _ (mkF m 77 #[.val (.long q1), .second, .val (.int p2), .val (.int p3), .val (.int p4), .val (.int aa), .val (.int (p3 ^^^ p4)), .val (.ref b1)] [(.int (((p4.toUInt32 >>> ((16 : Int32) &&& 31).toUInt32).toInt32).toInt8.toInt32)), (.int (6 : Int32)), (.ref b1)])
  obtain ⟨T8, h8, X8, e8, W8, B8, st8⟩ := own_bastore X7 hx hZ e7 V_b1 (j := (6 : Int32)) (k := 6) rfl (by decide) (own_nar8 _) (x := (((p4.toUInt32 >>> ((16 : Int32) &&& 31).toUInt32).toInt32).toInt8.toInt32)) (pc := 77) (Ls := #[.val (.long q1), .second, .val (.int p2), .val (.int p3), .val (.int p4), .val (.int aa), .val (.int (p3 ^^^ p4)), .val (.ref b1)]) (rest := []) (hb hby at_77) rfl
  refine own_step st8 ?_
  replace Zs : n0 ≤ h8.size := by rw [W8.size]; exact Zs
  replace V_b1 := B8
  replace Nf := Fr.snoc X8 Nf g_b1
  show own_Fin _ _ _ _ _ _ _ _ (mkF m 78 #[.val (.long q1), .second, .val (.int p2), .val (.int p3), .val (.int p4), .val (.int aa), .val (.int (p3 ^^^ p4)), .val (.ref b1)] [])
  refine own_step (fun t k => XS.aload X8.here hx rfl (hb hby at_78) rfl rfl k) ?_
  show own_Fin _ _ _ _ _ _ _ _ (mkF m 80 #[.val (.long q1), .second, .val (.int p2), .val (.int p3), .val (.int p4), .val (.int aa), .val (.int (p3 ^^^ p4)), .val (.ref b1)] [(.ref b1)])
  refine own_step (fun t k => XS.bipush X8.here hx rfl (hb hby at_80) k) ?_
  show own_Fin _ _ _ _ _ _ _ _ (mkF m 82 #[.val (.long q1), .second, .val (.int p2), .val (.int p3), .val (.int p4), .val (.int aa), .val (.int (p3 ^^^ p4)), .val (.ref b1)] [(.int (7 : Int32)), (.ref b1)])
  refine own_step (fun t k => XS.iload X8.here hx rfl (hb hby at_82) rfl k) ?_
  show own_Fin _ _ _ _ _ _ _ _ (mkF m 84 #[.val (.long q1), .second, .val (.int p2), .val (.int p3), .val (.int p4), .val (.int aa), .val (.int (p3 ^^^ p4)), .val (.ref b1)] [(.int p4), (.int (7 : Int32)), (.ref b1)])
  refine own_step (fun t k => XS.bipush X8.here hx rfl (hb hby at_84) k) ?_
  show own_Fin _ _ _ _ _ _ _ _ (mkF m 86 #[.val (.long q1), .second, .val (.int p2), .val (.int p3), .val (.int p4), .val (.int aa), .val (.int (p3 ^^^ p4)), .val (.ref b1)] [(.int (24 : Int32)), (.int p4), (.int (7 : Int32)), (.ref b1)])
  refine own_step (fun t k => XS.iushr X8.here hx rfl (hb hby at_86) rfl k) ?_
  show own_Fin _ _ _ _ _ _ _ _ (mkF m 87 #[.val (.long q1), .second, .val (.int p2), .val (.int p3), .val (.int p4), .val (.int aa), .val (.int (p3 ^^^ p4)), .val (.ref b1)] [(.int ((p4.toUInt32 >>> ((24 : Int32) &&& 31).toUInt32).toInt32)), (.int (7 : Int32)), (.ref b1)])
  refine own_step (fun t k => XS.i2b X8.here hx rfl (hb hby at_87) rfl k) ?_
  show own_Fin _ _ _ _ _ _ _ _ (mkF m 88 #[.val (.long q1), .second, .val (.int p2), .val (.int p3), .val (.int p4), .val (.int aa), .val (.int (p3 ^^^ p4)), .val (.ref b1)] [(.int (((p4.toUInt32 >>> ((24 : Int32) &&& 31).toUInt32).toInt32).toInt8.toInt32)), (.int (7 : Int32)), (.ref b1)])
  obtain ⟨T9, h9, X9, e9, W9, B9, st9⟩ := own_bastore X8 hx hZ e8 V_b1 (j := (7 : Int32)) (k := 7) rfl (by decide) (own_nar8 _) (x := (((p4.toUInt32 >>> ((24 : Int32) &&& 31).toUInt32).toInt32).toInt8.toInt32)) (pc := 88) (Ls := #[.val (.long q1), .second, .val (.int p2), .val (.int p3), .val (.int p4), .val (.int aa), .val (.int (p3 ^^^ p4)), .val (.ref b1)]) (rest := []) (hb hby at_88) rfl
  refine own_step st9 ?_
  replace Zs : n0 ≤ h9.size := by rw [W9.size]; exact Zs
  replace V_b1 := B9
  replace Nf := Fr.snoc X9 Nf g_b1
  show own_Fin _ _ _ _ _ _ _ _ (mkF m 89 #[.val (.long q1), .second, .val (.int p2), .val (.int p3), .val (.int p4), .val (.int aa), .val (.int (p3 ^^^ p4)), .val (.ref b1)] [])
  refine own_step (fun t k => XS.aload X9.here hx rfl (hb hby at_89) rfl rfl k) ?_
  show own_Fin _ _ _ _ _ _ _ _ (mkF m 91 #[.val (.long q1), .second, .val (.int p2), .val (.int p3), .val (.int p4), .val (.int aa), .val (.int (p3 ^^^ p4)), .val (.ref b1)] [(.ref b1)])
  refine own_step (fun t k => XS.bipush X9.here hx rfl (hb hby at_91) k) ?_
  show own_Fin _ _ _ _ _ _ _ _ (mkF m 93 #[.val (.long q1), .second, .val (.int p2), .val (.int p3), .val (.int p4), .val (.int aa), .val (.int (p3 ^^^ p4)), .val (.ref b1)] [(.int (8 : Int32)), (.ref b1)])
  refine own_step (fun t k => XS.iload X9.here hx rfl (hb hby at_93) rfl k) ?_
  show own_Fin _ _ _ _ _ _ _ _ (mkF m 95 #[.val (.long q1), .second, .val (.int p2), .val (.int p3), .val (.int p4), .val (.int aa), .val (.int (p3 ^^^ p4)), .val (.ref b1)] [(.int (p3 ^^^ p4)), (.int (8 : Int32)), (.ref b1)])
  refine own_step (fun t k => XS.i2b X9.here hx rfl (hb hby at_95) rfl k) ?_
  show own_Fin _ _ _ _ _ _ _ _ (mkF m 96 #[.val (.long q1), .second, .val (.int p2), .val (.int p3), .val (.int p4), .val (.int aa), .val (.int (p3 ^^^ p4)), .val (.ref b1)] [(.int ((p3 ^^^ p4).toInt8.toInt32)), (.int (8 : Int32)), (.ref b1)])
  obtain ⟨T10, h10, X10, e10, W10, B10, st10⟩ := own_bastore X9 hx hZ e9 V_b1 (j := (8 : Int32)) (k := 8) rfl (by decide) (own_nar8 _) (x := ((p3 ^^^ p4).toInt8.toInt32)) (pc := 96) (Ls := #[.val (.long q1), .second, .val (.int p2), .val (.int p3), .val (.int p4), .val (.int aa), .val (.int (p3 ^^^ p4)), .val (.ref b1)]) (rest := []) (hb hby at_96) rfl
  refine own_step st10 ?_
  replace Zs : n0 ≤ h10.size := by rw [W10.size]; exact Zs
  replace V_b1 := B10
  replace Nf := Fr.snoc X10 Nf g_b1
  show own_Fin _ _ _ _ _ _ _ _ (mkF m 97 #[.val (.long q1), .second, .val (.int p2), .val (.int p3), .val (.int p4), .val (.int aa), .val (.int (p3 ^^^ p4)), .val (.ref b1)] [])
  refine own_step (fun t k => XS.aload X10.here hx rfl (hb hby at_97) rfl rfl k) ?_
  show own_Fin _ _ _ _ _ _ _ _ (mkF m 99 #[.val (.long q1), .second, .val (.int p2), .val (.int p3), .val (.int p4), .val (.int aa), .val (.int (p3 ^^^ p4)), .val (.ref b1)] [(.ref b1)])
  refine own_step (fun t k => XS.bipush X10.here hx rfl (hb hby at_99) k) ?_
  show own_Fin _ _ _ _ _ _ _ _ (mkF m 101 #[.val (.long q1), .second, .val (.int p2), .val (.int p3), .val (.int p4), .val (.int aa), .val (.int (p3 ^^^ p4)), .val (.ref b1)] [(.int (9 : Int32)), (.ref b1)])
  refine own_step (fun t k => XS.iload X10.here hx rfl (hb hby at_101) rfl k) ?_
  show own_Fin _ _ _ _ _ _ _ _ (mkF m 103 #[.val (.long q1), .second, .val (.int p2), .val (.int p3), .val (.int p4), .val (.int aa), .val (.int (p3 ^^^ p4)), .val (.ref b1)] [(.int (p3 ^^^ p4)), (.int (9 : Int32)), (.ref b1)])
  refine own_step (fun t k => XS.bipush X10.here hx rfl (hb hby at_103) k) ?_
  show own_Fin _ _ _ _ _ _ _ _ (mkF m 105 #[.val (.long q1), .second, .val (.int p2), .val (.int p3), .val (.int p4), .val (.int aa), .val (.int (p3 ^^^ p4)), .val (.ref b1)] [(.int (8 : Int32)), (.int (p3 ^^^ p4)), (.int (9 : Int32)), (.ref b1)])
  refine own_step (fun t k => XS.iushr X10.here hx rfl (hb hby at_105) rfl k) ?_
  show own_Fin _ _ _ _ _ _ _ _ (mkF m 106 #[.val (.long q1), .second, .val (.int p2), .val (.int p3), .val (.int p4), .val (.int aa), .val (.int (p3 ^^^ p4)), .val (.ref b1)] [(.int (((p3 ^^^ p4).toUInt32 >>> ((8 : Int32) &&& 31).toUInt32).toInt32)), (.int (9 : Int32)), (.ref b1)])
  refine own_step (fun t k => XS.i2b X10.here hx rfl (hb hby at_106) rfl k) ?_
  show own_Fin _ _ _ _ _ _ _ _ (mkF m 107 #[.val (.long q1), .second, .val (.int p2), .val (.int p3), .val (.int p4), .val (.int aa), .val (.int (p3 ^^^ p4)), .val (.ref b1)] [(.int ((((p3 ^^^ p4).toUInt32 >>> ((8 : Int32) &&& 31).toUInt32).toInt32).toInt8.toInt32)), (.int (9 : Int32)), (.ref b1)])
  obtain ⟨T11, h11, X11, e11, W11, B11, st11⟩ := own_bastore X10 hx hZ e10 V_b1 (j := (9 : Int32)) (k := 9) rfl (by decide) (own_nar8 _) (x := ((((p3 ^^^ p4).toUInt32 >>> ((8 : Int32) &&& 31).toUInt32).toInt32).toInt8.toInt32)) (pc := 107) (Ls := #[.val (.long q1), .second, .val (.int p2), .val (.int p3), .val (.int p4), .val (.int aa), .val (.int (p3 ^^^ p4)), .val (.ref b1)]) (rest := []) (hb hby at_107) rfl
  refine own_step st11 ?_
  replace Zs : n0 ≤ h11.size := by rw [W11.size]; exact Zs
  replace V_b1 := B11
  replace Nf := Fr.snoc X11 Nf g_b1
  show own_Fin _ _ _ _ _ _ _ _ (mkF m 108 #[.val (.long q1), .second, .val (.int p2), .val (.int p3), .val (.int p4), .val (.int aa), .val (.int (p3 ^^^ p4)), .val (.ref b1)] [])
  refine own_step (fun t k => XS.aload X11.here hx rfl (hb hby at_108) rfl rfl k) ?_
  show own_Fin _ _ _ _ _ _ _ _ (mkF m 110 #[.val (.long q1), .second, .val (.int p2), .val (.int p3), .val (.int p4), .val (.int aa), .val (.int (p3 ^^^ p4)), .val (.ref b1)] [(.ref b1)])
  refine own_step (fun t k => XS.bipush X11.here hx rfl (hb hby at_110) k) ?_
  show own_Fin _ _ _ _ _ _ _ _ (mkF m 112 #[.val (.long q1), .second, .val (.int p2), .val (.int p3), .val (.int p4), .val (.int aa), .val (.int (p3 ^^^ p4)), .val (.ref b1)] [(.int (10 : Int32)), (.ref b1)])
  refine own_step (fun t k => XS.iload X11.here hx rfl (hb hby at_112) rfl k) ?_
  show own_Fin _ _ _ _ _ _ _ _ (mkF m 114 #[.val (.long q1), .second, .val (.int p2), .val (.int p3), .val (.int p4), .val (.int aa), .val (.int (p3 ^^^ p4)), .val (.ref b1)] [(.int (p3 ^^^ p4)), (.int (10 : Int32)), (.ref b1)])
  refine own_step (fun t k => XS.bipush X11.here hx rfl (hb hby at_114) k) ?_
  show own_Fin _ _ _ _ _ _ _ _ (mkF m 116 #[.val (.long q1), .second, .val (.int p2), .val (.int p3), .val (.int p4), .val (.int aa), .val (.int (p3 ^^^ p4)), .val (.ref b1)] [(.int (16 : Int32)), (.int (p3 ^^^ p4)), (.int (10 : Int32)), (.ref b1)])
  refine own_step (fun t k => XS.iushr X11.here hx rfl (hb hby at_116) rfl k) ?_
  show own_Fin _ _ _ _ _ _ _ _ (mkF m 117 #[.val (.long q1), .second, .val (.int p2), .val (.int p3), .val (.int p4), .val (.int aa), .val (.int (p3 ^^^ p4)), .val (.ref b1)] [(.int (((p3 ^^^ p4).toUInt32 >>> ((16 : Int32) &&& 31).toUInt32).toInt32)), (.int (10 : Int32)), (.ref b1)])
  refine own_step (fun t k => XS.i2b X11.here hx rfl (hb hby at_117) rfl k) ?_
  show own_Fin _ _ _ _ _ _ _ _ (mkF m 118 #[.val (.long q1), .second, .val (.int p2), .val (.int p3), .val (.int p4), .val (.int aa), .val (.int (p3 ^^^ p4)), .val (.ref b1)] [(.int ((((p3 ^^^ p4).toUInt32 >>> ((16 : Int32) &&& 31).toUInt32).toInt32).toInt8.toInt32)), (.int (10 : Int32)), (.ref b1)])
  obtain ⟨T12, h12, X12, e12, W12, B12, st12⟩ := own_bastore X11 hx hZ e11 V_b1 (j := (10 : Int32)) (k := 10) rfl (by decide) (own_nar8 _) (x := ((((p3 ^^^ p4).toUInt32 >>> ((16 : Int32) &&& 31).toUInt32).toInt32).toInt8.toInt32)) (pc := 118) (Ls := #[.val (.long q1), .second, .val (.int p2), .val (.int p3), .val (.int p4), .val (.int aa), .val (.int (p3 ^^^ p4)), .val (.ref b1)]) (rest := []) (hb hby at_118) rfl
  refine own_step st12 ?_
  replace Zs : n0 ≤ h12.size := by rw [W12.size]; exact Zs
  replace V_b1 := B12
  replace Nf := Fr.snoc X12 Nf g_b1
  show own_Fin _ _ _ _ _ _ _ _ (mkF m 119 #[.val (.long q1), .second, .val (.int p2), .val (.int p3), .val (.int p4), .val (.int aa), .val (.int (p3 ^^^ p4)), .val (.ref b1)] [])
  obtain ⟨gE, V_b1⟩ : ∃ f, own_AI Z h12 b1 .byte 11 f := ⟨_, V_b1⟩
  refine own_step (fun t k => XS.aload X12.here hx rfl (hb hby at_119) rfl rfl k) ?_
  show own_Fin _ _ _ _ _ _ _ _ (mkF m 121 #[.val (.long q1), .second, .val (.int p2), .val (.int p3), .val (.int p4), .val (.int aa), .val (.int (p3 ^^^ p4)), .val (.ref b1)] [(.ref b1)])
  refine own_step (fun t k => XS.iload X12.here hx rfl (hb hby at_121) rfl k) ?_
  show own_Fin _ _ _ _ _ _ _ _ (mkF m 123 #[.val (.long q1), .second, .val (.int p2), .val (.int p3), .val (.int p4), .val (.int aa), .val (.int (p3 ^^^ p4)), .val (.ref b1)] [(.int aa), (.ref b1)])
  refine own_step (fun t k => XS.lloadN X12.here hx rfl (hb hby at_123) rfl k) ?_
  show own_Fin _ _ _ _ _ _ _ _ (mkF m 124 #[.val (.long q1), .second, .val (.int p2), .val (.int p3), .val (.int p4), .val (.int aa), .val (.int (p3 ^^^ p4)), .val (.ref b1)] [(.long q1), (.int aa), (.ref b1)])
  refine own_step (fun t k => XS.bipush X12.here hx rfl (hb hby at_124) k) ?_
  show own_Fin _ _ _ _ _ _ _ _ (mkF m 126 #[.val (.long q1), .second, .val (.int p2), .val (.int p3), .val (.int p4), .val (.int aa), .val (.int (p3 ^^^ p4)), .val (.ref b1)] [(.int (56 : Int32)), (.long q1), (.int aa), (.ref b1)])
  refine own_step (fun t k => XS.lushr X12.here hx rfl (hb hby at_126) rfl k) ?_
  show own_Fin _ _ _ _ _ _ _ _ (mkF m 127 #[.val (.long q1), .second, .val (.int p2), .val (.int p3), .val (.int p4), .val (.int aa), .val (.int (p3 ^^^ p4)), .val (.ref b1)] [(.long ((q1.toUInt64 >>> ((56 : Int32) &&& 0x3f).toInt64.toUInt64).toInt64)), (.int aa), (.ref b1)])
  refine own_step (fun t k => XS.l2i X12.here hx rfl (hb hby at_127) rfl k) ?_
  show own_Fin _ _ _ _ _ _ _ _ (mkF m 128 #[.val (.long q1), .second, .val (.int p2), .val (.int p3), .val (.int p4), .val (.int aa), .val (.int (p3 ^^^ p4)), .val (.ref b1)] [(.int (((q1.toUInt64 >>> ((56 : Int32) &&& 0x3f).toInt64.toUInt64).toInt64).toInt32)), (.int aa), (.ref b1)])
  refine own_step (fun t k => XS.i2b X12.here hx rfl (hb hby at_128) rfl k) ?_
  show own_Fin _ _ _ _ _ _ _ _ (mkF m 129 #[.val (.long q1), .second, .val (.int p2), .val (.int p3), .val (.int p4), .val (.int aa), .val (.int (p3 ^^^ p4)), .val (.ref b1)] [(.int ((((q1.toUInt64 >>> ((56 : Int32) &&& 0x3f).toInt64.toUInt64).toInt64).toInt32).toInt8.toInt32)), (.int aa), (.ref b1)])
  obtain ⟨T13, h13, X13, e13, W13, B13, st13⟩ := own_bastore X12 hx hZ e12 V_b1 (j := aa) (k := aa.toInt.toNat) (by omega) (by omega) (own_nar8 _) (x := ((((q1.toUInt64 >>> ((56 : Int32) &&& 0x3f).toInt64.toUInt64).toInt64).toInt32).toInt8.toInt32)) (pc := 129) (Ls := #[.val (.long q1), .second, .val (.int p2), .val (.int p3), .val (.int p4), .val (.int aa), .val (.int (p3 ^^^ p4)), .val (.ref b1)]) (rest := []) (hb hby at_129) rfl
  refine own_step st13 ?_
  replace Zs : n0 ≤ h13.size := by rw [W13.size]; exact Zs
  replace V_b1 := B13
  replace Nf := Fr.snoc X13 Nf g_b1
  show own_Fin _ _ _ _ _ _ _ _ (mkF m 130 #[.val (.long q1), .second, .val (.int p2), .val (.int p3), .val (.int p4), .val (.int aa), .val (.int (p3 ^^^ p4)), .val (.ref b1)] [])
  refine own_step (fun t k => XS.aload X13.here hx rfl (hb hby at_130) rfl rfl k) ?_
  show own_Fin _ _ _ _ _ _ _ _ (mkF m 132 #[.val (.long q1), .second, .val (.int p2), .val (.int p3), .val (.int p4), .val (.int aa), .val (.int (p3 ^^^ p4)), .val (.ref b1)] [(.ref b1)])
  refine own_step (fun t k => XS.iload X13.here hx rfl (hb hby at_132) rfl k) ?_
  show own_Fin _ _ _ _ _ _ _ _ (mkF m 134 #[.val (.long q1), .second, .val (.int p2), .val (.int p3), .val (.int p4), .val (.int aa), .val (.int (p3 ^^^ p4)), .val (.ref b1)] [(.int aa), (.ref b1)])
  refine own_step (fun t k => XS.iconst X13.here hx rfl (hb hby at_134) k) ?_
  show own_Fin _ _ _ _ _ _ _ _ (mkF m 135 #[.val (.long q1), .second, .val (.int p2), .val (.int p3), .val (.int p4), .val (.int aa), .val (.int (p3 ^^^ p4)), .val (.ref b1)] [(.int (1 : Int32)), (.int aa), (.ref b1)])
  refine own_step (fun t k => XS.iadd X13.here hx rfl (hb hby at_135) rfl k) ?_
  show own_Fin _ _ _ _ _ _ _ _ (mkF m 136 #[.val (.long q1), .second, .val (.int p2), .val (.int p3), .val (.int p4), .val (.int aa), .val (.int (p3 ^^^ p4)), .val (.ref b1)] [(.int (aa + (1 : Int32))), (.ref b1)])
  refine own_step (fun t k => XS.lloadN X13.here hx rfl (hb hby at_136) rfl k) ?_
  show own_Fin _ _ _ _ _ _ _ _ (mkF m 137 #[.val (.long q1), .second, .val (.int p2), .val (.int p3), .val (.int p4), .val (.int aa), .val (.int (p3 ^^^ p4)), .val (.ref b1)] [(.long q1), (.int (aa + (1 : Int32))), (.ref b1)])
  refine own_step (fun t k => XS.bipush X13.here hx rfl (hb hby at_137) k) ?_
  show own_Fin _ _ _ _ _ _ _ _ (mkF m 139 #[.val (.long q1), .second, .val (.int p2), .val (.int p3), .val (.int p4), .val (.int aa), .val (.int (p3 ^^^ p4)), .val (.ref b1)] [(.int (48 : Int32)), (.long q1), (.int (aa + (1 : Int32))), (.ref b1)])
  refine own_step (fun t k => XS.lushr X13.here hx rfl (hb hby at_139) rfl k) ?_
  show own_Fin _ _ _ _ _ _ _ _ (mkF m 140 #[.val (.long q1), .second, .val (.int p2), .val (.int p3), .val (.int p4), .val (.int aa), .val (.int (p3 ^^^ p4)), .val (.ref b1)] [(.long ((q1.toUInt64 >>> ((48 : Int32) &&& 0x3f).toInt64.toUInt64).toInt64)), (.int (aa + (1 : Int32))), (.ref b1)])
  refine own_step (fun t k => XS.l2i X13.here hx rfl (hb hby at_140) rfl k) ?_
  show own_Fin _ _ _ _ _ _ _ _ (mkF m 141 #[.val (.long q1), .second, .val (.int p2), .val (.int p3), .val (.int p4), .val (.int aa), .val (.int (p3 ^^^ p4)), .val (.ref b1)] [(.int (((q1.toUInt64 >>> ((48 : Int32) &&& 0x3f).toInt64.toUInt64).toInt64).toInt32)), (.int (aa + (1 : Int32))), (.ref b1)])
  refine own_step (fun t k => XS.i2b X13.here hx rfl (hb hby at_141) rfl k) ?_
  show own_Fin _ _ _ _ _ _ _ _ (mkF m 142 #[.val (.long q1), .second, .val (.int p2), .val (.int p3), .val (.int p4), .val (.int aa), .val (.int (p3 ^^^ p4)), .val (.ref b1)] [(.int ((((q1.toUInt64 >>> ((48 : Int32) &&& 0x3f).toInt64.toUInt64).toInt64).toInt32).toInt8.toInt32)), (.int (aa + (1 : Int32))), (.ref b1)])
  obtain ⟨T14, h14, X14, e14, W14, B14, st14⟩ := own_bastore X13 hx hZ e13 V_b1 (j := (aa + (1 : Int32))) (k := aa.toInt.toNat + 1) (by rw [own_ix aa 1 1 (by decide) (by omega) (by omega) (by omega) (by omega)]; omega) (by omega) (own_nar8 _) (x := ((((q1.toUInt64 >>> ((48 : Int32) &&& 0x3f).toInt64.toUInt64).toInt64).toInt32).toInt8.toInt32)) (pc := 142) (Ls := #[.val (.long q1), .second, .val (.int p2), .val (.int p3), .val (.int p4), .val (.int aa), .val (.int (p3 ^^^ p4)), .val (.ref b1)]) (rest := []) (hb hby at_142) rfl
  refine own_step st14 ?_
  replace Zs : n0 ≤ h14.size := by rw [W14.size]; exact Zs
  replace V_b1 := B14
  replace Nf := Fr.snoc X14 Nf g_b1
  show own_Fin _ _ _ _ _ _ _ _ (mkF m 143 #[.val (.long q1), .second, .val (.int p2), .val (.int p3), .val (.int p4), .val (.int aa), .val (.int (p3 ^^^ p4)), .val (.ref b1)] [])
  refine own_step (fun t k => XS.aload X14.here hx rfl (hb hby at_143) rfl rfl k) ?_
  show own_Fin _ _ _ _ _ _ _ _ (mkF m 145 #[.val (.long q1), .second, .val (.int p2), .val (.int p3), .val (.int p4), .val (.int aa), .val (.int (p3 ^^^ p4)), .val (.ref b1)] [(.ref b1)])
  refine own_step (fun t k => XS.iload X14.here hx rfl (hb hby at_145) rfl k) ?_
  show own_Fin _ _ _ _ _ _ _ _ (mkF m 147 #[.val (.long q1), .second, .val (.int p2), .val (.int p3), .val (.int p4), .val (.int aa), .val (.int (p3 ^^^ p4)), .val (.ref b1)] [(.int aa), (.ref b1)])
  refine own_step (fun t k => XS.iconst X14.here hx rfl (hb hby at_147) k) ?_
  show own_Fin _ _ _ _ _ _ _ _ (mkF m 148 #[.val (.long q1), .second, .val (.int p2), .val (.int p3), .val (.int p4), .val (.int aa), .val (.int (p3 ^^^ p4)), .val (.ref b1)] [(.int (2 : Int32)), (.int aa), (.ref b1)])
  refine own_step (fun t k => XS.iadd X14.here hx rfl (hb hby at_148) rfl k) ?_
  show own_Fin _ _ _ _ _ _ _ _ (mkF m 149 #[.val (.long q1), .second, .val (.int p2), .val (.int p3), .val (.int p4), .val (.int aa), .val (.int (p3 ^^^ p4)), .val (.ref b1)] [(.int (aa + (2 : Int32))), (.ref b1)])
  refine own_step (fun t k => XS.lloadN X14.here hx rfl (hb hby at_149) rfl k) ?_
  show own_Fin _ _ _ _ _ _ _ _ (mkF m 150 #[.val (.long q1), .second, .val (.int p2), .val (.int p3), .val (.int p4), .val (.int aa), .val (.int (p3 ^^^ p4)), .val (.ref b1)] [(.long q1), (.int (aa + (2 : Int32))), (.ref b1)])
  refine own_step (fun t k => XS.bipush X14.here hx rfl (hb hby at_150) k) ?_
  show own_Fin _ _ _ _ _ _ _ _ (mkF m 152 #[.val (.long q1), .second, .val (.int p2), .val (.int p3), .val (.int p4), .val (.int aa), .val (.int (p3 ^^^ p4)), .val (.ref b1)] [(.int (40 : Int32)), (.long q1), (.int (aa + (2 : Int32))), (.ref b1)])
  refine own_step (fun t k => XS.lushr X14.here hx rfl (hb hby at_152) rfl k) ?_
  show own_Fin _ _ _ _ _ _ _ _ (mkF m 153 #[.val (.long q1), .second, .val (.int p2), .val (.int p3), .val (.int p4), .val (.int aa), .val (.int (p3 ^^^ p4)), .val (.ref b1)] [(.long ((q1.toUInt64 >>> ((40 : Int32) &&& 0x3f).toInt64.toUInt64).toInt64)), (.int (aa + (2 : Int32))), (.ref b1)])
  refine own_step (fun t k => XS.l2i X14.here hx rfl (hb hby at_153) rfl k) ?_
  show own_Fin _ _ _ _ _ _ _ _ (mkF m 154 #[.val (.long q1), .second, .val (.int p2), .val (.int p3), .val (.int p4), .val (.int aa), .val (.int (p3 ^^^ p4)), .val (.ref b1)] [(.int (((q1.toUInt64 >>> ((40 : Int32) &&& 0x3f).toInt64.toUInt64).toInt64).toInt32)), (.int (aa + (2 : Int32))), (.ref b1)])
  refine own_step (fun t k => XS.i2b X14.here hx rfl (hb hby at_154) rfl k) ?_
  show own_Fin _ _ _ _ _ _ _ _ (mkF m 155 #[.val (.long q1), .second, .val (.int p2), .val (.int p3), .val (.int p4), .val (.int aa), .val (.int (p3 ^^^ p4)), .val (.ref b1)] [(.int ((((q1.toUInt64 >>> ((40 : Int32) &&& 0x3f).toInt64.toUInt64).toInt64).toInt32).toInt8.toInt32)), (.int (aa + (2 : Int32))), (.ref b1)])
  obtain ⟨T15, h15, X15, e15, W15, B15, st15⟩ := own_bastore X14 hx hZ e14 V_b1 (j := (aa + (2 : Int32))) (k := aa.toInt.toNat + 2) (by rw [own_ix aa 2 2 (by decide) (by omega) (by omega) (by omega) (by omega)]; omega) (by omega) (own_nar8 _) (x := ((((q1.toUInt64 >>> ((40 : Int32) &&& 0x3f).toInt64.toUInt64).toInt64).toInt32).toInt8.toInt32)) (pc := 155) (Ls := #[.val (.long q1), .second, .val (.int p2), .val (.int p3), .val (.int p4), .val (.int aa), .val (.int (p3 ^^^ p4)), .val (.ref b1)]) (rest := []) (hb hby at_155) rfl
  refine own_step st15 ?_
  replace Zs : n0 ≤ h15.size := by rw [W15.size]; exact Zs
  replace V_b1 := B15
  replace Nf := Fr.snoc X15 Nf g_b1
  show own_Fin _ _ _ _ _ _ _ _ (mkF m 156 #[.val (.long q1), .second, .val (.int p2), .val (.int p3), .val (.int p4), .val (.int aa), .val (.int (p3 ^^^ p4)), .val (.ref b1)] [])
  refine own_step (fun t k => XS.aload X15.here hx rfl (hb hby at_156) rfl rfl k) ?_
  show own_Fin _ _ _ _ _ _ _ _ (mkF m 158 #[.val (.long q1), .second, .val (.int p2), .val (.int p3), .val (.int p4), .val (.int aa), .val (.int (p3 ^^^ p4)), .val (.ref b1)] [(.ref b1)])
  refine own_step (fun t k => XS.iload X15.here hx rfl (hb hby at_158) rfl k) ?_
  show own_Fin _ _ _ _ _ _ _ _ (mkF m 160 #[.val (.long q1), .second, .val (.int p2), .val (.int p3), .val (.int p4), .val (.int aa), .val (.int (p3 ^^^ p4)), .val (.ref b1)] [(.int aa), (.ref b1)])
  refine own_step (fun t k => XS.iconst X15.here hx rfl (hb hby at_160) k) ?_
  show own_Fin _ _ _ _ _ _ _ _ (mkF m 161 #[.val (.long q1), .second, .val (.int p2), .val (.int p3), .val (.int p4), .val (.int aa), .val (.int (p3 ^^^ p4)), .val (.ref b1)] [(.int (3 : Int32)), (.int aa), (.ref b1)])
  refine own_step (fun t k => XS.iadd X15.here hx rfl (hb hby at_161) rfl k) ?_
  show own_Fin _ _ _ _ _ _ _ _ (mkF m 162 #[.val (.long q1), .second, .val (.int p2), .val (.int p3), .val (.int p4), .val (.int aa), .val (.int (p3 ^^^ p4)), .val (.ref b1)] [(.int (aa + (3 : Int32))), (.ref b1)])
  refine own_step (fun t k => XS.lloadN X15.here hx rfl (hb hby at_162) rfl k) ?_
  show own_Fin _ _ _ _ _ _ _ _ (mkF m 163 #[.val (.long q1), .second, .val (.int p2), .val (.int p3), .val (.int p4), .val (.int aa), .val (.int (p3 ^^^ p4)), .val (.ref b1)] [(.long q1), (.int (aa + (3 : Int32))), (.ref b1)])
  refine own_step (fun t k => XS.bipush X15.here hx rfl (hb hby at_163) k) ?_
  show own_Fin _ _ _ _ _ _ _ _ (mkF m 165 #[.val (.long q1), .second, .val (.int p2), .val (.int p3), .val (.int p4), .val (.int aa), .val (.int (p3 ^^^ p4)), .val (.ref b1)] [(.int (32 : Int32)), (.long q1), (.int (aa + (3 : Int32))), (.ref b1)])
  refine own_step (fun t k => XS.lushr X15.here hx rfl (hb hby at_165) rfl k) ?_
  show own_Fin _ _ _ _ _ _ _ _ (mkF m 166 #[.val (.long q1), .second, .val (.int p2), .val (.int p3), .val (.int p4), .val (.int aa), .val (.int (p3 ^^^ p4)), .val (.ref b1)] [(.long ((q1.toUInt64 >>> ((32 : Int32) &&& 0x3f).toInt64.toUInt64).toInt64)), (.int (aa + (3 : Int32))), (.ref b1)])
  refine own_step (fun t k => XS.l2i X15.here hx rfl (hb hby at_166) rfl k) ?_
  show own_Fin _ _ _ _ _ _ _ _ (mkF m 167 #[.val (.long q1), .second, .val (.int p2), .val (.int p3), .val (.int p4), .val (.int aa), .val (.int (p3 ^^^ p4)), .val (.ref b1)] [(.int (((q1.toUInt64 >>> ((32 : Int32) &&& 0x3f).toInt64.toUInt64).toInt64).toInt32)), (.int (aa + (3 : Int32))), (.ref b1)])
  refine own_step (fun t k => XS.i2b X15.here hx rfl (hb hby at_167) rfl k) ?_
  show own_Fin _ _ _ _ _ _ _ _ (mkF m 168 #[.val (.long q1), .second, .val (.int p2), .val (.int p3), .val (.int p4), .val (.int aa), .val (.int (p3 ^^^ p4)), .val (.ref b1)] [(.int ((((q1.toUInt64 >>> ((32 : Int32) &&& 0x3f).toInt64.toUInt64).toInt64).toInt32).toInt8.toInt32)), (.int (aa + (3 : Int32))), (.ref b1)])
  obtain ⟨T16, h16, X16, e16, W16, B16, st16⟩ := own_bastore X15 hx hZ e15 V_b1 (j := (aa + (3 : Int32))) (k := aa.toInt.toNat + 3) (by rw [own_ix aa 3 3 (by decide) (by omega) (by omega) (by omega) (by omega)]; omega) (by omega) (own_nar8 _) (x := ((((q1.toUInt64 >>> ((32 : Int32) &&& 0x3f).toInt64.toUInt64).toInt64).toInt32).toInt8.toInt32)) (pc := 168) (Ls := #[.val (.long q1), .second, .val (.int p2), .val (.int p3), .val (.int p4), .val (.int aa), .val (.int (p3 ^^^ p4)), .val (.ref b1)]) (rest := []) (hb hby at_168) rfl
  refine own_step st16 ?_
  replace Zs : n0 ≤ h16.size := by rw [W16.size]; exact Zs
  replace V_b1 := B16
  replace Nf := Fr.snoc X16 Nf g_b1
  show own_Fin _ _ _ _ _ _ _ _ (mkF m 169 #[.val (.long q1), .second, .val (.int p2), .val (.int p3), .val (.int p4), .val (.int aa), .val (.int (p3 ^^^ p4)), .val (.ref b1)] [])
  refine own_step (fun t k => XS.aload X16.here hx rfl (hb hby at_169) rfl rfl k) ?_
  show own_Fin _ _ _ _ _ _ _ _ (mkF m 171 #[.val (.long q1), .second, .val (.int p2), .val (.int p3), .val (.int p4), .val (.int aa), .val (.int (p3 ^^^ p4)), .val (.ref b1)] [(.ref b1)])
  refine own_step (fun t k => XS.iload X16.here hx rfl (hb hby at_171) rfl k) ?_
  show own_Fin _ _ _ _ _ _ _ _ (mkF m 173 #[.val (.long q1), .second, .val (.int p2), .val (.int p3), .val (.int p4), .val (.int aa), .val (.int (p3 ^^^ p4)), .val (.ref b1)] [(.int aa), (.ref b1)])
  refine own_step (fun t k => XS.iconst X16.here hx rfl (hb hby at_173) k) ?_
  show own_Fin _ _ _ _ _ _ _ _ (mkF m 174 #[.val (.long q1), .second, .val (.int p2), .val (.int p3), .val (.int p4), .val (.int aa), .val (.int (p3 ^^^ p4)), .val (.ref b1)] [(.int (4 : Int32)), (.int aa), (.ref b1)])
  refine own_step (fun t k => XS.iadd X16.here hx rfl (hb hby at_174) rfl k) ?_
  show own_Fin _ _ _ _ _ _ _ _ (mkF m 175 #[.val (.long q1), .second, .val (.int p2), .val (.int p3), .val (.int p4), .val (.int aa), .val (.int (p3 ^^^ p4)), .val (.ref b1)] [(.int (aa + (4 : Int32))), (.ref b1)])
  refine own_step (fun t k => XS.lloadN X16.here hx rfl (hb hby at_175) rfl k) ?_
  show own_Fin _ _ _ _ _ _ _ _ (mkF m 176 #[.val (.long q1), .second, .val (.int p2), .val (.int p3), .val (.int p4), .val (.int aa), .val (.int (p3 ^^^ p4)), .val (.ref b1)] [(.long q1), (.int (aa + (4 : Int32))), (.ref b1)])
  refine own_step (fun t k => XS.bipush X16.here hx rfl (hb hby at_176) k) ?_
  show own_Fin _ _ _ _ _ _ _ _ (mkF m 178 #[.val (.long q1), .second, .val (.int p2), .val (.int p3), .val (.int p4), .val (.int aa), .val (.int (p3 ^^^ p4)), .val (.ref b1)] [(.int (24 : Int32)), (.long q1), (.int (aa + (4 : Int32))), (.ref b1)])
  refine own_step (fun t k => XS.lushr X16.here hx rfl (hb hby at_178) rfl k) ?_
  show own_Fin _ _ _ _ _ _ _ _ (mkF m 179 #[.val (.long q1), .second, .val (.int p2), .val (.int p3), .val (.int p4), .val (.int aa), .val (.int (p3 ^^^ p4)), .val (.ref b1)] [(.long ((q1.toUInt64 >>> ((24 : Int32) &&& 0x3f).toInt64.toUInt64).toInt64)), (.int (aa + (4 : Int32))), (.ref b1)])
  refine own_step (fun t k => XS.l2i X16.here hx rfl (hb hby at_179) rfl k) ?_
  show own_Fin _ _ _ _ _ _ _ _ (mkF m 180 #[.val (.long q1), .second, .val (.int p2), .val (.int p3), .val (.int p4), .val (.int aa), .val (.int (p3 ^^^ p4)), .val (.ref b1)] [(.int (((q1.toUInt64 >>> ((24 : Int32) &&& 0x3f).toInt64.toUInt64).toInt64).toInt32)), (.int (aa + (4 : Int32))), (.ref b1)])
  refine own_step (fun t k => XS.i2b X16.here hx rfl (hb hby at_180) rfl k) ?_
  show own_Fin _ _ _ _ _ _ _ _ (mkF m 181 #[.val (.long q1), .second, .val (.int p2), .val (.int p3), .val (.int p4), .val (.int aa), .val (.int (p3 ^^^ p4)), .val (.ref b1)] [(.int ((((q1.toUInt64 >>> ((24 : Int32) &&& 0x3f).toInt64.toUInt64).toInt64).toInt32).toInt8.toInt32)), (.int (aa + (4 : Int32))), (.ref b1)])
  obtain ⟨T17, h17, X17, e17, W17, B17, st17⟩ := own_bastore X16 hx hZ e16 V_b1 (j := (aa + (4 : Int32))) (k := aa.toInt.toNat + 4) (by rw [own_ix aa 4 4 (by decide) (by omega) (by omega) (by omega) (by omega)]; omega) (by omega) (own_nar8 _) (x := ((((q1.toUInt64 >>> ((24 : Int32) &&& 0x3f).toInt64.toUInt64).toInt64).toInt32).toInt8.toInt32)) (pc := 181) (Ls := #[.val (.long q1), .second, .val (.int p2), .val (.int p3), .val (.int p4), .val (.int aa), .val (.int (p3 ^^^ p4)), .val (.ref b1)]) (rest := []) (hb hby at_181) rfl
  refine own_step st17 ?_
  replace Zs : n0 ≤ h17.size := by rw [W17.size]; exact Zs
  replace V_b1 := B17
  replace Nf := Fr.snoc X17 Nf g_b1
  show own_Fin _ _ _ _ _ _ _ _ (mkF m 182 #[.val (.long q1), .second, .val (.int p2), .val (.int p3), .val (.int p4), .val (.int aa), .val (.int (p3 ^^^ p4)), .val (.ref b1)] [])
  refine own_step (fun t k => XS.aload X17.here hx rfl (hb hby at_182) rfl rfl k) ?_
  show own_Fin _ _ _ _ _ _ _ _ (mkF m 184 #[.val (.long q1), .second, .val (.int p2), .val (.int p3), .val (.int p4), .val (.int aa), .val (.int (p3 ^^^ p4)), .val (.ref b1)] [(.ref b1)])
  refine own_step (fun t k => XS.iload X17.here hx rfl (hb hby at_184) rfl k) ?_
  show own_Fin _ _ _ _ _ _ _ _ (mkF m 186 #[.val (.long q1), .second, .val (.int p2), .val (.int p3), .val (.int p4), .val (.int aa), .val (.int (p3 ^^^ p4)), .val (.ref b1)] [(.int aa), (.ref b1)])
  refine own_step (fun t k => XS.iconst X17.here hx rfl (hb hby at_186) k) ?_
  show own_Fin _ _ _ _ _ _ _ _ (mkF m 187 #[.val (.long q1), .second, .val (.int p2), .val (.int p3), .val (.int p4), .val (.int aa), .val (.int (p3 ^^^ p4)), .val (.ref b1)] [(.int (5 : Int32)), (.int aa), (.ref b1)])
  refine own_step (fun t k => XS.iadd X17.here hx rfl (hb hby at_187) rfl k) ?_
  show own_Fin _ _ _ _ _ _ _ _ (mkF m 188 #[.val (.long q1), .second, .val (.int p2), .val (.int p3), .val (.int p4), .val (.int aa), .val (.int (p3 ^^^ p4)), .val (.ref b1)] [(.int (aa + (5 : Int32))), (.ref b1)])
  refine own_step (fun t k => XS.lloadN X17.here hx rfl (hb hby at_188) rfl k) ?_
  show own_Fin _ _ _ _ _ _ _ _ (mkF m 189 #[.val (.long q1), .second, .val (.int p2), .val (.int p3), .val (.int p4), .val (.int aa), .val (.int (p3 ^^^ p4)), .val (.ref b1)] [(.long q1), (.int (aa + (5 : Int32))), (.ref b1)])
  refine own_step (fun t k => XS.bipush X17.here hx rfl (hb hby at_189) k) ?_
  show own_Fin _ _ _ _ _ _ _ _ (mkF m 191 #[.val (.long q1), .second, .val (.int p2), .val (.int p3), .val (.int p4), .val (.int aa), .val (.int (p3 ^^^ p4)), .val (.ref b1)] [(.int (16 : Int32)), (.long q1), (.int (aa + (5 : Int32))), (.ref b1)])
  refine own_step (fun t k => XS.lushr X17.here hx rfl (hb hby at_191) rfl k) ?_
  show own_Fin _ _ _ _ _ _ _ _ (mkF m 192 #[.val (.long q1), .second, .val (.int p2), .val (.int p3), .val (.int p4), .val (.int aa), .val (.int (p3 ^^^ p4)), .val (.ref b1)] [(.long ((q1.toUInt64 >>> ((16 : Int32) &&& 0x3f).toInt64.toUInt64).toInt64)), (.int (aa + (5 : Int32))), (.ref b1)])
  refine own_step (fun t k => XS.l2i X17.here hx rfl (hb hby at_192) rfl k) ?_
  show own_Fin _ _ _ _ _ _ _ _ (mkF m 193 #[.val (.long q1), .second, .val (.int p2), .val (.int p3), .val (.int p4), .val (.int aa), .val (.int (p3 ^^^ p4)), .val (.ref b1)] [(.int (((q1.toUInt64 >>> ((16 : Int32) &&& 0x3f).toInt64.toUInt64).toInt64).toInt32)), (.int (aa + (5 : Int32))), (.ref b1)])
  refine own_step (fun t k => XS.i2b X17.here hx rfl (hb hby at_193) rfl k) ?_
  show own_Fin _ _ _ _ _ _ _ _ (mkF m 194 #[.val (.long q1), .second, .val (.int p2), .val (.int p3), .val (.int p4), .val (.int aa), .val (.int (p3 ^^^ p4)), .val (.ref b1)] [(.int ((((q1.toUInt64 >>> ((16 : Int32) &&& 0x3f).toInt64.toUInt64).toInt64).toInt32).toInt8.toInt32)), (.int (aa + (5 : Int32))), (.ref b1)])
  obtain ⟨T18, h18, X18, e18, W18, B18, st18⟩ := own_bastore X17 hx hZ e17 V_b1 (j := (aa + (5 : Int32))) (k := aa.toInt.toNat + 5) (by rw [own_ix aa 5 5 (by decide) (by omega) (by omega) (by omega) (by omega)]; omega) (by omega) (own_nar8 _) (x := ((((q1.toUInt64 >>> ((16 : Int32) &&& 0x3f).toInt64.toUInt64).toInt64).toInt32).toInt8.toInt32)) (pc := 194) (Ls := #[.val (.long q1), .second, .val (.int p2), .val (.int p3), .val (.int p4), .val (.int aa), .val (.int (p3 ^^^ p4)), .val (.ref b1)]) (rest := []) (hb hby at_194) rfl
  refine own_step st18 ?_
  replace Zs : n0 ≤ h18.size := by rw [W18.size]; exact Zs
  replace V_b1 := B18
  replace Nf := Fr.snoc X18 Nf g_b1
  show own_Fin _ _ _ _ _ _ _ _ (mkF m 195 #[.val (.long q1), .second, .val (.int p2), .val (.int p3), .val (.int p4), .val (.int aa), .val (.int (p3 ^^^ p4)), .val (.ref b1)] [])
  refine own_step (fun t k => XS.aload X18.here hx rfl (hb hby at_195) rfl rfl k) ?_
  show own_Fin _ _ _ _ _ _ _ _ (mkF m 197 #[.val (.long q1), .second, .val (.int p2), .val (.int p3), .val (.int p4), .val (.int aa), .val (.int (p3 ^^^ p4)), .val (.ref b1)] [(.ref b1)])
  refine own_step (fun t k => XS.iload X18.here hx rfl (hb hby at_197) rfl k) ?_
  show own_Fin _ _ _ _ _ _ _ _ (mkF m 199 #[.val (.long q1), .second, .val (.int p2), .val (.int p3), .val (.int p4), .val (.int aa), .val (.int (p3 ^^^ p4)), .val (.ref b1)] [(.int aa), (.ref b1)])
  refine own_step (fun t k => XS.bipush X18.here hx rfl (hb hby at_199) k) ?_
  show own_Fin _ _ _ _ _ _ _ _ (mkF m 201 #[.val (.long q1), .second, .val (.int p2), .val (.int p3), .val (.int p4), .val (.int aa), .val (.int (p3 ^^^ p4)), .val (.ref b1)] [(.int (6 : Int32)), (.int aa), (.ref b1)])
  refine own_step (fun t k => XS.iadd X18.here hx rfl (hb hby at_201) rfl k) ?_
  show own_Fin _ _ _ _ _ _ _ _ (mkF m 202 #[.val (.long q1), .second, .val (.int p2), .val (.int p3), .val (.int p4), .val (.int aa), .val (.int (p3 ^^^ p4)), .val (.ref b1)] [(.int (aa + (6 : Int32))), (.ref b1)])
  refine own_step (fun t k => XS.lloadN X18.here hx rfl (hb hby at_202) rfl k) ?_
  show own_Fin _ _ _ _ _ _ _ _ (mkF m 203 #[.val (.long q1), .second, .val (.int p2), .val (.int p3), .val (.int p4), .val (.int aa), .val (.int (p3 ^^^ p4)), .val (.ref b1)] [(.long q1), (.int (aa + (6 : Int32))), (.ref b1)])
  refine own_step (fun t k => XS.bipush X18.here hx rfl (hb hby at_203) k) ?_
  show own_Fin _ _ _ _ _ _ _ _ (mkF m 205 #[.val (.long q1), .second, .val (.int p2), .val (.int p3), .val (.int p4), .val (.int aa), .val (.int (p3 ^^^ p4)), .val (.ref b1)] [(.int (8 : Int32)), (.long q1), (.int (aa + (6 : Int32))), (.ref b1)])
  refine own_step (fun t k => XS.lushr X18.here hx rfl (hb hby at_205) rfl k) ?_
  show own_Fin _ _ _ _ _ _ _ _ (mkF m 206 #[.val (.long q1), .second, .val (.int p2), .val (.int p3), .val (.int p4), .val (.int aa), .val (.int (p3 ^^^ p4)), .val (.ref b1)] [(.long ((q1.toUInt64 >>> ((8 : Int32) &&& 0x3f).toInt64.toUInt64).toInt64)), (.int (aa + (6 : Int32))), (.ref b1)])
  refine own_step (fun t k => XS.l2i X18.here hx rfl (hb hby at_206) rfl k) ?_
  show own_Fin _ _ _ _ _ _ _ _ (mkF m 207 #[.val (.long q1), .second, .val (.int p2), .val (.int p3), .val (.int p4), .val (.int aa), .val (.int (p3 ^^^ p4)), .val (.ref b1)] [(.int (((q1.toUInt64 >>> ((8 : Int32) &&& 0x3f).toInt64.toUInt64).toInt64).toInt32)), (.int (aa + (6 : Int32))), (.ref b1)])
  refine own_step (fun t k => XS.i2b X18.here hx rfl (hb hby at_207) rfl k) ?_
  show own_Fin _ _ _ _ _ _ _ _ (mkF m 208 #[.val (.long q1), .second, .val (.int p2), .val (.int p3), .val (.int p4), .val (.int aa), .val (.int (p3 ^^^ p4)), .val (.ref b1)] [(.int ((((q1.toUInt64 >>> ((8 : Int32) &&& 0x3f).toInt64.toUInt64).toInt64).toInt32).toInt8.toInt32)), (.int (aa + (6 : Int32))), (.ref b1)])
  obtain ⟨T19, h19, X19, e19, W19, B19, st19⟩ := own_bastore X18 hx hZ e18 V_b1 (j := (aa + (6 : Int32))) (k := aa.toInt.toNat + 6) (by rw [own_ix aa 6 6 (by decide) (by omega) (by omega) (by omega) (by omega)]; omega) (by omega) (own_nar8 _) (x := ((((q1.toUInt64 >>> ((8 : Int32) &&& 0x3f).toInt64.toUInt64).toInt64).toInt32).toInt8.toInt32)) (pc := 208) (Ls := #[.val (.long q1), .second, .val (.int p2), .val (.int p3), .val (.int p4), .val (.int aa), .val (.int (p3 ^^^ p4)), .val (.ref b1)]) (rest := []) (hb hby at_208) rfl
  refine own_step st19 ?_
  replace Zs : n0 ≤ h19.size := by rw [W19.size]; exact Zs
  replace V_b1 := B19
  replace Nf := Fr.snoc X19 Nf g_b1
  show own_Fin _ _ _ _ _ _ _ _ (mkF m 209 #[.val (.long q1), .second, .val (.int p2), .val (.int p3), .val (.int p4), .val (.int aa), .val (.int (p3 ^^^ p4)), .val (.ref b1)] [])
  refine own_step (fun t k => XS.aload X19.here hx rfl (hb hby at_209) rfl rfl k) ?_
  show own_Fin _ _ _ _ _ _ _ _ (mkF m 211 #[.val (.long q1), .second, .val (.int p2), .val (.int p3), .val (.int p4), .val (.int aa), .val (.int (p3 ^^^ p4)), .val (.ref b1)] [(.ref b1)])
  refine own_step (fun t k => XS.iload X19.here hx rfl (hb hby at_211) rfl k) ?_
  show own_Fin _ _ _ _ _ _ _ _ (mkF m 213 #[.val (.long q1), .second, .val (.int p2), .val (.int p3), .val (.int p4), .val (.int aa), .val (.int (p3 ^^^ p4)), .val (.ref b1)] [(.int aa), (.ref b1)])
  refine own_step (fun t k => XS.bipush X19.here hx rfl (hb hby at_213) k) ?_
  show own_Fin _ _ _ _ _ _ _ _ (mkF m 215 #[.val (.long q1), .second, .val (.int p2), .val (.int p3), .val (.int p4), .val (.int aa), .val (.int (p3 ^^^ p4)), .val (.ref b1)] [(.int (7 : Int32)), (.int aa), (.ref b1)])
  refine own_step (fun t k => XS.iadd X19.here hx rfl (hb hby at_215) rfl k) ?_
  show own_Fin _ _ _ _ _ _ _ _ (mkF m 216 #[.val (.long q1), .second, .val (.int p2), .val (.int p3), .val (.int p4), .val (.int aa), .val (.int (p3 ^^^ p4)), .val (.ref b1)] [(.int (aa + (7 : Int32))), (.ref b1)])
  refine own_step (fun t k => XS.lloadN X19.here hx rfl (hb hby at_216) rfl k) ?_
  show own_Fin _ _ _ _ _ _ _ _ (mkF m 217 #[.val (.long q1), .second, .val (.int p2), .val (.int p3), .val (.int p4), .val (.int aa), .val (.int (p3 ^^^ p4)), .val (.ref b1)] [(.long q1), (.int (aa + (7 : Int32))), (.ref b1)])
  refine own_step (fun t k => XS.l2i X19.here hx rfl (hb hby at_217) rfl k) ?_
  show own_Fin _ _ _ _ _ _ _ _ (mkF m 218 #[.val (.long q1), .second, .val (.int p2), .val (.int p3), .val (.int p4), .val (.int aa), .val (.int (p3 ^^^ p4)), .val (.ref b1)] [(.int (q1.toInt32)), (.int (aa + (7 : Int32))), (.ref b1)])
  refine own_step (fun t k => XS.i2b X19.here hx rfl (hb hby at_218) rfl k) ?_
  show own_Fin _ _ _ _ _ _ _ _ (mkF m 219 #[.val (.long q1), .second, .val (.int p2), .val (.int p3), .val (.int p4), .val (.int aa), .val (.int (p3 ^^^ p4)), .val (.ref b1)] [(.int ((q1.toInt32).toInt8.toInt32)), (.int (aa + (7 : Int32))), (.ref b1)])
  obtain ⟨T20, h20, X20, e20, W20, B20, st20⟩ := own_bastore X19 hx hZ e19 V_b1 (j := (aa + (7 : Int32))) (k := aa.toInt.toNat + 7) (by rw [own_ix aa 7 7 (by decide) (by omega) (by omega) (by omega) (by omega)]; omega) (by omega) (own_nar8 _) (x := ((q1.toInt32).toInt8.toInt32)) (pc := 219) (Ls := #[.val (.long q1), .second, .val (.int p2), .val (.int p3), .val (.int p4), .val (.int aa), .val (.int (p3 ^^^ p4)), .val (.ref b1)]) (rest := []) (hb hby at_219) rfl
  refine own_step st20 ?_
  replace Zs : n0 ≤ h20.size := by rw [W20.size]; exact Zs
  replace V_b1 := B20
  replace Nf := Fr.snoc X20 Nf g_b1
  show own_Fin _ _ _ _ _ _ _ _ (mkF m 220 #[.val (.long q1), .second, .val (.int p2), .val (.int p3), .val (.int p4), .val (.int aa), .val (.int (p3 ^^^ p4)), .val (.ref b1)] [])
  obtain ⟨fE, V_b1, hf0, hf1, hf2, hf3, hf4, hf5, hf6, hf7⟩ : ∃ f, own_AI Z h20 b1 .byte 11 f ∧ f (aa.toInt.toNat) = ((((q1.toUInt64 >>> ((56 : Int32) &&& 0x3f).toInt64.toUInt64).toInt64).toInt32).toInt8.toInt32) ∧ f (aa.toInt.toNat + 1) = ((((q1.toUInt64 >>> ((48 : Int32) &&& 0x3f).toInt64.toUInt64).toInt64).toInt32).toInt8.toInt32) ∧ f (aa.toInt.toNat + 2) = ((((q1.toUInt64 >>> ((40 : Int32) &&& 0x3f).toInt64.toUInt64).toInt64).toInt32).toInt8.toInt32) ∧ f (aa.toInt.toNat + 3) = ((((q1.toUInt64 >>> ((32 : Int32) &&& 0x3f).toInt64.toUInt64).toInt64).toInt32).toInt8.toInt32) ∧ f (aa.toInt.toNat + 4) = ((((q1.toUInt64 >>> ((24 : Int32) &&& 0x3f).toInt64.toUInt64).toInt64).toInt32).toInt8.toInt32) ∧ f (aa.toInt.toNat + 5) = ((((q1.toUInt64 >>> ((16 : Int32) &&& 0x3f).toInt64.toUInt64).toInt64).toInt32).toInt8.toInt32) ∧ f (aa.toInt.toNat + 6) = ((((q1.toUInt64 >>> ((8 : Int32) &&& 0x3f).toInt64.toUInt64).toInt64).toInt32).toInt8.toInt32) ∧ f (aa.toInt.toNat + 7) = ((q1.toInt32).toInt8.toInt32) := ⟨_, V_b1, by simp, by simp, by simp, by simp, by simp, by simp, by simp, by simp⟩
  refine own_step (fun t k => XS.aload X20.here hx rfl (hb hby at_220) rfl rfl k) ?_
  show own_Fin _ _ _ _ _ _ _ _ (mkF m 222 #[.val (.long q1), .second, .val (.int p2), .val (.int p3), .val (.int p4), .val (.int aa), .val (.int (p3 ^^^ p4)), .val (.ref b1)] [(.ref b1)])
  refine own_step (fun t k => XS.iload X20.here hx rfl (hb hby at_222) rfl k) ?_
  show own_Fin _ _ _ _ _ _ _ _ (mkF m 224 #[.val (.long q1), .second, .val (.int p2), .val (.int p3), .val (.int p4), .val (.int aa), .val (.int (p3 ^^^ p4)), .val (.ref b1)] [(.int aa), (.ref b1)])
  obtain ⟨_, _, ⟨T21, L21, k21, n21⟩, -, X21, ⟨Lc21, hQ21, l21, y21, z21⟩, st21⟩ := Jvm.LawKit.callS X20 hx (y := (⟨"com/example/pcr10/pcr10/ScratchBytes", "longAt", "([BI)J"⟩ : MethodName)) hown (mvT hZ (hw _ (List.mem_of_getElem? (i := 1) rfl))) (mvT hZ (hw _ (List.mem_of_getElem? (i := 2) rfl))) (mvT hZ (hw _ (List.mem_of_getElem? (i := 3) rfl))) (mvT hZ (hw _ (List.mem_of_getElem? (i := 4) rfl))) (by decide) (backOf (W := 0) (rm1 l Z a0 hw [] b1 aa _ h20 n0 Zs V_b1 (by omega)) hZ (hw _ (List.mem_of_getElem? (i := 4) rfl)) (hw _ (List.mem_of_getElem? (i := 3) rfl)) (by decide) (by decide)) (g := (mkF m 224 #[.val (.long q1), .second, .val (.int p2), .val (.int p3), .val (.int p4), .val (.int aa), .val (.int (p3 ^^^ p4)), .val (.ref b1)] [(.int aa), (.ref b1)])) rfl (by rw [hml]; rfl) (argsL := [(.ref b1), (.int aa)]) (rest := []) (lenOf own_pd_0 rfl) rfl (by show 2 * 0 + _ ≤ _; exact Nat.le_of_eq rfl) (hb hby at_224) (fun _ _ => ⟨rfl, e20, (by decide : 1 + 0 ≤ _), (by decide : 11 + 0 ≤ _)⟩)
  dsimp only [Pt.U, Pt.locs, Pt.cells, Pt.slots] at X21 l21 y21 z21 st21 hQ21
  subst l21 y21 z21
  obtain ⟨rfl, Nq21, hh21⟩ := hQ21
  replace Nf := Fr.app Nf Nq21
  refine own_step st21 ?_
  show own_Fin _ _ _ _ _ _ _ _ (mkF m 227 #[.val (.long q1), .second, .val (.int p2), .val (.int p3), .val (.int p4), .val (.int aa), .val (.int (p3 ^^^ p4)), .val (.ref b1)] [(.long (own_la (fE (aa.toInt.toNat)) (fE (aa.toInt.toNat + 1)) (fE (aa.toInt.toNat + 2)) (fE (aa.toInt.toNat + 3)) (fE (aa.toInt.toNat + 4)) (fE (aa.toInt.toNat + 5)) (fE (aa.toInt.toNat + 6)) (fE (aa.toInt.toNat + 7))))])
  refine own_step (fun t k => XS.lloadN X21.here hx rfl (hb hby at_227) rfl k) ?_
  show own_Fin _ _ _ _ _ _ _ _ (mkF m 228 #[.val (.long q1), .second, .val (.int p2), .val (.int p3), .val (.int p4), .val (.int aa), .val (.int (p3 ^^^ p4)), .val (.ref b1)] [(.long q1), (.long (own_la (fE (aa.toInt.toNat)) (fE (aa.toInt.toNat + 1)) (fE (aa.toInt.toNat + 2)) (fE (aa.toInt.toNat + 3)) (fE (aa.toInt.toNat + 4)) (fE (aa.toInt.toNat + 5)) (fE (aa.toInt.toNat + 6)) (fE (aa.toInt.toNat + 7))))])
  refine own_step (fun t k => XS.lcmp X21.here hx rfl (hb hby at_228) rfl k) ?_
  show own_Fin _ _ _ _ _ _ _ _ (mkF m 229 #[.val (.long q1), .second, .val (.int p2), .val (.int p3), .val (.int p4), .val (.int aa), .val (.int (p3 ^^^ p4)), .val (.ref b1)] [(.int (lcmpW (own_la (fE (aa.toInt.toNat)) (fE (aa.toInt.toNat + 1)) (fE (aa.toInt.toNat + 2)) (fE (aa.toInt.toNat + 3)) (fE (aa.toInt.toNat + 4)) (fE (aa.toInt.toNat + 5)) (fE (aa.toInt.toNat + 6)) (fE (aa.toInt.toNat + 7))) q1))])
  have hc22 : ((own_la (fE (aa.toInt.toNat)) (fE (aa.toInt.toNat + 1)) (fE (aa.toInt.toNat + 2)) (fE (aa.toInt.toNat + 3)) (fE (aa.toInt.toNat + 4)) (fE (aa.toInt.toNat + 5)) (fE (aa.toInt.toNat + 6)) (fE (aa.toInt.toNat + 7)))).toInt = (q1).toInt := by rw [hf0, hf1, hf2, hf3, hf4, hf5, hf6, hf7, own_la_v]
  refine own_step (fun t k => XS.ifNo X21.here hx rfl (hb hby at_229) rfl (own_le (x := (own_la (fE (aa.toInt.toNat)) (fE (aa.toInt.toNat + 1)) (fE (aa.toInt.toNat + 2)) (fE (aa.toInt.toNat + 3)) (fE (aa.toInt.toNat + 4)) (fE (aa.toInt.toNat + 5)) (fE (aa.toInt.toNat + 6)) (fE (aa.toInt.toNat + 7)))) (y := q1) rfl rfl hc22).2 k) ?_
  show own_Fin _ _ _ _ _ _ _ _ (mkF m 232 #[.val (.long q1), .second, .val (.int p2), .val (.int p3), .val (.int p4), .val (.int aa), .val (.int (p3 ^^^ p4)), .val (.ref b1)] [])
  refine own_step (fun t k => XS.iconst X21.here hx rfl (hb hby at_232) k) ?_
  show own_Fin _ _ _ _ _ _ _ _ (mkF m 233 #[.val (.long q1), .second, .val (.int p2), .val (.int p3), .val (.int p4), .val (.int aa), .val (.int (p3 ^^^ p4)), .val (.ref b1)] [(.int (1 : Int32))])
  refine own_step (fun t k => XS.goto X21.here hx rfl (pc0 := 233) (pc' := 237) rfl (hb hby at_233) (by decide) (by decide) k) ?_
  show own_Fin _ _ _ _ _ _ _ _ (mkF m 237 #[.val (.long q1), .second, .val (.int p2), .val (.int p3), .val (.int p4), .val (.int aa), .val (.int (p3 ^^^ p4)), .val (.ref b1)] [(.int (1 : Int32))])
  refine own_retZ X21 hx hlk Bd.returns (hb hby at_237) (z' := (1 : Int32)) (by decide) (by decide) (by decide) hh21 ?_
  exact ⟨rfl, Nf⟩
set_option maxRecDepth 65536 in
set_option maxHeartbeats 40000000 in
theorem comes_1 {Post : Tables → Env → Array Value → State → Outcome → State → Prop} (hpost : ∀ tb e args s v u, (limb_1_1.after args s (.returned v) u = true ∧ limb_1_2.after args s (.returned v) u = true ∧ True) → FrameEnd s (.returned v) u (Jvm.fieldLocs frame_1_writes args s ++ Jvm.arrayLocs frame_1_arrays args s ++ Jvm.staticLocs frame_1_statics s) 16 128 → Post tb e args s (.returned v) u) :
    ArmFor flags0 classFile x code maxLocals ret World_1 tables_1 room_1 Calls_1 rest_1 Pre_1 Post := by
  intro l hfl _ _ p e ha hc hk s m args below hf hA hF happ hP
  obtain ⟨hcalls, hrest, hpre⟩ := hP
  obtain ⟨-, -, -, hnamed, -, -, -, hat⟩ := (Spec.applies_iff hf).mp happ
  obtain ⟨hg, hn⟩ := and_e (Cond.before_iff.mp (show (Jvm.Cond.and given_1 narrow_1).before args s = true from hpre))
  obtain ⟨g1, g2⟩ := and_e hg
  obtain ⟨g3, g4⟩ := and_e g2
  obtain ⟨g5, g6⟩ := and_e g4
  obtain ⟨g7, g8⟩ := and_e g6
  obtain ⟨w0, w1, w2, w3, rfl⟩ : ∃ w0 w1 w2 w3 : Value, args = #[w0, w1, w2, w3] := by
    have hs : args.size = 4 := by simpa [Cond.value, given_1] using g1
    obtain ⟨L⟩ := args
    match L, hs with
    | [w0, w1, w2, w3], _ => exact ⟨w0, w1, w2, w3, rfl⟩
  have hw := fun d (hd : d ∈ tables_1) => atoms_spec (ws := Jvm.Cond.code x code maxLocals ret :: tables_1) hat d (List.mem_cons_of_mem _ hd)
  obtain ⟨i0, ei0⟩ := isL_v g3
  obtain rfl : w0 = (.long i0) := Option.some.inj ei0
  obtain ⟨i1, ei1⟩ := is_v g5
  obtain rfl : w1 = (.int i1) := Option.some.inj ei1
  obtain ⟨i2, ei2⟩ := is_v g7
  obtain rfl : w2 = (.int i2) := Option.some.inj ei2
  obtain ⟨i3, ei3⟩ := is_v g8
  obtain rfl : w3 = (.int i3) := Option.some.inj ei3
  obtain ⟨n, o, h1, h2, h3, _, L, rfl, ⟨rfl, N⟩, hq⟩ := rm0 l s _ hw tables_1 i0 i1 i2 i3 s.heap s.heap.size (Nat.le_refl _) p e ha hc hk s m _ below hf ((Spec.applies_iff_loose hf).mp happ).1 ⟨rfl, State.Warmed39.refl s, rfl⟩ trivial
  refine ⟨n, _, h1, h2, h3, hpost _ _ _ _ _ _ ⟨Cond.after_iff.mpr rfl, Cond.after_iff.mpr (eq_i res_at (Term.int_eval (1)) rfl), trivial⟩ ⟨hq.1, hq.2.1, (hq.2.2.sift fun y hy => Or.inr (N y hy)).mono (by decide) (by decide)⟩⟩
theorem main_1_1 : Claimed_1_1 := comes_1 fun _ _ _ _ _ _ h hF => ⟨h.1, hF⟩
theorem main_1_2 : Claimed_1_2 := comes_1 fun _ _ _ _ _ _ h hF => ⟨h.2.1, hF⟩
end Jvm.Pilot.@@N@@
namespace Jvm.Pilot.@@N@@
open Jvm Jvm.ClassFile Sem Op Lib Jvm.Free Jvm.Stand Jvm.Pilot.@@N@@.Jvm.D
/-! MADE BY PROGRAM (witnessworld.py) out of the Statement's table words and the real class files: 9 classes; the members and pool entries that the words name. The judged class is class 1, her method 1. -/
namespace start1
open Jvm.ClassFile
def u (s : String) : CpInfo := .utf8 (stringToUtf16 s)
/-- a pool by its gaps: so many unusable entries, then the entry; so many at the end -/
def gap : Nat → List CpInfo → List CpInfo
  | 0, r => r
  | n + 1, r => .unusable :: gap n r
def poolList (es : List (Nat × CpInfo)) (last : Nat) : List CpInfo := es.foldr (fun e r => gap e.1 (e.2 :: r)) (gap last [])
def pool (es : List (Nat × CpInfo)) (last : Nat) : Array CpInfo := ⟨poolList es last⟩
def fileOf (pool : Array CpInfo) (this : Nat) (attrs : Array Attribute := #[]) (ms : Array MethodInfo := #[]) (fl : Nat := 33) (sup : Nat := 0) (ifs : Array Nat := #[]) (fds : Array FieldInfo := #[]) : ClassFile where
  minorVersion := 0
  majorVersion := 65
  constantPool := pool
  accessFlags := fl
  thisClass := this
  superClass := sup
  interfaces := ifs
  fields := fds
  methods := ms
  attributes := attrs
def plain (name : String) (sup : Option ClassId) : Class where
  name := name
  kind := .ordinary
  loader := none
  accessFlags := 33
  super := sup
  interfaces := #[]
  cf := none
  fields := #[]
  methods := #[]
  instanceTypes := #[]
  staticTypes := #[]
  resolved := #[]
  callSites := []
  init := .initialized
  statics := none
  mirror := none

def pool0 : Array CpInfo := pool [(5, u "<init>"), (0, u "()V"), (1, .class_ 10), (1, u "java/lang/Object")] 113

def k0m0 : Method := { name := "<init>", desc := "()V", sig := { parameters := [], returnType := none }, accessFlags := 1, code := none }
/-- java/lang/Object -/
def k0 : Class := { plain "java/lang/Object" none with
  accessFlags := 33
  interfaces := #[]
  cf := some (fileOf pool0 8 #[] #[{ accessFlags := 1, nameIndex := 5, descriptorIndex := 6, attributes := #[] }] 33 0 #[] #[])
  fields := #[]
  methods := #[k0m0]
  instanceTypes := #[]
  staticTypes := #[]
  resolved := Array.replicate 124 none
  statics := none }

def pool1 : Array CpInfo := pool [(2, .class_ 4), (1, u "java/lang/Object"), (0, u "<init>"), (0, u "()V"), (0, .methodref 8 9), (0, .class_ 10), (0, .nameAndType 11 12), (0, u "com/example/pcr10/pcr10/ScratchBytes"), (0, u "longAt"), (0, u "([BI)J"), (0, .class_ 14), (0, u "com/example/pcr10/pcr10/ScratchBytesLongAtPinLaw"), (2, u "law"), (0, u "(JIII)Z")] 5

def k1m0 : Method := { name := "<init>", desc := "()V", sig := { parameters := [], returnType := none }, accessFlags := 1, code := none }
def k1c1 : Code := { maxStack := 5, maxLocals := 8, code := code, exceptionTable := #[], attributes := #[] }
def k1m1 : Method := { name := "law", desc := "(JIII)Z", sig := { parameters := [.long, .int, .int, .int], returnType := some .boolean }, accessFlags := 9, code := some k1c1 }
/-- com/example/pcr10/pcr10/ScratchBytesLongAtPinLaw -/
def k1 : Class := { plain "com/example/pcr10/pcr10/ScratchBytesLongAtPinLaw" (some 0) with
  accessFlags := 49
  interfaces := #[]
  cf := some (fileOf pool1 13 #[] #[{ accessFlags := 1, nameIndex := 5, descriptorIndex := 6, attributes := #[] }, { accessFlags := 9, nameIndex := 17, descriptorIndex := 18, attributes := #[] }] 49 2 #[] #[])
  fields := #[]
  methods := #[k1m0, k1m1]
  instanceTypes := #[]
  staticTypes := #[]
  resolved := Array.replicate 24 none
  statics := none }

def pool2 : Array CpInfo := pool [(2, .class_ 4), (1, u "java/lang/Object"), (3, .class_ 10), (1, u "com/example/pcr10/pcr10/ScratchBytes"), (0, u "bytes"), (0, u "[B"), (2, u "next"), (0, u "I"), (14, u "longAt"), (0, u "([BI)J"), (0, .long 255)] 16

def k2c0 : Code := { maxStack := 6, maxLocals := 2, code := prog_24_method_10_code, exceptionTable := #[], attributes := #[] }
def k2m0 : Method := { name := "longAt", desc := "([BI)J", sig := { parameters := [(.array .byte), .int], returnType := some .long }, accessFlags := 8, code := some k2c0 }
/-- com/example/pcr10/pcr10/ScratchBytes -/
def k2 : Class := { plain "com/example/pcr10/pcr10/ScratchBytes" (some 0) with
  accessFlags := 48
  interfaces := #[]
  cf := some (fileOf pool2 8 #[] #[{ accessFlags := 8, nameIndex := 31, descriptorIndex := 32, attributes := #[] }] 48 2 #[] #[{ accessFlags := 18, nameIndex := 11, descriptorIndex := 12, attributes := #[] }, { accessFlags := 2, nameIndex := 15, descriptorIndex := 16, attributes := #[] }])
  fields := #[{ name := "bytes", type := (.array .byte), accessFlags := 18, slot := 0, constantValue := 0 }, { name := "next", type := .int, accessFlags := 2, slot := 1, constantValue := 0 }]
  methods := #[k2m0]
  instanceTypes := #[(.array .byte), .int]
  staticTypes := #[]
  resolved := Array.replicate 50 none
  statics := none }

def pool3 : Array CpInfo := pool [(1, u "java/lang/Cloneable"), (0, .class_ 1), (0, u "java/lang/Object"), (0, .class_ 3)] 3

/-- java/lang/Cloneable -/
def k3 : Class := { plain "java/lang/Cloneable" (some 0) with
  accessFlags := 1537
  interfaces := #[]
  cf := some (fileOf pool3 2 #[] #[] 1537 4 #[] #[])
  fields := #[]
  methods := #[]
  instanceTypes := #[]
  staticTypes := #[]
  resolved := Array.replicate 8 none
  statics := none }

def pool4 : Array CpInfo := pool [(1, u "java/io/Serializable"), (0, .class_ 1), (0, u "java/lang/Object"), (0, .class_ 3)] 3

/-- java/io/Serializable -/
def k4 : Class := { plain "java/io/Serializable" (some 0) with
  accessFlags := 1537
  interfaces := #[]
  cf := some (fileOf pool4 2 #[] #[] 1537 4 #[] #[])
  fields := #[]
  methods := #[]
  instanceTypes := #[]
  staticTypes := #[]
  resolved := Array.replicate 8 none
  statics := none }

/-- the primitive byte -/
def k5 : Class := { plain "byte" none with kind := .primitive 'B', accessFlags := 0x411 }
/-- [B -/
def k6 : Class := { plain "[B" (some 0) with kind := .array 5 .byte, interfaces := #[3, 4], accessFlags := 1041 }

/-- the primitive int -/
def k7 : Class := { plain "int" none with kind := .primitive 'I', accessFlags := 0x411 }
/-- [I -/
def k8 : Class := { plain "[I" (some 0) with kind := .array 7 .int, interfaces := #[3, 4], accessFlags := 1041 }

def heap : Heap := #[]
def classes : Array Class := #[k0, k1, k2, k3, k4, k5, k6, k7, k8]
def interned : List (Array UInt16 × Addr) := []
def slotsUsed : Nat := 0
def theMethod : MethodId := ⟨1, 1⟩
def args0 : Array Value := #[.long 7, .int 5, .int 5, .int 5]
def aboutOver (below : List Frame) : State where
  vm := { classes := classes, interned := interned.toArray }
  heap := heap
  slotsUsed := slotsUsed
  threads := #[{ frames := .invoking theMethod args0 :: below }]
def below0 : List Frame := [.native { method := ⟨0, 0⟩, args := #[] }]
def about1 : State := aboutOver below0
def p0 : Program := .bare "" "" ""
def e0 : Env := launch0.env 0 0 0
theorem w_frames : about1.frames = Frame.invoking theMethod args0 :: below0 := rfl
set_option maxRecDepth 65536 in
theorem w_args : argsFit about1.vm theMethod args0 = true := by decide +kernel
set_option maxRecDepth 65536 in
theorem w_heap : heapFits about1 = true := by decide +kernel
set_option maxRecDepth 65536 in
theorem w_runnable : about1.curStatus? = some .runnable := by decide +kernel
set_option maxRecDepth 65536 in
theorem w_alone : about1.alone = true := by decide +kernel
set_option maxRecDepth 65536 in
theorem w_named : about1.methodNamed? x = some theMethod := by decide +kernel
set_option maxRecDepth 65536 in
theorem w_hears : about1.hears theMethod below0 = true := by decide +kernel
set_option maxRecDepth 65536 in
theorem w_ripe : about1.ripe theMethod args0 below0 = true := by decide +kernel
theorem w_running : about1.status = .running := rfl
set_option maxRecDepth 65536 in
theorem w_room : about1.hasRoom e0.platform room_1 = true :=
  launch0.hasRoom_least _ room_1 (by decide +kernel) (by decide +kernel) (by decide +kernel) (by decide +kernel) (by decide +kernel) (by decide +kernel)
theorem allAtoms_all (ts : List Jvm.Cond) (a : Array Jvm.Value) (st : Jvm.State) : (allAtoms ts).before a st = ts.all (fun c => c.before a st) := by
  induction ts with
  | nil => rfl
  | cons c t ih =>
    show (Jvm.Cond.and c (allAtoms t)).before a st = _
    rw [Jvm.Cond.before_and, ih, List.all_cons]
def words1 : List Jvm.Cond := Jvm.Cond.code x code maxLocals ret :: tables_1
/-- a 'code' word, met by the world's own term for the bytes: nothing is compared byte by byte -/
theorem code_word {y : MethodName} {bytes : ByteArray} {mx : Nat} {rt : Option FieldType} {a : Array Value} {s : State} {m : MethodId} {meth : Method} {c : Code} (h1 : s.methodNamed? y = some m) (h2 : s.vm.method? m = some meth) (h3 : meth.code = some c) (h4 : c.code = bytes)
    (h5 : (c.maxLocals == mx && c.exceptionTable.isEmpty && decide (c.maxStack ≤ mostOperands) && decide (meth.sig.returnType = rt) && !meth.locks && decide (parseMethodDescriptor y.desc = some meth.sig)) = true) : (Jvm.Cond.code y bytes mx rt).before a s = true := by
  simp only [Bool.and_eq_true, beq_iff_eq, Bool.not_eq_true', decide_eq_true_eq] at h5
  obtain ⟨⟨⟨⟨⟨g1, g2⟩, g3⟩, g4⟩, g5⟩, g6⟩ := h5
  simp [Cond.before, Cond.holds, Cond.value, h1, h2, h3, h4, g1, g2, g3, g4, g5, g6]
def isCode : Jvm.Cond → Bool
  | .code _ _ _ _ => true
  | _ => false
theorem all_split {L : List Jvm.Cond} {P : Jvm.Cond → Bool} (h1 : L.all (fun c => isCode c || P c) = true) (h2 : ∀ c ∈ L.filter isCode, P c = true) : L.all P = true := by
  refine List.all_eq_true.mpr fun c hc => ?_
  have h := List.all_eq_true.mp h1 c hc
  rcases Bool.eq_false_or_eq_true (isCode c) with hi | hi
  · exact h2 c (List.mem_filter.mpr ⟨hc, hi⟩)
  · simpa [hi] using h
set_option maxRecDepth 65536 in
theorem w_c0 : (Jvm.Cond.code x code maxLocals ret).before args0 about1 = true := code_word (m := ⟨1, 1⟩) (meth := k1m1) (c := k1c1) (by decide +kernel) rfl rfl rfl (by decide +kernel)
set_option maxRecDepth 65536 in
theorem w_c1 : (Jvm.Cond.code ({ cls := "com/example/pcr10/pcr10/ScratchBytes", name := "longAt", desc := "([BI)J" } : Jvm.MethodName) prog_24_method_10_code (2 : Nat) (Option.some Jvm.ClassFile.FieldType.long)).before args0 about1 = true := code_word (m := ⟨2, 0⟩) (meth := k2m0) (c := k2c0) (by decide +kernel) rfl rfl rfl (by decide +kernel)
def codes1 : List Jvm.Cond := [Jvm.Cond.code x code maxLocals ret, Jvm.Cond.code ({ cls := "com/example/pcr10/pcr10/ScratchBytes", name := "longAt", desc := "([BI)J" } : Jvm.MethodName) prog_24_method_10_code (2 : Nat) (Option.some Jvm.ClassFile.FieldType.long)]
set_option maxRecDepth 65536 in
theorem codes_eq : words1.filter isCode = codes1 := rfl
theorem w_codes : ∀ c ∈ words1.filter isCode, c.before args0 about1 = true := by
  rw [codes_eq]
  intro c hc
  simp only [codes1, List.mem_cons, List.not_mem_nil, or_false] at hc
  rcases hc with rfl | rfl
  · exact w_c0
  · exact w_c1
set_option maxRecDepth 65536 in
theorem w_t1 : words1.all (fun c => isCode c || c.before args0 about1) = true := by decide +kernel
theorem w_tables : (allAtoms (Jvm.Cond.code x code maxLocals ret :: tables_1)).before args0 about1 = true := by
  rw [allAtoms_all]
  show words1.all (fun c => c.before args0 about1) = true
  refine all_split ?_ w_codes
  rw [w_t1]
set_option maxRecDepth 65536 in
theorem w_case : (Jvm.Cond.and given_1 narrow_1).before args0 about1 = true := by decide +kernel
theorem w_applies : (headSpec (Jvm.Cond.code x code maxLocals ret :: tables_1) room_1).applies x e0.platform about1 = true :=
  (Spec.applies_iff w_frames).mpr ⟨w_running, w_runnable, w_alone, w_named, w_hears, w_ripe, w_room, w_tables⟩
theorem atStart : AtStart classFile x code maxLocals ret World_1 tables_1 room_1 Calls_1 rest_1 Pre_1 launch0 p0 e0 about1 theMethod args0 below0 :=
  ⟨lists_1, trivial, launch0.admits_env _ _ _, launch0.least_env, fairChoices_fair.cas, fairChoices_fair.clock, w_frames, w_args, w_heap, w_applies, trivial, trivial, w_case⟩
end start1
theorem witness_1 : WitnessClaimed_1 := ⟨start1.p0, start1.e0, start1.about1, start1.theMethod, start1.args0, start1.below0, start1.atStart⟩
end Jvm.Pilot.@@N@@
