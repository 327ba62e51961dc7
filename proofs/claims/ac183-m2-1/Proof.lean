import JvmDerived
import JvmDerived.Pilot.@@N@@Statement
import JvmDerived.Pilot.@@N@@Code
set_option linter.unusedVariables false
set_option linter.unusedSimpArgs false
namespace Jvm.Pilot.@@N@@
open Jvm Jvm.ClassFile Sem Op Lib Jvm.Free Jvm.Stand Jvm.LawKit Jvm.RoadKit Bundle Jvm.Pilot.@@N@@.Jvm.D
/-! Own kit. own_Fin: from this frame the run comes to the method's end, and Q holds of what it leaves. -/
def own_Fin (p : Program) (e : Env) (below : List Frame) (s : State) (Q : Option Value → Heap → List Loc → Prop) (cl sl : Nat) (T : State) (f : JFrame) : Prop :=
  ∃ s₂ o, Steps p.tables e below (T.setTop f) s₂ ∧ s₂.status = .running ∧ Ended s₂ below o ∧ (∃ v L, o = .returned v ∧ Q v s₂.heap L ∧ FrameEnd s o s₂ L cl sl)
section OwnKit
variable {p : Program} {l : Launch} {e : Env} {R : Room} {s : State} {m : MethodId} {args : Array Value} {below : List Frame} {meth : Method} {c : Code} {T : State} {locs : List Loc} {cells slots : Nat} {Q : Option Value → Heap → List Loc → Prop} {cl sl : Nat} {Z : State} {a0 : Array Value} {h h' : Heap} {a b : Addr}
theorem own_step {T' : State} {f f' : JFrame} (k : ∀ t, Steps p.tables e below (T'.setTop f') t → Steps p.tables e below (T.setTop f) t) (r : own_Fin p e below s Q cl sl T' f') : own_Fin p e below s Q cl sl T f := by
  obtain ⟨s₂, o, h1, h2⟩ := r
  exact ⟨s₂, o, k _ h1, h2⟩
theorem own_stepT {T' : State} {f f' : JFrame} (k : Steps p.tables e below (T.setTop f) (T'.setTop f')) (r : own_Fin p e below s Q cl sl T' f') : own_Fin p e below s Q cl sl T f := by
  obtain ⟨s₂, o, h1, h2⟩ := r
  exact ⟨s₂, o, k.trans h1, h2⟩
theorem own_retZ (X : Stand p l e R s m args below meth c T locs cells slots) (hx : p.tables.exec = Jvm.exec) (hlocks : meth.locks = false) (hret : meth.sig.returnType = some .boolean) {pc : Nat} {Ls : Array Slot} {z z' : Int32} {rest : List Value} (hd : decode c.code pc = .ok (.ireturn, 1))
    (hn : nar .boolean z = z') (hc : cells ≤ cl) (hs : slots ≤ sl) (hT : T.heap = h) (hq : Q (some (.int z')) h locs) : own_Fin p e below s Q cl sl T (mkF m pc Ls (.int z :: rest)) := by
  subst hn hT
  obtain ⟨fs, hr, hrun, hended, hW, hsame⟩ := X.leave (v := some (.int (nar .boolean z))) (fun h => by rw [hret] at h; cases h)
  exact ⟨_, _, retN X hx hret (by simp) hd hr, hrun, hended, _, _, rfl, hq, ⟨_, rfl⟩, hW, hsame.mono hc hs⟩
theorem own_retI (X : Stand p l e R s m args below meth c T locs cells slots) (hx : p.tables.exec = Jvm.exec) (hlocks : meth.locks = false) (hret : meth.sig.returnType = some .int) {pc : Nat} {Ls : Array Slot} {z : Int32} {rest : List Value} (hd : decode c.code pc = .ok (.ireturn, 1))
    (hc : cells ≤ cl) (hs : slots ≤ sl) (hT : T.heap = h) (hq : Q (some (.int z)) h locs) : own_Fin p e below s Q cl sl T (mkF m pc Ls (.int z :: rest)) := by
  subst hT
  obtain ⟨fs, hr, hrun, hended, hW, hsame⟩ := X.leave (v := some (.int z)) (fun h => by rw [hret] at h; cases h)
  refine ⟨_, _, ?_, hrun, hended, _, _, rfl, hq, ⟨_, rfl⟩, hW, hsame.mono hc hs⟩
  have hm' : T.vm.method? m = some meth := X.method'
  have hn : narrow .int (.int z) = .int z := rfl
  show Steps p.tables e below (T.setTop { method := m, pc := pc, locals := Ls, stack := _ :: rest, locked := none }) _
  jvm_step X.here [X.here.top, hx, hd, hm', hret, hn]
  first | (intro acts; rw [hr _ acts rfl rfl rfl]) | rw [hr _ _ rfl rfl rfl]
  exact Steps.refl _
theorem own_retJ (X : Stand p l e R s m args below meth c T locs cells slots) (hx : p.tables.exec = Jvm.exec) (hlocks : meth.locks = false) (hret : meth.sig.returnType = some .long) {pc : Nat} {Ls : Array Slot} {z : Int64} (hd : decode c.code pc = .ok (.lreturn, 1))
    (hc : cells ≤ cl) (hs : slots ≤ sl) (hT : T.heap = h) (hq : Q (some (.long z)) h locs) : own_Fin p e below s Q cl sl T (mkF m pc Ls [.long z]) := by
  subst hT
  obtain ⟨fs, hr, hrun, hended, hW, hsame⟩ := X.leave (v := some (.long z)) (fun h => by rw [hret] at h; cases h)
  exact ⟨_, _, X.lreturnOut hx hret hd hr, hrun, hended, _, _, rfl, hq, ⟨_, rfl⟩, hW, hsame.mono hc hs⟩
theorem own_retV (X : Stand p l e R s m args below meth c T locs cells slots) (hx : p.tables.exec = Jvm.exec) (hlocks : meth.locks = false) (hret : meth.sig.returnType = none) {pc : Nat} {Ls : Array Slot} (hd : decode c.code pc = .ok (.return_, 1))
    (hc : cells ≤ cl) (hs : slots ≤ sl) (hT : T.heap = h) (hq : Q none h locs) : own_Fin p e below s Q cl sl T (mkF m pc Ls []) := by
  subst hT
  obtain ⟨fs, hr, hrun, hended, hW, hsame⟩ := X.leave (v := none) (fun _ => rfl)
  exact ⟨_, _, X.returnOut hx hret hd hr, hrun, hended, _, _, rfl, hq, ⟨_, rfl⟩, hW, hsame.mono hc hs⟩
theorem own_retR (X : Stand p l e R s m args below meth c T locs cells slots) (hx : p.tables.exec = Jvm.exec) (hlocks : meth.locks = false) {t : FieldType} (hret : meth.sig.returnType = some t) (ht : t.isReference = true) {pc : Nat} {Ls : Array Slot} {z : Value} (hz : z.isRef = true) (hd : decode c.code pc = .ok (.areturn, 1))
    (hc : cells ≤ cl) (hs : slots ≤ sl) (hT : T.heap = h) (hq : Q (some z) h locs) : own_Fin p e below s Q cl sl T (mkF m pc Ls [z]) := by
  subst hT
  obtain ⟨fs, hr, hrun, hended, hW, hsame⟩ := X.leave (v := some z) (fun h => by rw [hret] at h; cases h)
  refine ⟨_, _, ?_, hrun, hended, _, _, rfl, hq, ⟨_, rfl⟩, hW, hsame.mono hc hs⟩
  have hm' : T.vm.method? m = some meth := X.method'
  jvm_step X.here [X.here.top, hx, hd, hm', hret, ht, hz]
  first | (intro acts; rw [hr _ acts rfl rfl rfl]) | rw [hr _ _ rfl rfl rfl]
  exact Steps.refl _
/-! comparisons, said over Int -/
theorem own_cl {x y : Int32} {a b : Int} (ha : x.toInt = a) (hb : y.toInt = b) (h : a < b) : if_icmp.holds .lt x y = true ∧ if_icmp.holds .ge x y = false ∧ if_icmp.holds .gt y x = true ∧ if_icmp.holds .le y x = false := tlt (by rw [Int32.lt_iff_toInt_lt, ha, hb]; exact h)
theorem own_cn {x y : Int32} {a b : Int} (ha : x.toInt = a) (hb : y.toInt = b) (h : ¬ a < b) : if_icmp.holds .lt x y = false ∧ if_icmp.holds .ge x y = true ∧ if_icmp.holds .gt y x = false ∧ if_icmp.holds .le y x = true := flt (by rw [Int32.lt_iff_toInt_lt, ha, hb]; exact h)
theorem own_ce {x y : Int32} {a b : Int} (ha : x.toInt = a) (hb : y.toInt = b) (h : a = b) : if_icmp.holds .eq x y = true ∧ if_icmp.holds .ne x y = false := teq (by rw [← Int32.toInt_inj, ha, hb]; exact h)
theorem own_cu {x y : Int32} {a b : Int} (ha : x.toInt = a) (hb : y.toInt = b) (h : ¬ a = b) : if_icmp.holds .eq x y = false ∧ if_icmp.holds .ne x y = true := feq (by rw [← Int32.toInt_inj, ha, hb]; exact h)
theorem own_ll {x y : Int64} {a b : Int} (ha : x.toInt = a) (hb : y.toInt = b) (h : a < b) : ifCond.holds .lt (lcmpW x y) = true ∧ ifCond.holds .ge (lcmpW x y) = false ∧ ifCond.holds .gt (lcmpW y x) = true ∧ ifCond.holds .le (lcmpW y x) = false := by
  have q : x < y := by rw [Int64.lt_iff_toInt_lt, ha, hb]; exact h
  have h1 := tlt ((lw_lt x y).mpr q)
  have h2 := tlt ((lw_gt y x).mpr q)
  exact ⟨(if0 _ _).trans h1.1, (if0 _ _).trans h1.2.1, (if0 _ _).trans h2.2.2.1, (if0 _ _).trans h2.2.2.2⟩
theorem own_ln {x y : Int64} {a b : Int} (ha : x.toInt = a) (hb : y.toInt = b) (h : ¬ a < b) : ifCond.holds .lt (lcmpW x y) = false ∧ ifCond.holds .ge (lcmpW x y) = true ∧ ifCond.holds .gt (lcmpW y x) = false ∧ ifCond.holds .le (lcmpW y x) = true := by
  have q : ¬ x < y := by rw [Int64.lt_iff_toInt_lt, ha, hb]; exact h
  have h1 := flt (fun r => q ((lw_lt x y).mp r))
  have h2 := flt (fun r => q ((lw_gt y x).mp r))
  exact ⟨(if0 _ _).trans h1.1, (if0 _ _).trans h1.2.1, (if0 _ _).trans h2.2.2.1, (if0 _ _).trans h2.2.2.2⟩
theorem own_le {x y : Int64} {a b : Int} (ha : x.toInt = a) (hb : y.toInt = b) (h : a = b) : ifCond.holds .eq (lcmpW x y) = true ∧ ifCond.holds .ne (lcmpW x y) = false := by
  have q : x = y := by rw [← Int64.toInt_inj, ha, hb]; exact h
  have h1 := teq ((lw_eq x y).mpr q)
  exact ⟨(if0 _ _).trans h1.1, (if0 _ _).trans h1.2⟩
theorem own_lu {x y : Int64} {a b : Int} (ha : x.toInt = a) (hb : y.toInt = b) (h : ¬ a = b) : ifCond.holds .eq (lcmpW x y) = false ∧ ifCond.holds .ne (lcmpW x y) = true := by
  have q : ¬ x = y := by rw [← Int64.toInt_inj, ha, hb]; exact h
  have h1 := feq (fun r => q ((lw_eq x y).mp r))
  exact ⟨(if0 _ _).trans h1.1, (if0 _ _).trans h1.2⟩
/-! a boolean as an int -/
abbrev own_B (r : Int32) (P : Prop) : Prop := (r.toInt = 1 ∧ P) ∨ (r.toInt = 0 ∧ ¬ P)
theorem own_B1 {P : Prop} (h : P) : own_B 1 P := Or.inl ⟨rfl, h⟩
theorem own_B0 {P : Prop} (h : ¬ P) : own_B 0 P := Or.inr ⟨rfl, h⟩
theorem own_B.lit {r : Int32} {P : Prop} (H : own_B r P) : (r = 1 ∧ P) ∨ (r = 0 ∧ ¬ P) := by
  rcases H with ⟨q, h⟩ | ⟨q, h⟩
  · exact Or.inl ⟨Int32.toInt_inj.mp q, h⟩
  · exact Or.inr ⟨Int32.toInt_inj.mp q, h⟩
/-! arrays: their length and what each place holds -/
def own_A (Z : State) (h : Heap) (a : Addr) (ty : FieldType) (n : Nat) (f : Nat → Value) : Prop := ∃ c : Cell, Arr Z h a c ty ∧ c.slots.size = n ∧ ∀ i, i < n → c.slots[i]? = some (f i)
def own_AI (Z : State) (h : Heap) (a : Addr) (ty : FieldType) (n : Nat) (f : Nat → Int32) : Prop := own_A Z h a ty n (fun i => .int (f i))
def own_AJ (Z : State) (h : Heap) (a : Addr) (n : Nat) (f : Nat → Int64) : Prop := own_A Z h a .long n (fun i => .long (f i))
variable {ty : FieldType} {n : Nat} {fv : Nat → Value} {fi : Nat → Int32} {fj : Nat → Int64}
theorem own_A.lt (F : own_A Z h a ty n fv) : a < h.size := by obtain ⟨c, A, -⟩ := F; exact A.lt
theorem own_A.ext (F : own_A Z h a ty n fv) (E : Ext h h') : own_A Z h' a ty n fv := by obtain ⟨c, A, r⟩ := F; exact ⟨c, A.ext E, r⟩
theorem own_A.other {sl : Nat} {v : Value} (F : own_A Z h a ty n fv) (W : Wr h h' b sl v) (q : a ≠ b) : own_A Z h' a ty n fv := by obtain ⟨c, A, r⟩ := F; exact ⟨c, A.other W q, r⟩
theorem own_A.keep {ws : List Addr} (F : own_A Z h a ty n fv) (K : Keep h h' ws) (q : a ∉ ws) : own_A Z h' a ty n fv := by obtain ⟨c, A, r⟩ := F; exact ⟨c, ⟨K.2.1 a c A.1 q, A.2⟩, r⟩
theorem own_A.congr {gv : Nat → Value} (F : own_A Z h a ty n fv) (q : ∀ i, i < n → fv i = gv i) : own_A Z h a ty n gv := by obtain ⟨c, A, r, t⟩ := F; exact ⟨c, A, r, fun i hi => by rw [t i hi, q i hi]⟩
theorem own_A.set {j : Nat} {v : Value} (F : own_A Z h a ty n fv) (W : Wr h h' a j v) : own_A Z h' a ty n (fun i => if i = j then v else fv i) := by
  obtain ⟨c, A, r, t⟩ := F
  have W0 := W
  obtain ⟨c2, h1, -, h3, -⟩ := W0
  have ec : c2 = c := Option.some.inj (h1.symm.trans A.1)
  subst ec
  refine ⟨_, A.same W, by rw [sz_set]; exact r, fun i hi => ?_⟩
  by_cases q : i = j
  · subst q; simp [Cell.setSlot, h3]
  · simp only [q, if_false]; rw [← t i hi]; simp only [Cell.setSlot]; exact Array.getElem?_setIfInBounds_ne fun z => q z.symm
theorem own_A.new {k : ClassId} {z : Int32} (A : Arr Z h a (newA k ty z) ty) (q : z.toNatClampNeg = n) : own_A Z h a ty n (fun _ => defaultValue ty) := by
  subst q
  exact ⟨_, A, sz_new _ _ _, fun i hi => by simp [newA, hi]⟩
theorem own_AI.lt (F : own_AI Z h a ty n fi) : a < h.size := own_A.lt F
theorem own_AI.ext (F : own_AI Z h a ty n fi) (E : Ext h h') : own_AI Z h' a ty n fi := own_A.ext F E
theorem own_AI.other {sl : Nat} {v : Value} (F : own_AI Z h a ty n fi) (W : Wr h h' b sl v) (q : a ≠ b) : own_AI Z h' a ty n fi := own_A.other F W q
theorem own_AI.keep {ws : List Addr} (F : own_AI Z h a ty n fi) (K : Keep h h' ws) (q : a ∉ ws) : own_AI Z h' a ty n fi := own_A.keep F K q
theorem own_AI.congr {gi : Nat → Int32} (F : own_AI Z h a ty n fi) (q : ∀ i, i < n → fi i = gi i) : own_AI Z h a ty n gi := own_A.congr F fun i hi => by rw [q i hi]
theorem own_AI.set {j : Nat} {x : Int32} (F : own_AI Z h a ty n fi) (W : Wr h h' a j (.int x)) : own_AI Z h' a ty n (fun i => if i = j then x else fi i) := (own_A.set F W).congr fun i _ => by by_cases q : i = j <;> simp [q]
theorem own_AI.newI {k : ClassId} {z : Int32} (A : Arr Z h a (newA k .int z) .int) (q : z.toNatClampNeg = n) : own_AI Z h a .int n (fun _ => 0) := own_A.new A q
theorem own_AI.newB {k : ClassId} {z : Int32} (A : Arr Z h a (newA k .byte z) .byte) (q : z.toNatClampNeg = n) : own_AI Z h a .byte n (fun _ => 0) := own_A.new A q
theorem own_AJ.lt (F : own_AJ Z h a n fj) : a < h.size := own_A.lt F
theorem own_AJ.ext (F : own_AJ Z h a n fj) (E : Ext h h') : own_AJ Z h' a n fj := own_A.ext F E
theorem own_AJ.other {sl : Nat} {v : Value} (F : own_AJ Z h a n fj) (W : Wr h h' b sl v) (q : a ≠ b) : own_AJ Z h' a n fj := own_A.other F W q
theorem own_AJ.keep {ws : List Addr} (F : own_AJ Z h a n fj) (K : Keep h h' ws) (q : a ∉ ws) : own_AJ Z h' a n fj := own_A.keep F K q
theorem own_AJ.congr {gj : Nat → Int64} (F : own_AJ Z h a n fj) (q : ∀ i, i < n → fj i = gj i) : own_AJ Z h a n gj := own_A.congr F fun i hi => by rw [q i hi]
theorem own_AJ.set {j : Nat} {x : Int64} (F : own_AJ Z h a n fj) (W : Wr h h' a j (.long x)) : own_AJ Z h' a n (fun i => if i = j then x else fj i) := (own_A.set F W).congr fun i _ => by by_cases q : i = j <;> simp [q]
theorem own_AJ.new {k : ClassId} {z : Int32} (A : Arr Z h a (newA k .long z) .long) (q : z.toNatClampNeg = n) : own_AJ Z h a n (fun _ => 0) := own_A.new A q
theorem own_in {j : Int32} {k n : Nat} (hj : j.toInt = (k : Int)) (hk : k < n) : j.toNatClampNeg = k ∧ ¬ (j < 0 ∨ n ≤ j.toNatClampNeg) := by
  have q : j.toNatClampNeg = k := by simp only [Int32.toNatClampNeg, hj]; omega
  refine ⟨q, fun z => ?_⟩
  rcases z with z | z
  · rw [Int32.lt_iff_toInt_lt, hj] at z
    have : (0 : Int32).toInt = 0 := rfl
    omega
  · omega
theorem own_iaload (X : Stand p l e R s m args below meth c T locs cells slots) (hx : p.tables.exec = Jvm.exec) (hZ : Z.Warmed39 s.vm) (eT : T.heap = h) (F : own_AI Z h a .int n fi) {j : Int32} {k : Nat} (hj : j.toInt = (k : Int)) (hk : k < n) {v : Int32} (hv : fi k = v) {pc pc' : Nat} {Ls : Array Slot} {rest : List Value}
    (hd : decode c.code pc = .ok (.iaload, 1)) (hp : pc + 1 = pc') (r : own_Fin p e below s Q cl sl T (mkF m pc' Ls (.int v :: rest))) : own_Fin p e below s Q cl sl T (mkF m pc Ls (.int j :: .ref a :: rest)) := by
  obtain ⟨cc, A, h1, h2⟩ := F
  obtain ⟨q1, q2⟩ := own_in hj hk
  subst hp hv
  exact own_step (fun t k' => X.iaload hx (j := j) (v := .int (fi k)) (by rw [eT]; exact A.1) (State.isArrayOf_alike hZ.alike A.2.1) A.2.2 (by rw [h1]; exact q2) (by rw [q1]; exact h2 k hk) (g := mkF m pc Ls (.int j :: .ref a :: rest)) rfl rfl hd _ k') r
theorem own_baload (X : Stand p l e R s m args below meth c T locs cells slots) (hx : p.tables.exec = Jvm.exec) (hZ : Z.Warmed39 s.vm) (eT : T.heap = h) (F : own_AI Z h a .byte n fi) {j : Int32} {k : Nat} (hj : j.toInt = (k : Int)) (hk : k < n) {v : Int32} (hv : fi k = v) {pc pc' : Nat} {Ls : Array Slot} {rest : List Value}
    (hd : decode c.code pc = .ok (.baload, 1)) (hp : pc + 1 = pc') (r : own_Fin p e below s Q cl sl T (mkF m pc' Ls (.int v :: rest))) : own_Fin p e below s Q cl sl T (mkF m pc Ls (.int j :: .ref a :: rest)) := by
  obtain ⟨cc, A, h1, h2⟩ := F
  obtain ⟨q1, q2⟩ := own_in hj hk
  subst hp hv
  exact own_step (fun t k' => X.baloadBytes hx (j := j) (v := .int (fi k)) (by rw [eT]; exact A.1) (State.isArrayOf_alike hZ.alike A.2.1) A.2.2 (by rw [h1]; exact q2) (by rw [q1]; exact h2 k hk) (g := mkF m pc Ls (.int j :: .ref a :: rest)) rfl rfl hd _ k') r
theorem own_laload (X : Stand p l e R s m args below meth c T locs cells slots) (hx : p.tables.exec = Jvm.exec) (hZ : Z.Warmed39 s.vm) (eT : T.heap = h) (F : own_AJ Z h a n fj) {j : Int32} {k : Nat} (hj : j.toInt = (k : Int)) (hk : k < n) {v : Int64} (hv : fj k = v) {pc pc' : Nat} {Ls : Array Slot} {rest : List Value}
    (hd : decode c.code pc = .ok (.laload, 1)) (hp : pc + 1 = pc') (r : own_Fin p e below s Q cl sl T (mkF m pc' Ls (.long v :: rest))) : own_Fin p e below s Q cl sl T (mkF m pc Ls (.int j :: .ref a :: rest)) := by
  obtain ⟨cc, A, h1, h2⟩ := F
  obtain ⟨q1, q2⟩ := own_in hj hk
  subst hp hv
  exact own_step (fun t k' => X.laload hx (j := j) (v := .long (fj k)) (by rw [eT]; exact A.1) (State.isArrayOf_alike hZ.alike A.2.1) A.2.2 (by rw [h1]; exact q2) (by rw [q1]; exact h2 k hk) (g := mkF m pc Ls (.int j :: .ref a :: rest)) rfl rfl hd _ k') r
theorem own_arrlen (X : Stand p l e R s m args below meth c T locs cells slots) (hx : p.tables.exec = Jvm.exec) (hZ : Z.Warmed39 s.vm) (eT : T.heap = h) (F : own_A Z h a ty n fv) {z : Int32} (hz : n.toInt32 = z) {pc pc' : Nat} {Ls : Array Slot} {rest : List Value}
    (hd : decode c.code pc = .ok (.arraylength, 1)) (hp : pc + 1 = pc') (r : own_Fin p e below s Q cl sl T (mkF m pc' Ls (.int z :: rest))) : own_Fin p e below s Q cl sl T (mkF m pc Ls (.ref a :: rest)) := by
  obtain ⟨cc, A, h1, h2⟩ := F
  subst hp hz
  exact own_step (fun t k' => X.arraylength hx (by rw [eT]; exact A.1) (State.isArrayOf_alike hZ.alike A.2.1) (g := mkF m pc Ls (.ref a :: rest)) rfl rfl hd _ (by rw [h1]; exact k')) r
theorem own_iastore (X : Stand p l e R s m args below meth c T locs cells slots) (hx : p.tables.exec = Jvm.exec) (hZ : Z.Warmed39 s.vm) (eT : T.heap = h) (F : own_AI Z h a .int n fi) {j : Int32} {k : Nat} (hj : j.toInt = (k : Int)) (hk : k < n) {x : Int32} {pc pc' : Nat} {Ls : Array Slot} {rest : List Value}
    (hd : decode c.code pc = .ok (.iastore, 1)) (hp : pc + 1 = pc') :
    ∃ T' h', Stand p l e R s m args below meth c T' (locs ++ [⟨a, k⟩]) cells slots ∧ T'.heap = h' ∧ Wr h h' a k (.int x) ∧ own_AI Z h' a .int n (fun i => if i = k then x else fi i) ∧ ∀ t, Steps p.tables e below (T'.setTop (mkF m pc' Ls rest)) t → Steps p.tables e below (T.setTop (mkF m pc Ls (.int x :: .int j :: .ref a :: rest))) t := by
  obtain ⟨q1, q2⟩ := own_in hj hk
  have F' := F
  obtain ⟨cc, A, h1, h2⟩ := F
  subst hp q1
  obtain ⟨T', h', X', e', W', st⟩ := stI X hx hZ eT A (j := j) (x := x) (by rw [h1]; exact q2) (g := mkF m pc Ls (.int x :: .int j :: .ref a :: rest)) rfl rfl hd
  exact ⟨T', h', X', e', W', F'.set W', st⟩
theorem own_bastore (X : Stand p l e R s m args below meth c T locs cells slots) (hx : p.tables.exec = Jvm.exec) (hZ : Z.Warmed39 s.vm) (eT : T.heap = h) (F : own_AI Z h a .byte n fi) {j : Int32} {k : Nat} (hj : j.toInt = (k : Int)) (hk : k < n) {x y : Int32} (hn : nar .byte x = y) {pc pc' : Nat} {Ls : Array Slot} {rest : List Value}
    (hd : decode c.code pc = .ok (.bastore, 1)) (hp : pc + 1 = pc') :
    ∃ T' h', Stand p l e R s m args below meth c T' (locs ++ [⟨a, k⟩]) cells slots ∧ T'.heap = h' ∧ Wr h h' a k (.int y) ∧ own_AI Z h' a .byte n (fun i => if i = k then y else fi i) ∧ ∀ t, Steps p.tables e below (T'.setTop (mkF m pc' Ls rest)) t → Steps p.tables e below (T.setTop (mkF m pc Ls (.int x :: .int j :: .ref a :: rest))) t := by
  obtain ⟨q1, q2⟩ := own_in hj hk
  have F' := F
  obtain ⟨cc, A, h1, h2⟩ := F
  subst hp q1 hn
  obtain ⟨T', h', X', e', W', st⟩ := stB X hx hZ eT A (j := j) (x := x) (by rw [h1]; exact q2) (g := mkF m pc Ls (.int x :: .int j :: .ref a :: rest)) rfl rfl hd
  exact ⟨T', h', X', e', W', F'.set W', st⟩
theorem own_lastore (X : Stand p l e R s m args below meth c T locs cells slots) (hx : p.tables.exec = Jvm.exec) (hZ : Z.Warmed39 s.vm) (eT : T.heap = h) (F : own_AJ Z h a n fj) {j : Int32} {k : Nat} (hj : j.toInt = (k : Int)) (hk : k < n) {x : Int64} {pc pc' : Nat} {Ls : Array Slot} {rest : List Value}
    (hd : decode c.code pc = .ok (.lastore, 1)) (hp : pc + 1 = pc') :
    ∃ T' h', Stand p l e R s m args below meth c T' (locs ++ [⟨a, k⟩]) cells slots ∧ T'.heap = h' ∧ Wr h h' a k (.long x) ∧ own_AJ Z h' a n (fun i => if i = k then x else fj i) ∧ ∀ t, Steps p.tables e below (T'.setTop (mkF m pc' Ls rest)) t → Steps p.tables e below (T.setTop (mkF m pc Ls (.long x :: .int j :: .ref a :: rest))) t := by
  obtain ⟨q1, q2⟩ := own_in hj hk
  have F' := F
  obtain ⟨cc, A, h1, h2⟩ := F
  subst hp q1
  obtain ⟨T', h', X', e', W', st⟩ := stJ X hx hZ eT A (j := j) (x := x) (by rw [h1]; exact q2) (g := mkF m pc Ls (.long x :: .int j :: .ref a :: rest)) rfl rfl hd
  exact ⟨T', h', X', e', W', F'.set W', st⟩
theorem own_nar8 (x : Int32) : nar .byte x.toInt8.toInt32 = x.toInt8.toInt32 := by
  show (x.toInt8.toInt32).toInt8.toInt32 = x.toInt8.toInt32
  simp
end OwnKit
def own_la (b0 b1 b2 b3 b4 b5 b6 b7 : Int32) : Int64 := (((((((((b0.toInt64 &&& (255 : Int64)) <<< ((56 : Int32) &&& 0x3f).toInt64) ||| ((b1.toInt64 &&& (255 : Int64)) <<< ((48 : Int32) &&& 0x3f).toInt64)) ||| ((b2.toInt64 &&& (255 : Int64)) <<< ((40 : Int32) &&& 0x3f).toInt64)) ||| ((b3.toInt64 &&& (255 : Int64)) <<< ((32 : Int32) &&& 0x3f).toInt64)) ||| ((b4.toInt64 &&& (255 : Int64)) <<< ((24 : Int32) &&& 0x3f).toInt64)) ||| ((b5.toInt64 &&& (255 : Int64)) <<< ((16 : Int32) &&& 0x3f).toInt64)) ||| ((b6.toInt64 &&& (255 : Int64)) <<< ((8 : Int32) &&& 0x3f).toInt64)) ||| (b7.toInt64 &&& (255 : Int64)))
theorem own_dig (b : Int32) : (b.toInt64 &&& (255 : Int64)).toInt = b.toInt % 256 := by
  have h := c_maskL b.toInt64 255 8 (by decide) (by decide)
  rw [h, c_i2l]; rfl
theorem own_la_i (b0 b1 b2 b3 b4 b5 b6 b7 : Int32) : ((own_la b0 b1 b2 b3 b4 b5 b6 b7).toInt - (b0.toInt % 256 * 72057594037927936 + b1.toInt % 256 * 281474976710656 + b2.toInt % 256 * 1099511627776 + b3.toInt % 256 * 4294967296 + b4.toInt % 256 * 16777216 + b5.toInt % 256 * 65536 + b6.toInt % 256 * 256 + b7.toInt % 256 * 1)) % 18446744073709551616 = 0 := by
  unfold own_la
  have d0 := own_dig b0
  generalize b0.toInt64 &&& (255 : Int64) = x0 at *
  have h0 := c_lshl x0 56 56 (by decide)
  have r0 := rng64 (x0 <<< ((56 : Int32) &&& 0x3f).toInt64)
  generalize (x0 <<< ((56 : Int32) &&& 0x3f).toInt64) = s0 at *
  rw [show ((2 : Nat) ^ 56 : Nat) = 72057594037927936 from by decide] at h0
  have d1 := own_dig b1
  generalize b1.toInt64 &&& (255 : Int64) = x1 at *
  have h1 := c_lshl x1 48 48 (by decide)
  have r1 := rng64 (x1 <<< ((48 : Int32) &&& 0x3f).toInt64)
  generalize (x1 <<< ((48 : Int32) &&& 0x3f).toInt64) = s1 at *
  rw [show ((2 : Nat) ^ 48 : Nat) = 281474976710656 from by decide] at h1
  have d2 := own_dig b2
  generalize b2.toInt64 &&& (255 : Int64) = x2 at *
  have h2 := c_lshl x2 40 40 (by decide)
  have r2 := rng64 (x2 <<< ((40 : Int32) &&& 0x3f).toInt64)
  generalize (x2 <<< ((40 : Int32) &&& 0x3f).toInt64) = s2 at *
  rw [show ((2 : Nat) ^ 40 : Nat) = 1099511627776 from by decide] at h2
  have d3 := own_dig b3
  generalize b3.toInt64 &&& (255 : Int64) = x3 at *
  have h3 := c_lshl x3 32 32 (by decide)
  have r3 := rng64 (x3 <<< ((32 : Int32) &&& 0x3f).toInt64)
  generalize (x3 <<< ((32 : Int32) &&& 0x3f).toInt64) = s3 at *
  rw [show ((2 : Nat) ^ 32 : Nat) = 4294967296 from by decide] at h3
  have d4 := own_dig b4
  generalize b4.toInt64 &&& (255 : Int64) = x4 at *
  have h4 := c_lshl x4 24 24 (by decide)
  have r4 := rng64 (x4 <<< ((24 : Int32) &&& 0x3f).toInt64)
  generalize (x4 <<< ((24 : Int32) &&& 0x3f).toInt64) = s4 at *
  rw [show ((2 : Nat) ^ 24 : Nat) = 16777216 from by decide] at h4
  have d5 := own_dig b5
  generalize b5.toInt64 &&& (255 : Int64) = x5 at *
  have h5 := c_lshl x5 16 16 (by decide)
  have r5 := rng64 (x5 <<< ((16 : Int32) &&& 0x3f).toInt64)
  generalize (x5 <<< ((16 : Int32) &&& 0x3f).toInt64) = s5 at *
  rw [show ((2 : Nat) ^ 16 : Nat) = 65536 from by decide] at h5
  have d6 := own_dig b6
  generalize b6.toInt64 &&& (255 : Int64) = x6 at *
  have h6 := c_lshl x6 8 8 (by decide)
  have r6 := rng64 (x6 <<< ((8 : Int32) &&& 0x3f).toInt64)
  generalize (x6 <<< ((8 : Int32) &&& 0x3f).toInt64) = s6 at *
  rw [show ((2 : Nat) ^ 8 : Nat) = 256 from by decide] at h6
  have d7 := own_dig b7
  generalize b7.toInt64 &&& (255 : Int64) = x7 at *
  have z0 := h0
  have t1 : s1.toInt = x1.toInt * 281474976710656 := by omega
  have o1 := c_orL s0 s1 56 (by decide) 72057594037927936 (by decide) (by omega) (by omega) (by omega)
  generalize s0 ||| s1 = a1 at *
  have t2 : s2.toInt = x2.toInt * 1099511627776 := by omega
  have o2 := c_orL a1 s2 48 (by decide) 281474976710656 (by decide) (by omega) (by omega) (by omega)
  generalize a1 ||| s2 = a2 at *
  have t3 : s3.toInt = x3.toInt * 4294967296 := by omega
  have o3 := c_orL a2 s3 40 (by decide) 1099511627776 (by decide) (by omega) (by omega) (by omega)
  generalize a2 ||| s3 = a3 at *
  have t4 : s4.toInt = x4.toInt * 16777216 := by omega
  have o4 := c_orL a3 s4 32 (by decide) 4294967296 (by decide) (by omega) (by omega) (by omega)
  generalize a3 ||| s4 = a4 at *
  have t5 : s5.toInt = x5.toInt * 65536 := by omega
  have o5 := c_orL a4 s5 24 (by decide) 16777216 (by decide) (by omega) (by omega) (by omega)
  generalize a4 ||| s5 = a5 at *
  have t6 : s6.toInt = x6.toInt * 256 := by omega
  have o6 := c_orL a5 s6 16 (by decide) 65536 (by decide) (by omega) (by omega) (by omega)
  generalize a5 ||| s6 = a6 at *
  have o7 := c_orL a6 x7 8 (by decide) 256 (by decide) (by omega) (by omega) (by omega)
  generalize a6 ||| x7 = a7 at *
  omega
theorem own_byt (w : Int64) : (w.toInt32.toInt8.toInt32).toInt % 256 = w.toInt % 256 := by
  have h1 := c_i2b w.toInt32
  have h2 := c_l2i w
  omega
theorem own_tel (u : Int) (h0 : 0 ≤ u) (h1 : u < 18446744073709551616) : u = u / 72057594037927936 % 256 * 72057594037927936 + u / 281474976710656 % 256 * 281474976710656 + u / 1099511627776 % 256 * 1099511627776 + u / 4294967296 % 256 * 4294967296 + u / 16777216 % 256 * 16777216 + u / 65536 % 256 * 65536 + u / 256 % 256 * 256 + u % 256 := by
  have q1 : u / 256 / 256 = u / 65536 := by omega
  have q2 : u / 65536 / 256 = u / 16777216 := by omega
  have q3 : u / 16777216 / 256 = u / 4294967296 := by omega
  have q4 : u / 4294967296 / 256 = u / 1099511627776 := by omega
  have q5 : u / 1099511627776 / 256 = u / 281474976710656 := by omega
  have q6 : u / 281474976710656 / 256 = u / 72057594037927936 := by omega
  have b7 : 0 ≤ u / 72057594037927936 ∧ u / 72057594037927936 < 256 := by omega
  generalize hw1 : u / 256 = w1 at *
  generalize u / 65536 = w2 at *
  generalize u / 16777216 = w3 at *
  generalize u / 4294967296 = w4 at *
  generalize u / 1099511627776 = w5 at *
  generalize u / 281474976710656 = w6 at *
  generalize u / 72057594037927936 = w7 at *
  omega
theorem own_la_v (v : Int64) : own_la ((((v.toUInt64 >>> ((56 : Int32) &&& 0x3f).toInt64.toUInt64).toInt64).toInt32).toInt8.toInt32) ((((v.toUInt64 >>> ((48 : Int32) &&& 0x3f).toInt64.toUInt64).toInt64).toInt32).toInt8.toInt32) ((((v.toUInt64 >>> ((40 : Int32) &&& 0x3f).toInt64.toUInt64).toInt64).toInt32).toInt8.toInt32) ((((v.toUInt64 >>> ((32 : Int32) &&& 0x3f).toInt64.toUInt64).toInt64).toInt32).toInt8.toInt32) ((((v.toUInt64 >>> ((24 : Int32) &&& 0x3f).toInt64.toUInt64).toInt64).toInt32).toInt8.toInt32) ((((v.toUInt64 >>> ((16 : Int32) &&& 0x3f).toInt64.toUInt64).toInt64).toInt32).toInt8.toInt32) ((((v.toUInt64 >>> ((8 : Int32) &&& 0x3f).toInt64.toUInt64).toInt64).toInt32).toInt8.toInt32) ((v.toInt32).toInt8.toInt32) = v := by
  have h := own_la_i ((((v.toUInt64 >>> ((56 : Int32) &&& 0x3f).toInt64.toUInt64).toInt64).toInt32).toInt8.toInt32) ((((v.toUInt64 >>> ((48 : Int32) &&& 0x3f).toInt64.toUInt64).toInt64).toInt32).toInt8.toInt32) ((((v.toUInt64 >>> ((40 : Int32) &&& 0x3f).toInt64.toUInt64).toInt64).toInt32).toInt8.toInt32) ((((v.toUInt64 >>> ((32 : Int32) &&& 0x3f).toInt64.toUInt64).toInt64).toInt32).toInt8.toInt32) ((((v.toUInt64 >>> ((24 : Int32) &&& 0x3f).toInt64.toUInt64).toInt64).toInt32).toInt8.toInt32) ((((v.toUInt64 >>> ((16 : Int32) &&& 0x3f).toInt64.toUInt64).toInt64).toInt32).toInt8.toInt32) ((((v.toUInt64 >>> ((8 : Int32) &&& 0x3f).toInt64.toUInt64).toInt64).toInt32).toInt8.toInt32) ((v.toInt32).toInt8.toInt32)
  have e0 := own_byt ((v.toUInt64 >>> ((56 : Int32) &&& 0x3f).toInt64.toUInt64).toInt64)
  rw [c_lushr v 56 56 (by decide) (by decide), show ((2 : Nat) ^ 56 : Nat) = 72057594037927936 from by decide] at e0
  have e1 := own_byt ((v.toUInt64 >>> ((48 : Int32) &&& 0x3f).toInt64.toUInt64).toInt64)
  rw [c_lushr v 48 48 (by decide) (by decide), show ((2 : Nat) ^ 48 : Nat) = 281474976710656 from by decide] at e1
  have e2 := own_byt ((v.toUInt64 >>> ((40 : Int32) &&& 0x3f).toInt64.toUInt64).toInt64)
  rw [c_lushr v 40 40 (by decide) (by decide), show ((2 : Nat) ^ 40 : Nat) = 1099511627776 from by decide] at e2
  have e3 := own_byt ((v.toUInt64 >>> ((32 : Int32) &&& 0x3f).toInt64.toUInt64).toInt64)
  rw [c_lushr v 32 32 (by decide) (by decide), show ((2 : Nat) ^ 32 : Nat) = 4294967296 from by decide] at e3
  have e4 := own_byt ((v.toUInt64 >>> ((24 : Int32) &&& 0x3f).toInt64.toUInt64).toInt64)
  rw [c_lushr v 24 24 (by decide) (by decide), show ((2 : Nat) ^ 24 : Nat) = 16777216 from by decide] at e4
  have e5 := own_byt ((v.toUInt64 >>> ((16 : Int32) &&& 0x3f).toInt64.toUInt64).toInt64)
  rw [c_lushr v 16 16 (by decide) (by decide), show ((2 : Nat) ^ 16 : Nat) = 65536 from by decide] at e5
  have e6 := own_byt ((v.toUInt64 >>> ((8 : Int32) &&& 0x3f).toInt64.toUInt64).toInt64)
  rw [c_lushr v 8 8 (by decide) (by decide), show ((2 : Nat) ^ 8 : Nat) = 256 from by decide] at e6
  have e7 := own_byt v
  rw [e0, e1, e2, e3, e4, e5, e6, e7] at h
  have r := rng64 v
  have t := own_tel (v.toInt % 18446744073709551616) (by omega) (by omega)
  have r2 := rng64 (own_la ((((v.toUInt64 >>> ((56 : Int32) &&& 0x3f).toInt64.toUInt64).toInt64).toInt32).toInt8.toInt32) ((((v.toUInt64 >>> ((48 : Int32) &&& 0x3f).toInt64.toUInt64).toInt64).toInt32).toInt8.toInt32) ((((v.toUInt64 >>> ((40 : Int32) &&& 0x3f).toInt64.toUInt64).toInt64).toInt32).toInt8.toInt32) ((((v.toUInt64 >>> ((32 : Int32) &&& 0x3f).toInt64.toUInt64).toInt64).toInt32).toInt8.toInt32) ((((v.toUInt64 >>> ((24 : Int32) &&& 0x3f).toInt64.toUInt64).toInt64).toInt32).toInt8.toInt32) ((((v.toUInt64 >>> ((16 : Int32) &&& 0x3f).toInt64.toUInt64).toInt64).toInt32).toInt8.toInt32) ((((v.toUInt64 >>> ((8 : Int32) &&& 0x3f).toInt64.toUInt64).toInt64).toInt32).toInt8.toInt32) ((v.toInt32).toInt8.toInt32))
  apply Int64.toInt_inj.mp
  generalize own_la ((((v.toUInt64 >>> ((56 : Int32) &&& 0x3f).toInt64.toUInt64).toInt64).toInt32).toInt8.toInt32) ((((v.toUInt64 >>> ((48 : Int32) &&& 0x3f).toInt64.toUInt64).toInt64).toInt32).toInt8.toInt32) ((((v.toUInt64 >>> ((40 : Int32) &&& 0x3f).toInt64.toUInt64).toInt64).toInt32).toInt8.toInt32) ((((v.toUInt64 >>> ((32 : Int32) &&& 0x3f).toInt64.toUInt64).toInt64).toInt32).toInt8.toInt32) ((((v.toUInt64 >>> ((24 : Int32) &&& 0x3f).toInt64.toUInt64).toInt64).toInt32).toInt8.toInt32) ((((v.toUInt64 >>> ((16 : Int32) &&& 0x3f).toInt64.toUInt64).toInt64).toInt32).toInt8.toInt32) ((((v.toUInt64 >>> ((8 : Int32) &&& 0x3f).toInt64.toUInt64).toInt64).toInt32).toInt8.toInt32) ((v.toInt32).toInt8.toInt32) = z at *
  have e : v.toInt % 18446744073709551616 % 256 = v.toInt % 256 := by omega
  rw [e] at t
  generalize v.toInt % 18446744073709551616 / 72057594037927936 % 256 = y0 at *
  generalize v.toInt % 18446744073709551616 / 281474976710656 % 256 = y1 at *
  generalize v.toInt % 18446744073709551616 / 1099511627776 % 256 = y2 at *
  generalize v.toInt % 18446744073709551616 / 4294967296 % 256 = y3 at *
  generalize v.toInt % 18446744073709551616 / 16777216 % 256 = y4 at *
  generalize v.toInt % 18446744073709551616 / 65536 % 256 = y5 at *
  generalize v.toInt % 18446744073709551616 / 256 % 256 = y6 at *
  generalize v.toInt % 256 = y7 at *
  omega
theorem own_ix (a : Int32) (k : Int32) (n : Int) (hk : k.toInt = n) (h0 : 0 ≤ a.toInt) (h1 : a.toInt ≤ 1000) (h2 : 0 ≤ n) (h3 : n ≤ 1000) : (a + k).toInt = a.toInt + n := by
  have h := c_iadd a k
  have r := rng32 (a + k)
  rw [hk] at h
  omega
def own_pl (k : Nat) (v : Int64) (f : Nat → Int32) (i : Nat) : Int32 := if i = k + 7 then ((v.toInt32).toInt8.toInt32) else if i = k + 6 then ((((v.toUInt64 >>> ((8 : Int32) &&& 0x3f).toInt64.toUInt64).toInt64).toInt32).toInt8.toInt32) else if i = k + 5 then ((((v.toUInt64 >>> ((16 : Int32) &&& 0x3f).toInt64.toUInt64).toInt64).toInt32).toInt8.toInt32) else if i = k + 4 then ((((v.toUInt64 >>> ((24 : Int32) &&& 0x3f).toInt64.toUInt64).toInt64).toInt32).toInt8.toInt32) else if i = k + 3 then ((((v.toUInt64 >>> ((32 : Int32) &&& 0x3f).toInt64.toUInt64).toInt64).toInt32).toInt8.toInt32) else if i = k + 2 then ((((v.toUInt64 >>> ((40 : Int32) &&& 0x3f).toInt64.toUInt64).toInt64).toInt32).toInt8.toInt32) else if i = k + 1 then ((((v.toUInt64 >>> ((48 : Int32) &&& 0x3f).toInt64.toUInt64).toInt64).toInt32).toInt8.toInt32) else if i = k then ((((v.toUInt64 >>> ((56 : Int32) &&& 0x3f).toInt64.toUInt64).toInt64).toInt32).toInt8.toInt32) else f i
theorem own_pl0 (k : Nat) (v : Int64) (f : Nat → Int32) : own_pl k v f (k) = ((((v.toUInt64 >>> ((56 : Int32) &&& 0x3f).toInt64.toUInt64).toInt64).toInt32).toInt8.toInt32) := by simp [own_pl]
theorem own_pl1 (k : Nat) (v : Int64) (f : Nat → Int32) : own_pl k v f (k + 1) = ((((v.toUInt64 >>> ((48 : Int32) &&& 0x3f).toInt64.toUInt64).toInt64).toInt32).toInt8.toInt32) := by simp [own_pl]
theorem own_pl2 (k : Nat) (v : Int64) (f : Nat → Int32) : own_pl k v f (k + 2) = ((((v.toUInt64 >>> ((40 : Int32) &&& 0x3f).toInt64.toUInt64).toInt64).toInt32).toInt8.toInt32) := by simp [own_pl]
theorem own_pl3 (k : Nat) (v : Int64) (f : Nat → Int32) : own_pl k v f (k + 3) = ((((v.toUInt64 >>> ((32 : Int32) &&& 0x3f).toInt64.toUInt64).toInt64).toInt32).toInt8.toInt32) := by simp [own_pl]
theorem own_pl4 (k : Nat) (v : Int64) (f : Nat → Int32) : own_pl k v f (k + 4) = ((((v.toUInt64 >>> ((24 : Int32) &&& 0x3f).toInt64.toUInt64).toInt64).toInt32).toInt8.toInt32) := by simp [own_pl]
theorem own_pl5 (k : Nat) (v : Int64) (f : Nat → Int32) : own_pl k v f (k + 5) = ((((v.toUInt64 >>> ((16 : Int32) &&& 0x3f).toInt64.toUInt64).toInt64).toInt32).toInt8.toInt32) := by simp [own_pl]
theorem own_pl6 (k : Nat) (v : Int64) (f : Nat → Int32) : own_pl k v f (k + 6) = ((((v.toUInt64 >>> ((8 : Int32) &&& 0x3f).toInt64.toUInt64).toInt64).toInt32).toInt8.toInt32) := by simp [own_pl]
theorem own_pl7 (k : Nat) (v : Int64) (f : Nat → Int32) : own_pl k v f (k + 7) = ((v.toInt32).toInt8.toInt32) := by simp [own_pl]
theorem own_pl_o (k : Nat) (v : Int64) (f : Nat → Int32) (i : Nat) (h : i < k ∨ k + 8 ≤ i) : own_pl k v f i = f i := by
  unfold own_pl
  rw [if_neg (by omega), if_neg (by omega), if_neg (by omega), if_neg (by omega), if_neg (by omega), if_neg (by omega), if_neg (by omega), if_neg (by omega)]
theorem own_kp (k : Int32) (v : Int64) (g : Nat → Int32) (i : Int32) (n : Nat) (w : Int32) (hi : i.toInt = n) (hk : 0 ≤ k.toInt) (hg : g n = w) : (i.toInt < k.toInt ∨ k.toInt + 8 ≤ i.toInt) → own_pl k.toInt.toNat v g i.toInt.toNat = w := by
  intro h
  rw [own_pl_o _ _ _ _ (by omega), show i.toInt.toNat = n from by omega]
  exact hg
theorem d1_0 : decode prog_24_method_10_code 0 = .ok (.aload_n 0, 1) := by decide +kernel
theorem d1_1 : decode prog_24_method_10_code 1 = .ok (.iload_n 1, 1) := by decide +kernel
theorem d1_2 : decode prog_24_method_10_code 2 = .ok (.baload, 1) := by decide +kernel
theorem d1_3 : decode prog_24_method_10_code 3 = .ok (.i2l, 1) := by decide +kernel
theorem d1_4 : decode prog_24_method_10_code 4 = .ok (.ldc2_w 33, 3) := by decide +kernel
theorem d1_7 : decode prog_24_method_10_code 7 = .ok (.land, 1) := by decide +kernel
theorem d1_8 : decode prog_24_method_10_code 8 = .ok (.bipush 56, 2) := by decide +kernel
theorem d1_10 : decode prog_24_method_10_code 10 = .ok (.lshl, 1) := by decide +kernel
theorem d1_11 : decode prog_24_method_10_code 11 = .ok (.aload_n 0, 1) := by decide +kernel
theorem d1_12 : decode prog_24_method_10_code 12 = .ok (.iload_n 1, 1) := by decide +kernel
theorem d1_13 : decode prog_24_method_10_code 13 = .ok (.iconst 1, 1) := by decide +kernel
theorem d1_14 : decode prog_24_method_10_code 14 = .ok (.iadd, 1) := by decide +kernel
theorem d1_15 : decode prog_24_method_10_code 15 = .ok (.baload, 1) := by decide +kernel
theorem d1_16 : decode prog_24_method_10_code 16 = .ok (.i2l, 1) := by decide +kernel
theorem d1_17 : decode prog_24_method_10_code 17 = .ok (.ldc2_w 33, 3) := by decide +kernel
theorem d1_20 : decode prog_24_method_10_code 20 = .ok (.land, 1) := by decide +kernel
theorem d1_21 : decode prog_24_method_10_code 21 = .ok (.bipush 48, 2) := by decide +kernel
theorem d1_23 : decode prog_24_method_10_code 23 = .ok (.lshl, 1) := by decide +kernel
theorem d1_24 : decode prog_24_method_10_code 24 = .ok (.lor, 1) := by decide +kernel
theorem d1_25 : decode prog_24_method_10_code 25 = .ok (.aload_n 0, 1) := by decide +kernel
theorem d1_26 : decode prog_24_method_10_code 26 = .ok (.iload_n 1, 1) := by decide +kernel
theorem d1_27 : decode prog_24_method_10_code 27 = .ok (.iconst 2, 1) := by decide +kernel
theorem d1_28 : decode prog_24_method_10_code 28 = .ok (.iadd, 1) := by decide +kernel
theorem d1_29 : decode prog_24_method_10_code 29 = .ok (.baload, 1) := by decide +kernel
theorem d1_30 : decode prog_24_method_10_code 30 = .ok (.i2l, 1) := by decide +kernel
theorem d1_31 : decode prog_24_method_10_code 31 = .ok (.ldc2_w 33, 3) := by decide +kernel
theorem d1_34 : decode prog_24_method_10_code 34 = .ok (.land, 1) := by decide +kernel
theorem d1_35 : decode prog_24_method_10_code 35 = .ok (.bipush 40, 2) := by decide +kernel
theorem d1_37 : decode prog_24_method_10_code 37 = .ok (.lshl, 1) := by decide +kernel
theorem d1_38 : decode prog_24_method_10_code 38 = .ok (.lor, 1) := by decide +kernel
theorem d1_39 : decode prog_24_method_10_code 39 = .ok (.aload_n 0, 1) := by decide +kernel
theorem d1_40 : decode prog_24_method_10_code 40 = .ok (.iload_n 1, 1) := by decide +kernel
theorem d1_41 : decode prog_24_method_10_code 41 = .ok (.iconst 3, 1) := by decide +kernel
theorem d1_42 : decode prog_24_method_10_code 42 = .ok (.iadd, 1) := by decide +kernel
theorem d1_43 : decode prog_24_method_10_code 43 = .ok (.baload, 1) := by decide +kernel
theorem d1_44 : decode prog_24_method_10_code 44 = .ok (.i2l, 1) := by decide +kernel
theorem d1_45 : decode prog_24_method_10_code 45 = .ok (.ldc2_w 33, 3) := by decide +kernel
theorem d1_48 : decode prog_24_method_10_code 48 = .ok (.land, 1) := by decide +kernel
theorem d1_49 : decode prog_24_method_10_code 49 = .ok (.bipush 32, 2) := by decide +kernel
theorem d1_51 : decode prog_24_method_10_code 51 = .ok (.lshl, 1) := by decide +kernel
theorem d1_52 : decode prog_24_method_10_code 52 = .ok (.lor, 1) := by decide +kernel
theorem d1_53 : decode prog_24_method_10_code 53 = .ok (.aload_n 0, 1) := by decide +kernel
theorem d1_54 : decode prog_24_method_10_code 54 = .ok (.iload_n 1, 1) := by decide +kernel
theorem d1_55 : decode prog_24_method_10_code 55 = .ok (.iconst 4, 1) := by decide +kernel
theorem d1_56 : decode prog_24_method_10_code 56 = .ok (.iadd, 1) := by decide +kernel
theorem d1_57 : decode prog_24_method_10_code 57 = .ok (.baload, 1) := by decide +kernel
theorem d1_58 : decode prog_24_method_10_code 58 = .ok (.i2l, 1) := by decide +kernel
theorem d1_59 : decode prog_24_method_10_code 59 = .ok (.ldc2_w 33, 3) := by decide +kernel
theorem d1_62 : decode prog_24_method_10_code 62 = .ok (.land, 1) := by decide +kernel
theorem d1_63 : decode prog_24_method_10_code 63 = .ok (.bipush 24, 2) := by decide +kernel
theorem d1_65 : decode prog_24_method_10_code 65 = .ok (.lshl, 1) := by decide +kernel
theorem d1_66 : decode prog_24_method_10_code 66 = .ok (.lor, 1) := by decide +kernel
theorem d1_67 : decode prog_24_method_10_code 67 = .ok (.aload_n 0, 1) := by decide +kernel
theorem d1_68 : decode prog_24_method_10_code 68 = .ok (.iload_n 1, 1) := by decide +kernel
theorem d1_69 : decode prog_24_method_10_code 69 = .ok (.iconst 5, 1) := by decide +kernel
theorem d1_70 : decode prog_24_method_10_code 70 = .ok (.iadd, 1) := by decide +kernel
theorem d1_71 : decode prog_24_method_10_code 71 = .ok (.baload, 1) := by decide +kernel
theorem d1_72 : decode prog_24_method_10_code 72 = .ok (.i2l, 1) := by decide +kernel
theorem d1_73 : decode prog_24_method_10_code 73 = .ok (.ldc2_w 33, 3) := by decide +kernel
theorem d1_76 : decode prog_24_method_10_code 76 = .ok (.land, 1) := by decide +kernel
theorem d1_77 : decode prog_24_method_10_code 77 = .ok (.bipush 16, 2) := by decide +kernel
theorem d1_79 : decode prog_24_method_10_code 79 = .ok (.lshl, 1) := by decide +kernel
theorem d1_80 : decode prog_24_method_10_code 80 = .ok (.lor, 1) := by decide +kernel
theorem d1_81 : decode prog_24_method_10_code 81 = .ok (.aload_n 0, 1) := by decide +kernel
theorem d1_82 : decode prog_24_method_10_code 82 = .ok (.iload_n 1, 1) := by decide +kernel
theorem d1_83 : decode prog_24_method_10_code 83 = .ok (.bipush 6, 2) := by decide +kernel
theorem d1_85 : decode prog_24_method_10_code 85 = .ok (.iadd, 1) := by decide +kernel
theorem d1_86 : decode prog_24_method_10_code 86 = .ok (.baload, 1) := by decide +kernel
theorem d1_87 : decode prog_24_method_10_code 87 = .ok (.i2l, 1) := by decide +kernel
theorem d1_88 : decode prog_24_method_10_code 88 = .ok (.ldc2_w 33, 3) := by decide +kernel
theorem d1_91 : decode prog_24_method_10_code 91 = .ok (.land, 1) := by decide +kernel
theorem d1_92 : decode prog_24_method_10_code 92 = .ok (.bipush 8, 2) := by decide +kernel
theorem d1_94 : decode prog_24_method_10_code 94 = .ok (.lshl, 1) := by decide +kernel
theorem d1_95 : decode prog_24_method_10_code 95 = .ok (.lor, 1) := by decide +kernel
theorem d1_96 : decode prog_24_method_10_code 96 = .ok (.aload_n 0, 1) := by decide +kernel
theorem d1_97 : decode prog_24_method_10_code 97 = .ok (.iload_n 1, 1) := by decide +kernel
theorem d1_98 : decode prog_24_method_10_code 98 = .ok (.bipush 7, 2) := by decide +kernel
theorem d1_100 : decode prog_24_method_10_code 100 = .ok (.iadd, 1) := by decide +kernel
theorem d1_101 : decode prog_24_method_10_code 101 = .ok (.baload, 1) := by decide +kernel
theorem d1_102 : decode prog_24_method_10_code 102 = .ok (.i2l, 1) := by decide +kernel
theorem d1_103 : decode prog_24_method_10_code 103 = .ok (.ldc2_w 33, 3) := by decide +kernel
theorem d1_106 : decode prog_24_method_10_code 106 = .ok (.land, 1) := by decide +kernel
theorem d1_107 : decode prog_24_method_10_code 107 = .ok (.lor, 1) := by decide +kernel
theorem d1_108 : decode prog_24_method_10_code 108 = .ok (.lreturn, 1) := by decide +kernel
theorem own_pn_1 : plainName "com/example/pcr10/pcr10/ScratchBytes" = true := by first | (simp [plainName, overriddenIn]; done) | decide +kernel
theorem own_ef_1 (m : MethodId) (a1 : Addr) (p2 : Int32) : entryFrame m #[(.ref a1), (.int p2)] 2 = mkF m 0 #[.val (.ref a1), .val (.int p2)] [] := by first | (simp [entryFrame, mkF, argsToLocals, Value.category]; done) | rfl
abbrev own_R1 : Room := { frames := 0, cells := 0, slots := 0, locals := 0 }
def own_Q1 (Z : State) (a1 : Addr) (p2 : Int32) (f1 : Nat → Int32) (h0 : Heap) (n0 : Nat) (v : Option Value) (h : Heap) (L : List Loc) : Prop := v = some (.long (own_la (f1 (p2.toInt.toNat)) (f1 (p2.toInt.toNat + 1)) (f1 (p2.toInt.toNat + 2)) (f1 (p2.toInt.toNat + 3)) (f1 (p2.toInt.toNat + 4)) (f1 (p2.toInt.toNat + 5)) (f1 (p2.toInt.toNat + 6)) (f1 (p2.toInt.toNat + 7)))) ∧ Fr n0 L ∧ h = h0
set_option maxRecDepth 65536 in
set_option maxHeartbeats 40000000 in
theorem rm1 (l : Launch) (Z : State) (a0 : Array Value) (hw : ∀ d ∈ tables_1, d.before a0 Z = true) (ws : List Jvm.Cond) (a1 : Addr) (p2 : Int32) (f1 : Nat → Int32) (h0 : Heap) (n0 : Nat) (Z0 : n0 ≤ h0.size) (V_a1 : own_AI Z h0 a1 .byte 12 f1) (hp : 0 ≤ p2.toInt ∧ p2.toInt + 7 < 12) :
    MetFree l (⟨"com/example/pcr10/pcr10/ScratchBytes", "longAt", "([BI)J"⟩ : MethodName) (head1 (Jvm.Cond.code (⟨"com/example/pcr10/pcr10/ScratchBytes", "longAt", "([BI)J"⟩ : MethodName) prog_24_method_10_code 2 (some .long) :: ws) own_R1) (fun a U => a = #[(.ref a1), (.int p2)] ∧ Z.Warmed39 U.vm ∧ U.heap = h0) (fun _ _ _ _ _ => True) (fun _ U o U' => ∃ v L, o = .returned v ∧ own_Q1 Z a1 p2 f1 h0 n0 v U'.heap L ∧ FrameEnd U o U' L own_R1.cells own_R1.slots) := by
  refine MetFree.of_bodySF (plainFor_of_name own_pn_1) hisR ?_
  intro p e s m args below meth c s₁ Bd hml0 hP hK
  obtain ⟨rfl, hZ, hh⟩ := hP
  have hx := Bd.exec
  have hby := Bd.bytes
  have hlk := BodyLoose.notSynchronized Bd
  have hml : c.maxLocals = 2 := hml0
  have hown : s.vm.findClass "com/example/pcr10/pcr10/ScratchBytes" = some m.cls := (findClass_of_methodNamed Bd.named : s.vm.findClass (⟨"com/example/pcr10/pcr10/ScratchBytes", "longAt", "([BI)J"⟩ : MethodName).cls = some m.cls)
  have hnm := (name_of_methodNamed Bd.named Bd.method).1
  have X0 : Stand p l e own_R1 s m #[(.ref a1), (.int p2)] below meth c s₁ [] 0 0 := Stand.of_body Bd
  have e0 : s₁.heap = h0 := by rw [← hh, Bd.state]; rfl
  have Nf := Fr.nil n0
  have Zs := Z0
  show own_Fin p e below s (own_Q1 Z a1 p2 f1 h0 n0) 0 0 s₁ (entryFrame m #[(.ref a1), (.int p2)] 2)
  rw [own_ef_1 m a1 p2]
  show own_Fin _ _ _ _ _ _ _ _ (mkF m 0 #[.val (.ref a1), .val (.int p2)] [])
  refine own_step (fun t k => XS.aloadN X0.here hx rfl (hb hby d1_0) rfl rfl k) ?_
  show own_Fin _ _ _ _ _ _ _ _ (mkF m 1 #[.val (.ref a1), .val (.int p2)] [(.ref a1)])
  refine own_step (fun t k => XS.iloadN X0.here hx rfl (hb hby d1_1) rfl k) ?_
  show own_Fin _ _ _ _ _ _ _ _ (mkF m 2 #[.val (.ref a1), .val (.int p2)] [(.int p2), (.ref a1)])
  refine own_baload X0 hx hZ e0 V_a1 (k := p2.toInt.toNat) (by omega) (by omega) (v := (f1 (p2.toInt.toNat))) rfl (hb hby d1_2) rfl ?_
  show own_Fin _ _ _ _ _ _ _ _ (mkF m 3 #[.val (.ref a1), .val (.int p2)] [(.int (f1 (p2.toInt.toNat)))])
  refine own_step (fun t k => XS.i2l X0.here hx rfl (hb hby d1_3) rfl k) ?_
  show own_Fin _ _ _ _ _ _ _ _ (mkF m 4 #[.val (.ref a1), .val (.int p2)] [(.long ((f1 (p2.toInt.toNat)).toInt64))])
  refine own_step (fun t k => X0.ldc2Long hx hown (mvT hZ (hw _ (List.mem_of_getElem? (i := 9) rfl))) (g := (mkF m 4 #[.val (.ref a1), .val (.int p2)] [(.long ((f1 (p2.toInt.toNat)).toInt64))])) rfl (hb hby d1_4) _ k) ?_
  show own_Fin _ _ _ _ _ _ _ _ (mkF m 7 #[.val (.ref a1), .val (.int p2)] [(.long (255 : Int64)), (.long ((f1 (p2.toInt.toNat)).toInt64))])
  refine own_step (fun t k => XS.land X0.here hx rfl (hb hby d1_7) rfl k) ?_
  show own_Fin _ _ _ _ _ _ _ _ (mkF m 8 #[.val (.ref a1), .val (.int p2)] [(.long (((f1 (p2.toInt.toNat)).toInt64) &&& (255 : Int64)))])
  refine own_step (fun t k => XS.bipush X0.here hx rfl (hb hby d1_8) k) ?_
  show own_Fin _ _ _ _ _ _ _ _ (mkF m 10 #[.val (.ref a1), .val (.int p2)] [(.int (56 : Int32)), (.long (((f1 (p2.toInt.toNat)).toInt64) &&& (255 : Int64)))])
  refine own_step (fun t k => XS.lshl X0.here hx rfl (hb hby d1_10) rfl k) ?_
  show own_Fin _ _ _ _ _ _ _ _ (mkF m 11 #[.val (.ref a1), .val (.int p2)] [(.long ((((f1 (p2.toInt.toNat)).toInt64) &&& (255 : Int64)) <<< ((56 : Int32) &&& 0x3f).toInt64))])
  refine own_step (fun t k => XS.aloadN X0.here hx rfl (hb hby d1_11) rfl rfl k) ?_
  show own_Fin _ _ _ _ _ _ _ _ (mkF m 12 #[.val (.ref a1), .val (.int p2)] [(.ref a1), (.long ((((f1 (p2.toInt.toNat)).toInt64) &&& (255 : Int64)) <<< ((56 : Int32) &&& 0x3f).toInt64))])
  refine own_step (fun t k => XS.iloadN X0.here hx rfl (hb hby d1_12) rfl k) ?_
  show own_Fin _ _ _ _ _ _ _ _ (mkF m 13 #[.val (.ref a1), .val (.int p2)] [(.int p2), (.ref a1), (.long ((((f1 (p2.toInt.toNat)).toInt64) &&& (255 : Int64)) <<< ((56 : Int32) &&& 0x3f).toInt64))])
  refine own_step (fun t k => XS.iconst X0.here hx rfl (hb hby d1_13) k) ?_
  show own_Fin _ _ _ _ _ _ _ _ (mkF m 14 #[.val (.ref a1), .val (.int p2)] [(.int (1 : Int32)), (.int p2), (.ref a1), (.long ((((f1 (p2.toInt.toNat)).toInt64) &&& (255 : Int64)) <<< ((56 : Int32) &&& 0x3f).toInt64))])
  refine own_step (fun t k => XS.iadd X0.here hx rfl (hb hby d1_14) rfl k) ?_
  show own_Fin _ _ _ _ _ _ _ _ (mkF m 15 #[.val (.ref a1), .val (.int p2)] [(.int (p2 + (1 : Int32))), (.ref a1), (.long ((((f1 (p2.toInt.toNat)).toInt64) &&& (255 : Int64)) <<< ((56 : Int32) &&& 0x3f).toInt64))])
  refine own_baload X0 hx hZ e0 V_a1 (k := p2.toInt.toNat + 1) (by rw [own_ix p2 1 1 (by decide) (by omega) (by omega) (by omega) (by omega)]; omega) (by omega) (v := (f1 (p2.toInt.toNat + 1))) rfl (hb hby d1_15) rfl ?_
  show own_Fin _ _ _ _ _ _ _ _ (mkF m 16 #[.val (.ref a1), .val (.int p2)] [(.int (f1 (p2.toInt.toNat + 1))), (.long ((((f1 (p2.toInt.toNat)).toInt64) &&& (255 : Int64)) <<< ((56 : Int32) &&& 0x3f).toInt64))])
  refine own_step (fun t k => XS.i2l X0.here hx rfl (hb hby d1_16) rfl k) ?_
  show own_Fin _ _ _ _ _ _ _ _ (mkF m 17 #[.val (.ref a1), .val (.int p2)] [(.long ((f1 (p2.toInt.toNat + 1)).toInt64)), (.long ((((f1 (p2.toInt.toNat)).toInt64) &&& (255 : Int64)) <<< ((56 : Int32) &&& 0x3f).toInt64))])
  refine own_step (fun t k => X0.ldc2Long hx hown (mvT hZ (hw _ (List.mem_of_getElem? (i := 9) rfl))) (g := (mkF m 17 #[.val (.ref a1), .val (.int p2)] [(.long ((f1 (p2.toInt.toNat + 1)).toInt64)), (.long ((((f1 (p2.toInt.toNat)).toInt64) &&& (255 : Int64)) <<< ((56 : Int32) &&& 0x3f).toInt64))])) rfl (hb hby d1_17) _ k) ?_
  show own_Fin _ _ _ _ _ _ _ _ (mkF m 20 #[.val (.ref a1), .val (.int p2)] [(.long (255 : Int64)), (.long ((f1 (p2.toInt.toNat + 1)).toInt64)), (.long ((((f1 (p2.toInt.toNat)).toInt64) &&& (255 : Int64)) <<< ((56 : Int32) &&& 0x3f).toInt64))])
  refine own_step (fun t k => XS.land X0.here hx rfl (hb hby d1_20) rfl k) ?_
  show own_Fin _ _ _ _ _ _ _ _ (mkF m 21 #[.val (.ref a1), .val (.int p2)] [(.long (((f1 (p2.toInt.toNat + 1)).toInt64) &&& (255 : Int64))), (.long ((((f1 (p2.toInt.toNat)).toInt64) &&& (255 : Int64)) <<< ((56 : Int32) &&& 0x3f).toInt64))])
  refine own_step (fun t k => XS.bipush X0.here hx rfl (hb hby d1_21) k) ?_
  show own_Fin _ _ _ _ _ _ _ _ (mkF m 23 #[.val (.ref a1), .val (.int p2)] [(.int (48 : Int32)), (.long (((f1 (p2.toInt.toNat + 1)).toInt64) &&& (255 : Int64))), (.long ((((f1 (p2.toInt.toNat)).toInt64) &&& (255 : Int64)) <<< ((56 : Int32) &&& 0x3f).toInt64))])
  refine own_step (fun t k => XS.lshl X0.here hx rfl (hb hby d1_23) rfl k) ?_
  show own_Fin _ _ _ _ _ _ _ _ (mkF m 24 #[.val (.ref a1), .val (.int p2)] [(.long ((((f1 (p2.toInt.toNat + 1)).toInt64) &&& (255 : Int64)) <<< ((48 : Int32) &&& 0x3f).toInt64)), (.long ((((f1 (p2.toInt.toNat)).toInt64) &&& (255 : Int64)) <<< ((56 : Int32) &&& 0x3f).toInt64))])
  refine own_step (fun t k => XS.lor X0.here hx rfl (hb hby d1_24) rfl k) ?_
  show own_Fin _ _ _ _ _ _ _ _ (mkF m 25 #[.val (.ref a1), .val (.int p2)] [(.long (((((f1 (p2.toInt.toNat)).toInt64) &&& (255 : Int64)) <<< ((56 : Int32) &&& 0x3f).toInt64) ||| ((((f1 (p2.toInt.toNat + 1)).toInt64) &&& (255 : Int64)) <<< ((48 : Int32) &&& 0x3f).toInt64)))])
  refine own_step (fun t k => XS.aloadN X0.here hx rfl (hb hby d1_25) rfl rfl k) ?_
  show own_Fin _ _ _ _ _ _ _ _ (mkF m 26 #[.val (.ref a1), .val (.int p2)] [(.ref a1), (.long (((((f1 (p2.toInt.toNat)).toInt64) &&& (255 : Int64)) <<< ((56 : Int32) &&& 0x3f).toInt64) ||| ((((f1 (p2.toInt.toNat + 1)).toInt64) &&& (255 : Int64)) <<< ((48 : Int32) &&& 0x3f).toInt64)))])
  refine own_step (fun t k => XS.iloadN X0.here hx rfl (hb hby d1_26) rfl k) ?_
  show own_Fin _ _ _ _ _ _ _ _ (mkF m 27 #[.val (.ref a1), .val (.int p2)] [(.int p2), (.ref a1), (.long (((((f1 (p2.toInt.toNat)).toInt64) &&& (255 : Int64)) <<< ((56 : Int32) &&& 0x3f).toInt64) ||| ((((f1 (p2.toInt.toNat + 1)).toInt64) &&& (255 : Int64)) <<< ((48 : Int32) &&& 0x3f).toInt64)))])
  refine own_step (fun t k => XS.iconst X0.here hx rfl (hb hby d1_27) k) ?_
  show own_Fin _ _ _ _ _ _ _ _ (mkF m 28 #[.val (.ref a1), .val (.int p2)] [(.int (2 : Int32)), (.int p2), (.ref a1), (.long (((((f1 (p2.toInt.toNat)).toInt64) &&& (255 : Int64)) <<< ((56 : Int32) &&& 0x3f).toInt64) ||| ((((f1 (p2.toInt.toNat + 1)).toInt64) &&& (255 : Int64)) <<< ((48 : Int32) &&& 0x3f).toInt64)))])
  refine own_step (fun t k => XS.iadd X0.here hx rfl (hb hby d1_28) rfl k) ?_
  show own_Fin _ _ _ _ _ _ _ _ (mkF m 29 #[.val (.ref a1), .val (.int p2)] [(.int (p2 + (2 : Int32))), (.ref a1), (.long (((((f1 (p2.toInt.toNat)).toInt64) &&& (255 : Int64)) <<< ((56 : Int32) &&& 0x3f).toInt64) ||| ((((f1 (p2.toInt.toNat + 1)).toInt64) &&& (255 : Int64)) <<< ((48 : Int32) &&& 0x3f).toInt64)))])
  refine own_baload X0 hx hZ e0 V_a1 (k := p2.toInt.toNat + 2) (by rw [own_ix p2 2 2 (by decide) (by omega) (by omega) (by omega) (by omega)]; omega) (by omega) (v := (f1 (p2.toInt.toNat + 2))) rfl (hb hby d1_29) rfl ?_
  show own_Fin _ _ _ _ _ _ _ _ (mkF m 30 #[.val (.ref a1), .val (.int p2)] [(.int (f1 (p2.toInt.toNat + 2))), (.long (((((f1 (p2.toInt.toNat)).toInt64) &&& (255 : Int64)) <<< ((56 : Int32) &&& 0x3f).toInt64) ||| ((((f1 (p2.toInt.toNat + 1)).toInt64) &&& (255 : Int64)) <<< ((48 : Int32) &&& 0x3f).toInt64)))])
  refine own_step (fun t k => XS.i2l X0.here hx rfl (hb hby d1_30) rfl k) ?_
  show own_Fin _ _ _ _ _ _ _ _ (mkF m 31 #[.val (.ref a1), .val (.int p2)] [(.long ((f1 (p2.toInt.toNat + 2)).toInt64)), (.long (((((f1 (p2.toInt.toNat)).toInt64) &&& (255 : Int64)) <<< ((56 : Int32) &&& 0x3f).toInt64) ||| ((((f1 (p2.toInt.toNat + 1)).toInt64) &&& (255 : Int64)) <<< ((48 : Int32) &&& 0x3f).toInt64)))])
  refine own_step (fun t k => X0.ldc2Long hx hown (mvT hZ (hw _ (List.mem_of_getElem? (i := 9) rfl))) (g := (mkF m 31 #[.val (.ref a1), .val (.int p2)] [(.long ((f1 (p2.toInt.toNat + 2)).toInt64)), (.long (((((f1 (p2.toInt.toNat)).toInt64) &&& (255 : Int64)) <<< ((56 : Int32) &&& 0x3f).toInt64) ||| ((((f1 (p2.toInt.toNat + 1)).toInt64) &&& (255 : Int64)) <<< ((48 : Int32) &&& 0x3f).toInt64)))])) rfl (hb hby d1_31) _ k) ?_
  show own_Fin _ _ _ _ _ _ _ _ (mkF m 34 #[.val (.ref a1), .val (.int p2)] [(.long (255 : Int64)), (.long ((f1 (p2.toInt.toNat + 2)).toInt64)), (.long (((((f1 (p2.toInt.toNat)).toInt64) &&& (255 : Int64)) <<< ((56 : Int32) &&& 0x3f).toInt64) ||| ((((f1 (p2.toInt.toNat + 1)).toInt64) &&& (255 : Int64)) <<< ((48 : Int32) &&& 0x3f).toInt64)))])
  refine own_step (fun t k => XS.land X0.here hx rfl (hb hby d1_34) rfl k) ?_
  show own_Fin _ _ _ _ _ _ _ _ (mkF m 35 #[.val (.ref a1), .val (.int p2)] [(.long (((f1 (p2.toInt.toNat + 2)).toInt64) &&& (255 : Int64))), (.long (((((f1 (p2.toInt.toNat)).toInt64) &&& (255 : Int64)) <<< ((56 : Int32) &&& 0x3f).toInt64) ||| ((((f1 (p2.toInt.toNat + 1)).toInt64) &&& (255 : Int64)) <<< ((48 : Int32) &&& 0x3f).toInt64)))])
  refine own_step (fun t k => XS.bipush X0.here hx rfl (hb hby d1_35) k) ?_
  show own_Fin _ _ _ _ _ _ _ _ (mkF m 37 #[.val (.ref a1), .val (.int p2)] [(.int (40 : Int32)), (.long (((f1 (p2.toInt.toNat + 2)).toInt64) &&& (255 : Int64))), (.long (((((f1 (p2.toInt.toNat)).toInt64) &&& (255 : Int64)) <<< ((56 : Int32) &&& 0x3f).toInt64) ||| ((((f1 (p2.toInt.toNat + 1)).toInt64) &&& (255 : Int64)) <<< ((48 : Int32) &&& 0x3f).toInt64)))])
  refine own_step (fun t k => XS.lshl X0.here hx rfl (hb hby d1_37) rfl k) ?_
  show own_Fin _ _ _ _ _ _ _ _ (mkF m 38 #[.val (.ref a1), .val (.int p2)] [(.long ((((f1 (p2.toInt.toNat + 2)).toInt64) &&& (255 : Int64)) <<< ((40 : Int32) &&& 0x3f).toInt64)), (.long (((((f1 (p2.toInt.toNat)).toInt64) &&& (255 : Int64)) <<< ((56 : Int32) &&& 0x3f).toInt64) ||| ((((f1 (p2.toInt.toNat + 1)).toInt64) &&& (255 : Int64)) <<< ((48 : Int32) &&& 0x3f).toInt64)))])
  refine own_step (fun t k => XS.lor X0.here hx rfl (hb hby d1_38) rfl k) ?_
  show own_Fin _ _ _ _ _ _ _ _ (mkF m 39 #[.val (.ref a1), .val (.int p2)] [(.long ((((((f1 (p2.toInt.toNat)).toInt64) &&& (255 : Int64)) <<< ((56 : Int32) &&& 0x3f).toInt64) ||| ((((f1 (p2.toInt.toNat + 1)).toInt64) &&& (255 : Int64)) <<< ((48 : Int32) &&& 0x3f).toInt64)) ||| ((((f1 (p2.toInt.toNat + 2)).toInt64) &&& (255 : Int64)) <<< ((40 : Int32) &&& 0x3f).toInt64)))])
  refine own_step (fun t k => XS.aloadN X0.here hx rfl (hb hby d1_39) rfl rfl k) ?_
  show own_Fin _ _ _ _ _ _ _ _ (mkF m 40 #[.val (.ref a1), .val (.int p2)] [(.ref a1), (.long ((((((f1 (p2.toInt.toNat)).toInt64) &&& (255 : Int64)) <<< ((56 : Int32) &&& 0x3f).toInt64) ||| ((((f1 (p2.toInt.toNat + 1)).toInt64) &&& (255 : Int64)) <<< ((48 : Int32) &&& 0x3f).toInt64)) ||| ((((f1 (p2.toInt.toNat + 2)).toInt64) &&& (255 : Int64)) <<< ((40 : Int32) &&& 0x3f).toInt64)))])
  refine own_step (fun t k => XS.iloadN X0.here hx rfl (hb hby d1_40) rfl k) ?_
  show own_Fin _ _ _ _ _ _ _ _ (mkF m 41 #[.val (.ref a1), .val (.int p2)] [(.int p2), (.ref a1), (.long ((((((f1 (p2.toInt.toNat)).toInt64) &&& (255 : Int64)) <<< ((56 : Int32) &&& 0x3f).toInt64) ||| ((((f1 (p2.toInt.toNat + 1)).toInt64) &&& (255 : Int64)) <<< ((48 : Int32) &&& 0x3f).toInt64)) ||| ((((f1 (p2.toInt.toNat + 2)).toInt64) &&& (255 : Int64)) <<< ((40 : Int32) &&& 0x3f).toInt64)))])
  refine own_step (fun t k => XS.iconst X0.here hx rfl (hb hby d1_41) k) ?_
  show own_Fin _ _ _ _ _ _ _ _ (mkF m 42 #[.val (.ref a1), .val (.int p2)] [(.int (3 : Int32)), (.int p2), (.ref a1), (.long ((((((f1 (p2.toInt.toNat)).toInt64) &&& (255 : Int64)) <<< ((56 : Int32) &&& 0x3f).toInt64) ||| ((((f1 (p2.toInt.toNat + 1)).toInt64) &&& (255 : Int64)) <<< ((48 : Int32) &&& 0x3f).toInt64)) ||| ((((f1 (p2.toInt.toNat + 2)).toInt64) &&& (255 : Int64)) <<< ((40 : Int32) &&& 0x3f).toInt64)))])
  refine own_step (fun t k => XS.iadd X0.here hx rfl (hb hby d1_42) rfl k) ?_
  show own_Fin _ _ _ _ _ _ _ _ (mkF m 43 #[.val (.ref a1), .val (.int p2)] [(.int (p2 + (3 : Int32))), (.ref a1), (.long ((((((f1 (p2.toInt.toNat)).toInt64) &&& (255 : Int64)) <<< ((56 : Int32) &&& 0x3f).toInt64) ||| ((((f1 (p2.toInt.toNat + 1)).toInt64) &&& (255 : Int64)) <<< ((48 : Int32) &&& 0x3f).toInt64)) ||| ((((f1 (p2.toInt.toNat + 2)).toInt64) &&& (255 : Int64)) <<< ((40 : Int32) &&& 0x3f).toInt64)))])
  refine own_baload X0 hx hZ e0 V_a1 (k := p2.toInt.toNat + 3) (by rw [own_ix p2 3 3 (by decide) (by omega) (by omega) (by omega) (by omega)]; omega) (by omega) (v := (f1 (p2.toInt.toNat + 3))) rfl (hb hby d1_43) rfl ?_
  show own_Fin _ _ _ _ _ _ _ _ (mkF m 44 #[.val (.ref a1), .val (.int p2)] [(.int (f1 (p2.toInt.toNat + 3))), (.long ((((((f1 (p2.toInt.toNat)).toInt64) &&& (255 : Int64)) <<< ((56 : Int32) &&& 0x3f).toInt64) ||| ((((f1 (p2.toInt.toNat + 1)).toInt64) &&& (255 : Int64)) <<< ((48 : Int32) &&& 0x3f).toInt64)) ||| ((((f1 (p2.toInt.toNat + 2)).toInt64) &&& (255 : Int64)) <<< ((40 : Int32) &&& 0x3f).toInt64)))])
  refine own_step (fun t k => XS.i2l X0.here hx rfl (hb hby d1_44) rfl k) ?_
  show own_Fin _ _ _ _ _ _ _ _ (mkF m 45 #[.val (.ref a1), .val (.int p2)] [(.long ((f1 (p2.toInt.toNat + 3)).toInt64)), (.long ((((((f1 (p2.toInt.toNat)).toInt64) &&& (255 : Int64)) <<< ((56 : Int32) &&& 0x3f).toInt64) ||| ((((f1 (p2.toInt.toNat + 1)).toInt64) &&& (255 : Int64)) <<< ((48 : Int32) &&& 0x3f).toInt64)) ||| ((((f1 (p2.toInt.toNat + 2)).toInt64) &&& (255 : Int64)) <<< ((40 : Int32) &&& 0x3f).toInt64)))])
  refine own_step (fun t k => X0.ldc2Long hx hown (mvT hZ (hw _ (List.mem_of_getElem? (i := 9) rfl))) (g := (mkF m 45 #[.val (.ref a1), .val (.int p2)] [(.long ((f1 (p2.toInt.toNat + 3)).toInt64)), (.long ((((((f1 (p2.toInt.toNat)).toInt64) &&& (255 : Int64)) <<< ((56 : Int32) &&& 0x3f).toInt64) ||| ((((f1 (p2.toInt.toNat + 1)).toInt64) &&& (255 : Int64)) <<< ((48 : Int32) &&& 0x3f).toInt64)) ||| ((((f1 (p2.toInt.toNat + 2)).toInt64) &&& (255 : Int64)) <<< ((40 : Int32) &&& 0x3f).toInt64)))])) rfl (hb hby d1_45) _ k) ?_
  show own_Fin _ _ _ _ _ _ _ _ (mkF m 48 #[.val (.ref a1), .val (.int p2)] [(.long (255 : Int64)), (.long ((f1 (p2.toInt.toNat + 3)).toInt64)), (.long ((((((f1 (p2.toInt.toNat)).toInt64) &&& (255 : Int64)) <<< ((56 : Int32) &&& 0x3f).toInt64) ||| ((((f1 (p2.toInt.toNat + 1)).toInt64) &&& (255 : Int64)) <<< ((48 : Int32) &&& 0x3f).toInt64)) ||| ((((f1 (p2.toInt.toNat + 2)).toInt64) &&& (255 : Int64)) <<< ((40 : Int32) &&& 0x3f).toInt64)))])
  refine own_step (fun t k => XS.land X0.here hx rfl (hb hby d1_48) rfl k) ?_
  show own_Fin _ _ _ _ _ _ _ _ (mkF m 49 #[.val (.ref a1), .val (.int p2)] [(.long (((f1 (p2.toInt.toNat + 3)).toInt64) &&& (255 : Int64))), (.long ((((((f1 (p2.toInt.toNat)).toInt64) &&& (255 : Int64)) <<< ((56 : Int32) &&& 0x3f).toInt64) ||| ((((f1 (p2.toInt.toNat + 1)).toInt64) &&& (255 : Int64)) <<< ((48 : Int32) &&& 0x3f).toInt64)) ||| ((((f1 (p2.toInt.toNat + 2)).toInt64) &&& (255 : Int64)) <<< ((40 : Int32) &&& 0x3f).toInt64)))])
  refine own_step (fun t k => XS.bipush X0.here hx rfl (hb hby d1_49) k) ?_
  show own_Fin _ _ _ _ _ _ _ _ (mkF m 51 #[.val (.ref a1), .val (.int p2)] [(.int (32 : Int32)), (.long (((f1 (p2.toInt.toNat + 3)).toInt64) &&& (255 : Int64))), (.long ((((((f1 (p2.toInt.toNat)).toInt64) &&& (255 : Int64)) <<< ((56 : Int32) &&& 0x3f).toInt64) ||| ((((f1 (p2.toInt.toNat + 1)).toInt64) &&& (255 : Int64)) <<< ((48 : Int32) &&& 0x3f).toInt64)) ||| ((((f1 (p2.toInt.toNat + 2)).toInt64) &&& (255 : Int64)) <<< ((40 : Int32) &&& 0x3f).toInt64)))])
  refine own_step (fun t k => XS.lshl X0.here hx rfl (hb hby d1_51) rfl k) ?_
  show own_Fin _ _ _ _ _ _ _ _ (mkF m 52 #[.val (.ref a1), .val (.int p2)] [(.long ((((f1 (p2.toInt.toNat + 3)).toInt64) &&& (255 : Int64)) <<< ((32 : Int32) &&& 0x3f).toInt64)), (.long ((((((f1 (p2.toInt.toNat)).toInt64) &&& (255 : Int64)) <<< ((56 : Int32) &&& 0x3f).toInt64) ||| ((((f1 (p2.toInt.toNat + 1)).toInt64) &&& (255 : Int64)) <<< ((48 : Int32) &&& 0x3f).toInt64)) ||| ((((f1 (p2.toInt.toNat + 2)).toInt64) &&& (255 : Int64)) <<< ((40 : Int32) &&& 0x3f).toInt64)))])
  refine own_step (fun t k => XS.lor X0.here hx rfl (hb hby d1_52) rfl k) ?_
  show own_Fin _ _ _ _ _ _ _ _ (mkF m 53 #[.val (.ref a1), .val (.int p2)] [(.long (((((((f1 (p2.toInt.toNat)).toInt64) &&& (255 : Int64)) <<< ((56 : Int32) &&& 0x3f).toInt64) ||| ((((f1 (p2.toInt.toNat + 1)).toInt64) &&& (255 : Int64)) <<< ((48 : Int32) &&& 0x3f).toInt64)) ||| ((((f1 (p2.toInt.toNat + 2)).toInt64) &&& (255 : Int64)) <<< ((40 : Int32) &&& 0x3f).toInt64)) ||| ((((f1 (p2.toInt.toNat + 3)).toInt64) &&& (255 : Int64)) <<< ((32 : Int32) &&& 0x3f).toInt64)))])
  refine own_step (fun t k => XS.aloadN X0.here hx rfl (hb hby d1_53) rfl rfl k) ?_
  show own_Fin _ _ _ _ _ _ _ _ (mkF m 54 #[.val (.ref a1), .val (.int p2)] [(.ref a1), (.long (((((((f1 (p2.toInt.toNat)).toInt64) &&& (255 : Int64)) <<< ((56 : Int32) &&& 0x3f).toInt64) ||| ((((f1 (p2.toInt.toNat + 1)).toInt64) &&& (255 : Int64)) <<< ((48 : Int32) &&& 0x3f).toInt64)) ||| ((((f1 (p2.toInt.toNat + 2)).toInt64) &&& (255 : Int64)) <<< ((40 : Int32) &&& 0x3f).toInt64)) ||| ((((f1 (p2.toInt.toNat + 3)).toInt64) &&& (255 : Int64)) <<< ((32 : Int32) &&& 0x3f).toInt64)))])
  refine own_step (fun t k => XS.iloadN X0.here hx rfl (hb hby d1_54) rfl k) ?_
  show own_Fin _ _ _ _ _ _ _ _ (mkF m 55 #[.val (.ref a1), .val (.int p2)] [(.int p2), (.ref a1), (.long (((((((f1 (p2.toInt.toNat)).toInt64) &&& (255 : Int64)) <<< ((56 : Int32) &&& 0x3f).toInt64) ||| ((((f1 (p2.toInt.toNat + 1)).toInt64) &&& (255 : Int64)) <<< ((48 : Int32) &&& 0x3f).toInt64)) ||| ((((f1 (p2.toInt.toNat + 2)).toInt64) &&& (255 : Int64)) <<< ((40 : Int32) &&& 0x3f).toInt64)) ||| ((((f1 (p2.toInt.toNat + 3)).toInt64) &&& (255 : Int64)) <<< ((32 : Int32) &&& 0x3f).toInt64)))])
  refine own_step (fun t k => XS.iconst X0.here hx rfl (hb hby d1_55) k) ?_
  show own_Fin _ _ _ _ _ _ _ _ (mkF m 56 #[.val (.ref a1), .val (.int p2)] [(.int (4 : Int32)), (.int p2), (.ref a1), (.long (((((((f1 (p2.toInt.toNat)).toInt64) &&& (255 : Int64)) <<< ((56 : Int32) &&& 0x3f).toInt64) ||| ((((f1 (p2.toInt.toNat + 1)).toInt64) &&& (255 : Int64)) <<< ((48 : Int32) &&& 0x3f).toInt64)) ||| ((((f1 (p2.toInt.toNat + 2)).toInt64) &&& (255 : Int64)) <<< ((40 : Int32) &&& 0x3f).toInt64)) ||| ((((f1 (p2.toInt.toNat + 3)).toInt64) &&& (255 : Int64)) <<< ((32 : Int32) &&& 0x3f).toInt64)))])
  refine own_step (fun t k => XS.iadd X0.here hx rfl (hb hby d1_56) rfl k) ?_
  show own_Fin _ _ _ _ _ _ _ _ (mkF m 57 #[.val (.ref a1), .val (.int p2)] [(.int (p2 + (4 : Int32))), (.ref a1), (.long (((((((f1 (p2.toInt.toNat)).toInt64) &&& (255 : Int64)) <<< ((56 : Int32) &&& 0x3f).toInt64) ||| ((((f1 (p2.toInt.toNat + 1)).toInt64) &&& (255 : Int64)) <<< ((48 : Int32) &&& 0x3f).toInt64)) ||| ((((f1 (p2.toInt.toNat + 2)).toInt64) &&& (255 : Int64)) <<< ((40 : Int32) &&& 0x3f).toInt64)) ||| ((((f1 (p2.toInt.toNat + 3)).toInt64) &&& (255 : Int64)) <<< ((32 : Int32) &&& 0x3f).toInt64)))])
  refine own_baload X0 hx hZ e0 V_a1 (k := p2.toInt.toNat + 4) (by rw [own_ix p2 4 4 (by decide) (by omega) (by omega) (by omega) (by omega)]; omega) (by omega) (v := (f1 (p2.toInt.toNat + 4))) rfl (hb hby d1_57) rfl ?_
  show own_Fin _ _ _ _ _ _ _ _ (mkF m 58 #[.val (.ref a1), .val (.int p2)] [(.int (f1 (p2.toInt.toNat + 4))), (.long (((((((f1 (p2.toInt.toNat)).toInt64) &&& (255 : Int64)) <<< ((56 : Int32) &&& 0x3f).toInt64) ||| ((((f1 (p2.toInt.toNat + 1)).toInt64) &&& (255 : Int64)) <<< ((48 : Int32) &&& 0x3f).toInt64)) ||| ((((f1 (p2.toInt.toNat + 2)).toInt64) &&& (255 : Int64)) <<< ((40 : Int32) &&& 0x3f).toInt64)) ||| ((((f1 (p2.toInt.toNat + 3)).toInt64) &&& (255 : Int64)) <<< ((32 : Int32) &&& 0x3f).toInt64)))])
  refine own_step (fun t k => XS.i2l X0.here hx rfl (hb hby d1_58) rfl k) ?_
  show own_Fin _ _ _ _ _ _ _ _ (mkF m 59 #[.val (.ref a1), .val (.int p2)] [(.long ((f1 (p2.toInt.toNat + 4)).toInt64)), (.long (((((((f1 (p2.toInt.toNat)).toInt64) &&& (255 : Int64)) <<< ((56 : Int32) &&& 0x3f).toInt64) ||| ((((f1 (p2.toInt.toNat + 1)).toInt64) &&& (255 : Int64)) <<< ((48 : Int32) &&& 0x3f).toInt64)) ||| ((((f1 (p2.toInt.toNat + 2)).toInt64) &&& (255 : Int64)) <<< ((40 : Int32) &&& 0x3f).toInt64)) ||| ((((f1 (p2.toInt.toNat + 3)).toInt64) &&& (255 : Int64)) <<< ((32 : Int32) &&& 0x3f).toInt64)))])
  refine own_step (fun t k => X0.ldc2Long hx hown (mvT hZ (hw _ (List.mem_of_getElem? (i := 9) rfl))) (g := (mkF m 59 #[.val (.ref a1), .val (.int p2)] [(.long ((f1 (p2.toInt.toNat + 4)).toInt64)), (.long (((((((f1 (p2.toInt.toNat)).toInt64) &&& (255 : Int64)) <<< ((56 : Int32) &&& 0x3f).toInt64) ||| ((((f1 (p2.toInt.toNat + 1)).toInt64) &&& (255 : Int64)) <<< ((48 : Int32) &&& 0x3f).toInt64)) ||| ((((f1 (p2.toInt.toNat + 2)).toInt64) &&& (255 : Int64)) <<< ((40 : Int32) &&& 0x3f).toInt64)) ||| ((((f1 (p2.toInt.toNat + 3)).toInt64) &&& (255 : Int64)) <<< ((32 : Int32) &&& 0x3f).toInt64)))])) rfl (hb hby d1_59) _ k) ?_
  show own_Fin _ _ _ _ _ _ _ _ (mkF m 62 #[.val (.ref a1), .val (.int p2)] [(.long (255 : Int64)), (.long ((f1 (p2.toInt.toNat + 4)).toInt64)), (.long (((((((f1 (p2.toInt.toNat)).toInt64) &&& (255 : Int64)) <<< ((56 : Int32) &&& 0x3f).toInt64) ||| ((((f1 (p2.toInt.toNat + 1)).toInt64) &&& (255 : Int64)) <<< ((48 : Int32) &&& 0x3f).toInt64)) ||| ((((f1 (p2.toInt.toNat + 2)).toInt64) &&& (255 : Int64)) <<< ((40 : Int32) &&& 0x3f).toInt64)) ||| ((((f1 (p2.toInt.toNat + 3)).toInt64) &&& (255 : Int64)) <<< ((32 : Int32) &&& 0x3f).toInt64)))])
  refine own_step (fun t k => XS.land X0.here hx rfl (hb hby d1_62) rfl k) ?_
  show own_Fin _ _ _ _ _ _ _ _ (mkF m 63 #[.val (.ref a1), .val (.int p2)] [(.long (((f1 (p2.toInt.toNat + 4)).toInt64) &&& (255 : Int64))), (.long (((((((f1 (p2.toInt.toNat)).toInt64) &&& (255 : Int64)) <<< ((56 : Int32) &&& 0x3f).toInt64) ||| ((((f1 (p2.toInt.toNat + 1)).toInt64) &&& (255 : Int64)) <<< ((48 : Int32) &&& 0x3f).toInt64)) ||| ((((f1 (p2.toInt.toNat + 2)).toInt64) &&& (255 : Int64)) <<< ((40 : Int32) &&& 0x3f).toInt64)) ||| ((((f1 (p2.toInt.toNat + 3)).toInt64) &&& (255 : Int64)) <<< ((32 : Int32) &&& 0x3f).toInt64)))])
  refine own_step (fun t k => XS.bipush X0.here hx rfl (hb hby d1_63) k) ?_
  show own_Fin _ _ _ _ _ _ _ _ (mkF m 65 #[.val (.ref a1), .val (.int p2)] [(.int (24 : Int32)), (.long (((f1 (p2.toInt.toNat + 4)).toInt64) &&& (255 : Int64))), (.long (((((((f1 (p2.toInt.toNat)).toInt64) &&& (255 : Int64)) <<< ((56 : Int32) &&& 0x3f).toInt64) ||| ((((f1 (p2.toInt.toNat + 1)).toInt64) &&& (255 : Int64)) <<< ((48 : Int32) &&& 0x3f).toInt64)) ||| ((((f1 (p2.toInt.toNat + 2)).toInt64) &&& (255 : Int64)) <<< ((40 : Int32) &&& 0x3f).toInt64)) ||| ((((f1 (p2.toInt.toNat + 3)).toInt64) &&& (255 : Int64)) <<< ((32 : Int32) &&& 0x3f).toInt64)))])
  refine own_step (fun t k => XS.lshl X0.here hx rfl (hb hby d1_65) rfl k) ?_
  show own_Fin _ _ _ _ _ _ _ _ (mkF m 66 #[.val (.ref a1), .val (.int p2)] [(.long ((((f1 (p2.toInt.toNat + 4)).toInt64) &&& (255 : Int64)) <<< ((24 : Int32) &&& 0x3f).toInt64)), (.long (((((((f1 (p2.toInt.toNat)).toInt64) &&& (255 : Int64)) <<< ((56 : Int32) &&& 0x3f).toInt64) ||| ((((f1 (p2.toInt.toNat + 1)).toInt64) &&& (255 : Int64)) <<< ((48 : Int32) &&& 0x3f).toInt64)) ||| ((((f1 (p2.toInt.toNat + 2)).toInt64) &&& (255 : Int64)) <<< ((40 : Int32) &&& 0x3f).toInt64)) ||| ((((f1 (p2.toInt.toNat + 3)).toInt64) &&& (255 : Int64)) <<< ((32 : Int32) &&& 0x3f).toInt64)))])
  refine own_step (fun t k => XS.lor X0.here hx rfl (hb hby d1_66) rfl k) ?_
  show own_Fin _ _ _ _ _ _ _ _ (mkF m 67 #[.val (.ref a1), .val (.int p2)] [(.long ((((((((f1 (p2.toInt.toNat)).toInt64) &&& (255 : Int64)) <<< ((56 : Int32) &&& 0x3f).toInt64) ||| ((((f1 (p2.toInt.toNat + 1)).toInt64) &&& (255 : Int64)) <<< ((48 : Int32) &&& 0x3f).toInt64)) ||| ((((f1 (p2.toInt.toNat + 2)).toInt64) &&& (255 : Int64)) <<< ((40 : Int32) &&& 0x3f).toInt64)) ||| ((((f1 (p2.toInt.toNat + 3)).toInt64) &&& (255 : Int64)) <<< ((32 : Int32) &&& 0x3f).toInt64)) ||| ((((f1 (p2.toInt.toNat + 4)).toInt64) &&& (255 : Int64)) <<< ((24 : Int32) &&& 0x3f).toInt64)))])
  refine own_step (fun t k => XS.aloadN X0.here hx rfl (hb hby d1_67) rfl rfl k) ?_
  show own_Fin _ _ _ _ _ _ _ _ (mkF m 68 #[.val (.ref a1), .val (.int p2)] [(.ref a1), (.long ((((((((f1 (p2.toInt.toNat)).toInt64) &&& (255 : Int64)) <<< ((56 : Int32) &&& 0x3f).toInt64) ||| ((((f1 (p2.toInt.toNat + 1)).toInt64) &&& (255 : Int64)) <<< ((48 : Int32) &&& 0x3f).toInt64)) ||| ((((f1 (p2.toInt.toNat + 2)).toInt64) &&& (255 : Int64)) <<< ((40 : Int32) &&& 0x3f).toInt64)) ||| ((((f1 (p2.toInt.toNat + 3)).toInt64) &&& (255 : Int64)) <<< ((32 : Int32) &&& 0x3f).toInt64)) ||| ((((f1 (p2.toInt.toNat + 4)).toInt64) &&& (255 : Int64)) <<< ((24 : Int32) &&& 0x3f).toInt64)))])
  refine own_step (fun t k => XS.iloadN X0.here hx rfl (hb hby d1_68) rfl k) ?_
  show own_Fin _ _ _ _ _ _ _ _ (mkF m 69 #[.val (.ref a1), .val (.int p2)] [(.int p2), (.ref a1), (.long ((((((((f1 (p2.toInt.toNat)).toInt64) &&& (255 : Int64)) <<< ((56 : Int32) &&& 0x3f).toInt64) ||| ((((f1 (p2.toInt.toNat + 1)).toInt64) &&& (255 : Int64)) <<< ((48 : Int32) &&& 0x3f).toInt64)) ||| ((((f1 (p2.toInt.toNat + 2)).toInt64) &&& (255 : Int64)) <<< ((40 : Int32) &&& 0x3f).toInt64)) ||| ((((f1 (p2.toInt.toNat + 3)).toInt64) &&& (255 : Int64)) <<< ((32 : Int32) &&& 0x3f).toInt64)) ||| ((((f1 (p2.toInt.toNat + 4)).toInt64) &&& (255 : Int64)) <<< ((24 : Int32) &&& 0x3f).toInt64)))])
  refine own_step (fun t k => XS.iconst X0.here hx rfl (hb hby d1_69) k) ?_
  show own_Fin _ _ _ _ _ _ _ _ (mkF m 70 #[.val (.ref a1), .val (.int p2)] [(.int (5 : Int32)), (.int p2), (.ref a1), (.long ((((((((f1 (p2.toInt.toNat)).toInt64) &&& (255 : Int64)) <<< ((56 : Int32) &&& 0x3f).toInt64) ||| ((((f1 (p2.toInt.toNat + 1)).toInt64) &&& (255 : Int64)) <<< ((48 : Int32) &&& 0x3f).toInt64)) ||| ((((f1 (p2.toInt.toNat + 2)).toInt64) &&& (255 : Int64)) <<< ((40 : Int32) &&& 0x3f).toInt64)) ||| ((((f1 (p2.toInt.toNat + 3)).toInt64) &&& (255 : Int64)) <<< ((32 : Int32) &&& 0x3f).toInt64)) ||| ((((f1 (p2.toInt.toNat + 4)).toInt64) &&& (255 : Int64)) <<< ((24 : Int32) &&& 0x3f).toInt64)))])
  refine own_step (fun t k => XS.iadd X0.here hx rfl (hb hby d1_70) rfl k) ?_
  show own_Fin _ _ _ _ _ _ _ _ (mkF m 71 #[.val (.ref a1), .val (.int p2)] [(.int (p2 + (5 : Int32))), (.ref a1), (.long ((((((((f1 (p2.toInt.toNat)).toInt64) &&& (255 : Int64)) <<< ((56 : Int32) &&& 0x3f).toInt64) ||| ((((f1 (p2.toInt.toNat + 1)).toInt64) &&& (255 : Int64)) <<< ((48 : Int32) &&& 0x3f).toInt64)) ||| ((((f1 (p2.toInt.toNat + 2)).toInt64) &&& (255 : Int64)) <<< ((40 : Int32) &&& 0x3f).toInt64)) ||| ((((f1 (p2.toInt.toNat + 3)).toInt64) &&& (255 : Int64)) <<< ((32 : Int32) &&& 0x3f).toInt64)) ||| ((((f1 (p2.toInt.toNat + 4)).toInt64) &&& (255 : Int64)) <<< ((24 : Int32) &&& 0x3f).toInt64)))])
  refine own_baload X0 hx hZ e0 V_a1 (k := p2.toInt.toNat + 5) (by rw [own_ix p2 5 5 (by decide) (by omega) (by omega) (by omega) (by omega)]; omega) (by omega) (v := (f1 (p2.toInt.toNat + 5))) rfl (hb hby d1_71) rfl ?_
  show own_Fin _ _ _ _ _ _ _ _ (mkF m 72 #[.val (.ref a1), .val (.int p2)] [(.int (f1 (p2.toInt.toNat + 5))), (.long ((((((((f1 (p2.toInt.toNat)).toInt64) &&& (255 : Int64)) <<< ((56 : Int32) &&& 0x3f).toInt64) ||| ((((f1 (p2.toInt.toNat + 1)).toInt64) &&& (255 : Int64)) <<< ((48 : Int32) &&& 0x3f).toInt64)) ||| ((((f1 (p2.toInt.toNat + 2)).toInt64) &&& (255 : Int64)) <<< ((40 : Int32) &&& 0x3f).toInt64)) ||| ((((f1 (p2.toInt.toNat + 3)).toInt64) &&& (255 : Int64)) <<< ((32 : Int32) &&& 0x3f).toInt64)) ||| ((((f1 (p2.toInt.toNat + 4)).toInt64) &&& (255 : Int64)) <<< ((24 : Int32) &&& 0x3f).toInt64)))])
  refine own_step (fun t k => XS.i2l X0.here hx rfl (hb hby d1_72) rfl k) ?_
  show own_Fin _ _ _ _ _ _ _ _ (mkF m 73 #[.val (.ref a1), .val (.int p2)] [(.long ((f1 (p2.toInt.toNat + 5)).toInt64)), (.long ((((((((f1 (p2.toInt.toNat)).toInt64) &&& (255 : Int64)) <<< ((56 : Int32) &&& 0x3f).toInt64) ||| ((((f1 (p2.toInt.toNat + 1)).toInt64) &&& (255 : Int64)) <<< ((48 : Int32) &&& 0x3f).toInt64)) ||| ((((f1 (p2.toInt.toNat + 2)).toInt64) &&& (255 : Int64)) <<< ((40 : Int32) &&& 0x3f).toInt64)) ||| ((((f1 (p2.toInt.toNat + 3)).toInt64) &&& (255 : Int64)) <<< ((32 : Int32) &&& 0x3f).toInt64)) ||| ((((f1 (p2.toInt.toNat + 4)).toInt64) &&& (255 : Int64)) <<< ((24 : Int32) &&& 0x3f).toInt64)))])
  refine own_step (fun t k => X0.ldc2Long hx hown (mvT hZ (hw _ (List.mem_of_getElem? (i := 9) rfl))) (g := (mkF m 73 #[.val (.ref a1), .val (.int p2)] [(.long ((f1 (p2.toInt.toNat + 5)).toInt64)), (.long ((((((((f1 (p2.toInt.toNat)).toInt64) &&& (255 : Int64)) <<< ((56 : Int32) &&& 0x3f).toInt64) ||| ((((f1 (p2.toInt.toNat + 1)).toInt64) &&& (255 : Int64)) <<< ((48 : Int32) &&& 0x3f).toInt64)) ||| ((((f1 (p2.toInt.toNat + 2)).toInt64) &&& (255 : Int64)) <<< ((40 : Int32) &&& 0x3f).toInt64)) ||| ((((f1 (p2.toInt.toNat + 3)).toInt64) &&& (255 : Int64)) <<< ((32 : Int32) &&& 0x3f).toInt64)) ||| ((((f1 (p2.toInt.toNat + 4)).toInt64) &&& (255 : Int64)) <<< ((24 : Int32) &&& 0x3f).toInt64)))])) rfl (hb hby d1_73) _ k) ?_
  show own_Fin _ _ _ _ _ _ _ _ (mkF m 76 #[.val (.ref a1), .val (.int p2)] [(.long (255 : Int64)), (.long ((f1 (p2.toInt.toNat + 5)).toInt64)), (.long ((((((((f1 (p2.toInt.toNat)).toInt64) &&& (255 : Int64)) <<< ((56 : Int32) &&& 0x3f).toInt64) ||| ((((f1 (p2.toInt.toNat + 1)).toInt64) &&& (255 : Int64)) <<< ((48 : Int32) &&& 0x3f).toInt64)) ||| ((((f1 (p2.toInt.toNat + 2)).toInt64) &&& (255 : Int64)) <<< ((40 : Int32) &&& 0x3f).toInt64)) ||| ((((f1 (p2.toInt.toNat + 3)).toInt64) &&& (255 : Int64)) <<< ((32 : Int32) &&& 0x3f).toInt64)) ||| ((((f1 (p2.toInt.toNat + 4)).toInt64) &&& (255 : Int64)) <<< ((24 : Int32) &&& 0x3f).toInt64)))])
  refine own_step (fun t k => XS.land X0.here hx rfl (hb hby d1_76) rfl k) ?_
  show own_Fin _ _ _ _ _ _ _ _ (mkF m 77 #[.val (.ref a1), .val (.int p2)] [(.long (((f1 (p2.toInt.toNat + 5)).toInt64) &&& (255 : Int64))), (.long ((((((((f1 (p2.toInt.toNat)).toInt64) &&& (255 : Int64)) <<< ((56 : Int32) &&& 0x3f).toInt64) ||| ((((f1 (p2.toInt.toNat + 1)).toInt64) &&& (255 : Int64)) <<< ((48 : Int32) &&& 0x3f).toInt64)) ||| ((((f1 (p2.toInt.toNat + 2)).toInt64) &&& (255 : Int64)) <<< ((40 : Int32) &&& 0x3f).toInt64)) ||| ((((f1 (p2.toInt.toNat + 3)).toInt64) &&& (255 : Int64)) <<< ((32 : Int32) &&& 0x3f).toInt64)) ||| ((((f1 (p2.toInt.toNat + 4)).toInt64) &&& (255 : Int64)) <<< ((24 : Int32) &&& 0x3f).toInt64)))])
  refine own_step (fun t k => XS.bipush X0.here hx rfl (hb hby d1_77) k) ?_
  show own_Fin _ _ _ _ _ _ _ _ (mkF m 79 #[.val (.ref a1), .val (.int p2)] [(.int (16 : Int32)), (.long (((f1 (p2.toInt.toNat + 5)).toInt64) &&& (255 : Int64))), (.long ((((((((f1 (p2.toInt.toNat)).toInt64) &&& (255 : Int64)) <<< ((56 : Int32) &&& 0x3f).toInt64) ||| ((((f1 (p2.toInt.toNat + 1)).toInt64) &&& (255 : Int64)) <<< ((48 : Int32) &&& 0x3f).toInt64)) ||| ((((f1 (p2.toInt.toNat + 2)).toInt64) &&& (255 : Int64)) <<< ((40 : Int32) &&& 0x3f).toInt64)) ||| ((((f1 (p2.toInt.toNat + 3)).toInt64) &&& (255 : Int64)) <<< ((32 : Int32) &&& 0x3f).toInt64)) ||| ((((f1 (p2.toInt.toNat + 4)).toInt64) &&& (255 : Int64)) <<< ((24 : Int32) &&& 0x3f).toInt64)))])
  refine own_step (fun t k => XS.lshl X0.here hx rfl (hb hby d1_79) rfl k) ?_
  show own_Fin _ _ _ _ _ _ _ _ (mkF m 80 #[.val (.ref a1), .val (.int p2)] [(.long ((((f1 (p2.toInt.toNat + 5)).toInt64) &&& (255 : Int64)) <<< ((16 : Int32) &&& 0x3f).toInt64)), (.long ((((((((f1 (p2.toInt.toNat)).toInt64) &&& (255 : Int64)) <<< ((56 : Int32) &&& 0x3f).toInt64) ||| ((((f1 (p2.toInt.toNat + 1)).toInt64) &&& (255 : Int64)) <<< ((48 : Int32) &&& 0x3f).toInt64)) ||| ((((f1 (p2.toInt.toNat + 2)).toInt64) &&& (255 : Int64)) <<< ((40 : Int32) &&& 0x3f).toInt64)) ||| ((((f1 (p2.toInt.toNat + 3)).toInt64) &&& (255 : Int64)) <<< ((32 : Int32) &&& 0x3f).toInt64)) ||| ((((f1 (p2.toInt.toNat + 4)).toInt64) &&& (255 : Int64)) <<< ((24 : Int32) &&& 0x3f).toInt64)))])
  refine own_step (fun t k => XS.lor X0.here hx rfl (hb hby d1_80) rfl k) ?_
  show own_Fin _ _ _ _ _ _ _ _ (mkF m 81 #[.val (.ref a1), .val (.int p2)] [(.long (((((((((f1 (p2.toInt.toNat)).toInt64) &&& (255 : Int64)) <<< ((56 : Int32) &&& 0x3f).toInt64) ||| ((((f1 (p2.toInt.toNat + 1)).toInt64) &&& (255 : Int64)) <<< ((48 : Int32) &&& 0x3f).toInt64)) ||| ((((f1 (p2.toInt.toNat + 2)).toInt64) &&& (255 : Int64)) <<< ((40 : Int32) &&& 0x3f).toInt64)) ||| ((((f1 (p2.toInt.toNat + 3)).toInt64) &&& (255 : Int64)) <<< ((32 : Int32) &&& 0x3f).toInt64)) ||| ((((f1 (p2.toInt.toNat + 4)).toInt64) &&& (255 : Int64)) <<< ((24 : Int32) &&& 0x3f).toInt64)) ||| ((((f1 (p2.toInt.toNat + 5)).toInt64) &&& (255 : Int64)) <<< ((16 : Int32) &&& 0x3f).toInt64)))])
  refine own_step (fun t k => XS.aloadN X0.here hx rfl (hb hby d1_81) rfl rfl k) ?_
  show own_Fin _ _ _ _ _ _ _ _ (mkF m 82 #[.val (.ref a1), .val (.int p2)] [(.ref a1), (.long (((((((((f1 (p2.toInt.toNat)).toInt64) &&& (255 : Int64)) <<< ((56 : Int32) &&& 0x3f).toInt64) ||| ((((f1 (p2.toInt.toNat + 1)).toInt64) &&& (255 : Int64)) <<< ((48 : Int32) &&& 0x3f).toInt64)) ||| ((((f1 (p2.toInt.toNat + 2)).toInt64) &&& (255 : Int64)) <<< ((40 : Int32) &&& 0x3f).toInt64)) ||| ((((f1 (p2.toInt.toNat + 3)).toInt64) &&& (255 : Int64)) <<< ((32 : Int32) &&& 0x3f).toInt64)) ||| ((((f1 (p2.toInt.toNat + 4)).toInt64) &&& (255 : Int64)) <<< ((24 : Int32) &&& 0x3f).toInt64)) ||| ((((f1 (p2.toInt.toNat + 5)).toInt64) &&& (255 : Int64)) <<< ((16 : Int32) &&& 0x3f).toInt64)))])
  refine own_step (fun t k => XS.iloadN X0.here hx rfl (hb hby d1_82) rfl k) ?_
  show own_Fin _ _ _ _ _ _ _ _ (mkF m 83 #[.val (.ref a1), .val (.int p2)] [(.int p2), (.ref a1), (.long (((((((((f1 (p2.toInt.toNat)).toInt64) &&& (255 : Int64)) <<< ((56 : Int32) &&& 0x3f).toInt64) ||| ((((f1 (p2.toInt.toNat + 1)).toInt64) &&& (255 : Int64)) <<< ((48 : Int32) &&& 0x3f).toInt64)) ||| ((((f1 (p2.toInt.toNat + 2)).toInt64) &&& (255 : Int64)) <<< ((40 : Int32) &&& 0x3f).toInt64)) ||| ((((f1 (p2.toInt.toNat + 3)).toInt64) &&& (255 : Int64)) <<< ((32 : Int32) &&& 0x3f).toInt64)) ||| ((((f1 (p2.toInt.toNat + 4)).toInt64) &&& (255 : Int64)) <<< ((24 : Int32) &&& 0x3f).toInt64)) ||| ((((f1 (p2.toInt.toNat + 5)).toInt64) &&& (255 : Int64)) <<< ((16 : Int32) &&& 0x3f).toInt64)))])
  refine own_step (fun t k => XS.bipush X0.here hx rfl (hb hby d1_83) k) ?_
  show own_Fin _ _ _ _ _ _ _ _ (mkF m 85 #[.val (.ref a1), .val (.int p2)] [(.int (6 : Int32)), (.int p2), (.ref a1), (.long (((((((((f1 (p2.toInt.toNat)).toInt64) &&& (255 : Int64)) <<< ((56 : Int32) &&& 0x3f).toInt64) ||| ((((f1 (p2.toInt.toNat + 1)).toInt64) &&& (255 : Int64)) <<< ((48 : Int32) &&& 0x3f).toInt64)) ||| ((((f1 (p2.toInt.toNat + 2)).toInt64) &&& (255 : Int64)) <<< ((40 : Int32) &&& 0x3f).toInt64)) ||| ((((f1 (p2.toInt.toNat + 3)).toInt64) &&& (255 : Int64)) <<< ((32 : Int32) &&& 0x3f).toInt64)) ||| ((((f1 (p2.toInt.toNat + 4)).toInt64) &&& (255 : Int64)) <<< ((24 : Int32) &&& 0x3f).toInt64)) ||| ((((f1 (p2.toInt.toNat + 5)).toInt64) &&& (255 : Int64)) <<< ((16 : Int32) &&& 0x3f).toInt64)))])
  refine own_step (fun t k => XS.iadd X0.here hx rfl (hb hby d1_85) rfl k) ?_
  show own_Fin _ _ _ _ _ _ _ _ (mkF m 86 #[.val (.ref a1), .val (.int p2)] [(.int (p2 + (6 : Int32))), (.ref a1), (.long (((((((((f1 (p2.toInt.toNat)).toInt64) &&& (255 : Int64)) <<< ((56 : Int32) &&& 0x3f).toInt64) ||| ((((f1 (p2.toInt.toNat + 1)).toInt64) &&& (255 : Int64)) <<< ((48 : Int32) &&& 0x3f).toInt64)) ||| ((((f1 (p2.toInt.toNat + 2)).toInt64) &&& (255 : Int64)) <<< ((40 : Int32) &&& 0x3f).toInt64)) ||| ((((f1 (p2.toInt.toNat + 3)).toInt64) &&& (255 : Int64)) <<< ((32 : Int32) &&& 0x3f).toInt64)) ||| ((((f1 (p2.toInt.toNat + 4)).toInt64) &&& (255 : Int64)) <<< ((24 : Int32) &&& 0x3f).toInt64)) ||| ((((f1 (p2.toInt.toNat + 5)).toInt64) &&& (255 : Int64)) <<< ((16 : Int32) &&& 0x3f).toInt64)))])
  refine own_baload X0 hx hZ e0 V_a1 (k := p2.toInt.toNat + 6) (by rw [own_ix p2 6 6 (by decide) (by omega) (by omega) (by omega) (by omega)]; omega) (by omega) (v := (f1 (p2.toInt.toNat + 6))) rfl (hb hby d1_86) rfl ?_
  show own_Fin _ _ _ _ _ _ _ _ (mkF m 87 #[.val (.ref a1), .val (.int p2)] [(.int (f1 (p2.toInt.toNat + 6))), (.long (((((((((f1 (p2.toInt.toNat)).toInt64) &&& (255 : Int64)) <<< ((56 : Int32) &&& 0x3f).toInt64) ||| ((((f1 (p2.toInt.toNat + 1)).toInt64) &&& (255 : Int64)) <<< ((48 : Int32) &&& 0x3f).toInt64)) ||| ((((f1 (p2.toInt.toNat + 2)).toInt64) &&& (255 : Int64)) <<< ((40 : Int32) &&& 0x3f).toInt64)) ||| ((((f1 (p2.toInt.toNat + 3)).toInt64) &&& (255 : Int64)) <<< ((32 : Int32) &&& 0x3f).toInt64)) ||| ((((f1 (p2.toInt.toNat + 4)).toInt64) &&& (255 : Int64)) <<< ((24 : Int32) &&& 0x3f).toInt64)) ||| ((((f1 (p2.toInt.toNat + 5)).toInt64) &&& (255 : Int64)) <<< ((16 : Int32) &&& 0x3f).toInt64)))])
  refine own_step (fun t k => XS.i2l X0.here hx rfl (hb hby d1_87) rfl k) ?_
  show own_Fin _ _ _ _ _ _ _ _ (mkF m 88 #[.val (.ref a1), .val (.int p2)] [(.long ((f1 (p2.toInt.toNat + 6)).toInt64)), (.long (((((((((f1 (p2.toInt.toNat)).toInt64) &&& (255 : Int64)) <<< ((56 : Int32) &&& 0x3f).toInt64) ||| ((((f1 (p2.toInt.toNat + 1)).toInt64) &&& (255 : Int64)) <<< ((48 : Int32) &&& 0x3f).toInt64)) ||| ((((f1 (p2.toInt.toNat + 2)).toInt64) &&& (255 : Int64)) <<< ((40 : Int32) &&& 0x3f).toInt64)) ||| ((((f1 (p2.toInt.toNat + 3)).toInt64) &&& (255 : Int64)) <<< ((32 : Int32) &&& 0x3f).toInt64)) ||| ((((f1 (p2.toInt.toNat + 4)).toInt64) &&& (255 : Int64)) <<< ((24 : Int32) &&& 0x3f).toInt64)) ||| ((((f1 (p2.toInt.toNat + 5)).toInt64) &&& (255 : Int64)) <<< ((16 : Int32) &&& 0x3f).toInt64)))])
  refine own_step (fun t k => X0.ldc2Long hx hown (mvT hZ (hw _ (List.mem_of_getElem? (i := 9) rfl))) (g := (mkF m 88 #[.val (.ref a1), .val (.int p2)] [(.long ((f1 (p2.toInt.toNat + 6)).toInt64)), (.long (((((((((f1 (p2.toInt.toNat)).toInt64) &&& (255 : Int64)) <<< ((56 : Int32) &&& 0x3f).toInt64) ||| ((((f1 (p2.toInt.toNat + 1)).toInt64) &&& (255 : Int64)) <<< ((48 : Int32) &&& 0x3f).toInt64)) ||| ((((f1 (p2.toInt.toNat + 2)).toInt64) &&& (255 : Int64)) <<< ((40 : Int32) &&& 0x3f).toInt64)) ||| ((((f1 (p2.toInt.toNat + 3)).toInt64) &&& (255 : Int64)) <<< ((32 : Int32) &&& 0x3f).toInt64)) ||| ((((f1 (p2.toInt.toNat + 4)).toInt64) &&& (255 : Int64)) <<< ((24 : Int32) &&& 0x3f).toInt64)) ||| ((((f1 (p2.toInt.toNat + 5)).toInt64) &&& (255 : Int64)) <<< ((16 : Int32) &&& 0x3f).toInt64)))])) rfl (hb hby d1_88) _ k) ?_
  show own_Fin _ _ _ _ _ _ _ _ (mkF m 91 #[.val (.ref a1), .val (.int p2)] [(.long (255 : Int64)), (.long ((f1 (p2.toInt.toNat + 6)).toInt64)), (.long (((((((((f1 (p2.toInt.toNat)).toInt64) &&& (255 : Int64)) <<< ((56 : Int32) &&& 0x3f).toInt64) ||| ((((f1 (p2.toInt.toNat + 1)).toInt64) &&& (255 : Int64)) <<< ((48 : Int32) &&& 0x3f).toInt64)) ||| ((((f1 (p2.toInt.toNat + 2)).toInt64) &&& (255 : Int64)) <<< ((40 : Int32) &&& 0x3f).toInt64)) ||| ((((f1 (p2.toInt.toNat + 3)).toInt64) &&& (255 : Int64)) <<< ((32 : Int32) &&& 0x3f).toInt64)) ||| ((((f1 (p2.toInt.toNat + 4)).toInt64) &&& (255 : Int64)) <<< ((24 : Int32) &&& 0x3f).toInt64)) ||| ((((f1 (p2.toInt.toNat + 5)).toInt64) &&& (255 : Int64)) <<< ((16 : Int32) &&& 0x3f).toInt64)))])
  refine own_step (fun t k => XS.land X0.here hx rfl (hb hby d1_91) rfl k) ?_
  show own_Fin _ _ _ _ _ _ _ _ (mkF m 92 #[.val (.ref a1), .val (.int p2)] [(.long (((f1 (p2.toInt.toNat + 6)).toInt64) &&& (255 : Int64))), (.long (((((((((f1 (p2.toInt.toNat)).toInt64) &&& (255 : Int64)) <<< ((56 : Int32) &&& 0x3f).toInt64) ||| ((((f1 (p2.toInt.toNat + 1)).toInt64) &&& (255 : Int64)) <<< ((48 : Int32) &&& 0x3f).toInt64)) ||| ((((f1 (p2.toInt.toNat + 2)).toInt64) &&& (255 : Int64)) <<< ((40 : Int32) &&& 0x3f).toInt64)) ||| ((((f1 (p2.toInt.toNat + 3)).toInt64) &&& (255 : Int64)) <<< ((32 : Int32) &&& 0x3f).toInt64)) ||| ((((f1 (p2.toInt.toNat + 4)).toInt64) &&& (255 : Int64)) <<< ((24 : Int32) &&& 0x3f).toInt64)) ||| ((((f1 (p2.toInt.toNat + 5)).toInt64) &&& (255 : Int64)) <<< ((16 : Int32) &&& 0x3f).toInt64)))])
  refine own_step (fun t k => XS.bipush X0.here hx rfl (hb hby d1_92) k) ?_
  show own_Fin _ _ _ _ _ _ _ _ (mkF m 94 #[.val (.ref a1), .val (.int p2)] [(.int (8 : Int32)), (.long (((f1 (p2.toInt.toNat + 6)).toInt64) &&& (255 : Int64))), (.long (((((((((f1 (p2.toInt.toNat)).toInt64) &&& (255 : Int64)) <<< ((56 : Int32) &&& 0x3f).toInt64) ||| ((((f1 (p2.toInt.toNat + 1)).toInt64) &&& (255 : Int64)) <<< ((48 : Int32) &&& 0x3f).toInt64)) ||| ((((f1 (p2.toInt.toNat + 2)).toInt64) &&& (255 : Int64)) <<< ((40 : Int32) &&& 0x3f).toInt64)) ||| ((((f1 (p2.toInt.toNat + 3)).toInt64) &&& (255 : Int64)) <<< ((32 : Int32) &&& 0x3f).toInt64)) ||| ((((f1 (p2.toInt.toNat + 4)).toInt64) &&& (255 : Int64)) <<< ((24 : Int32) &&& 0x3f).toInt64)) ||| ((((f1 (p2.toInt.toNat + 5)).toInt64) &&& (255 : Int64)) <<< ((16 : Int32) &&& 0x3f).toInt64)))])
  refine own_step (fun t k => XS.lshl X0.here hx rfl (hb hby d1_94) rfl k) ?_
  show own_Fin _ _ _ _ _ _ _ _ (mkF m 95 #[.val (.ref a1), .val (.int p2)] [(.long ((((f1 (p2.toInt.toNat + 6)).toInt64) &&& (255 : Int64)) <<< ((8 : Int32) &&& 0x3f).toInt64)), (.long (((((((((f1 (p2.toInt.toNat)).toInt64) &&& (255 : Int64)) <<< ((56 : Int32) &&& 0x3f).toInt64) ||| ((((f1 (p2.toInt.toNat + 1)).toInt64) &&& (255 : Int64)) <<< ((48 : Int32) &&& 0x3f).toInt64)) ||| ((((f1 (p2.toInt.toNat + 2)).toInt64) &&& (255 : Int64)) <<< ((40 : Int32) &&& 0x3f).toInt64)) ||| ((((f1 (p2.toInt.toNat + 3)).toInt64) &&& (255 : Int64)) <<< ((32 : Int32) &&& 0x3f).toInt64)) ||| ((((f1 (p2.toInt.toNat + 4)).toInt64) &&& (255 : Int64)) <<< ((24 : Int32) &&& 0x3f).toInt64)) ||| ((((f1 (p2.toInt.toNat + 5)).toInt64) &&& (255 : Int64)) <<< ((16 : Int32) &&& 0x3f).toInt64)))])
  refine own_step (fun t k => XS.lor X0.here hx rfl (hb hby d1_95) rfl k) ?_
  show own_Fin _ _ _ _ _ _ _ _ (mkF m 96 #[.val (.ref a1), .val (.int p2)] [(.long ((((((((((f1 (p2.toInt.toNat)).toInt64) &&& (255 : Int64)) <<< ((56 : Int32) &&& 0x3f).toInt64) ||| ((((f1 (p2.toInt.toNat + 1)).toInt64) &&& (255 : Int64)) <<< ((48 : Int32) &&& 0x3f).toInt64)) ||| ((((f1 (p2.toInt.toNat + 2)).toInt64) &&& (255 : Int64)) <<< ((40 : Int32) &&& 0x3f).toInt64)) ||| ((((f1 (p2.toInt.toNat + 3)).toInt64) &&& (255 : Int64)) <<< ((32 : Int32) &&& 0x3f).toInt64)) ||| ((((f1 (p2.toInt.toNat + 4)).toInt64) &&& (255 : Int64)) <<< ((24 : Int32) &&& 0x3f).toInt64)) ||| ((((f1 (p2.toInt.toNat + 5)).toInt64) &&& (255 : Int64)) <<< ((16 : Int32) &&& 0x3f).toInt64)) ||| ((((f1 (p2.toInt.toNat + 6)).toInt64) &&& (255 : Int64)) <<< ((8 : Int32) &&& 0x3f).toInt64)))])
  refine own_step (fun t k => XS.aloadN X0.here hx rfl (hb hby d1_96) rfl rfl k) ?_
  show own_Fin _ _ _ _ _ _ _ _ (mkF m 97 #[.val (.ref a1), .val (.int p2)] [(.ref a1), (.long ((((((((((f1 (p2.toInt.toNat)).toInt64) &&& (255 : Int64)) <<< ((56 : Int32) &&& 0x3f).toInt64) ||| ((((f1 (p2.toInt.toNat + 1)).toInt64) &&& (255 : Int64)) <<< ((48 : Int32) &&& 0x3f).toInt64)) ||| ((((f1 (p2.toInt.toNat + 2)).toInt64) &&& (255 : Int64)) <<< ((40 : Int32) &&& 0x3f).toInt64)) ||| ((((f1 (p2.toInt.toNat + 3)).toInt64) &&& (255 : Int64)) <<< ((32 : Int32) &&& 0x3f).toInt64)) ||| ((((f1 (p2.toInt.toNat + 4)).toInt64) &&& (255 : Int64)) <<< ((24 : Int32) &&& 0x3f).toInt64)) ||| ((((f1 (p2.toInt.toNat + 5)).toInt64) &&& (255 : Int64)) <<< ((16 : Int32) &&& 0x3f).toInt64)) ||| ((((f1 (p2.toInt.toNat + 6)).toInt64) &&& (255 : Int64)) <<< ((8 : Int32) &&& 0x3f).toInt64)))])
  refine own_step (fun t k => XS.iloadN X0.here hx rfl (hb hby d1_97) rfl k) ?_
  show own_Fin _ _ _ _ _ _ _ _ (mkF m 98 #[.val (.ref a1), .val (.int p2)] [(.int p2), (.ref a1), (.long ((((((((((f1 (p2.toInt.toNat)).toInt64) &&& (255 : Int64)) <<< ((56 : Int32) &&& 0x3f).toInt64) ||| ((((f1 (p2.toInt.toNat + 1)).toInt64) &&& (255 : Int64)) <<< ((48 : Int32) &&& 0x3f).toInt64)) ||| ((((f1 (p2.toInt.toNat + 2)).toInt64) &&& (255 : Int64)) <<< ((40 : Int32) &&& 0x3f).toInt64)) ||| ((((f1 (p2.toInt.toNat + 3)).toInt64) &&& (255 : Int64)) <<< ((32 : Int32) &&& 0x3f).toInt64)) ||| ((((f1 (p2.toInt.toNat + 4)).toInt64) &&& (255 : Int64)) <<< ((24 : Int32) &&& 0x3f).toInt64)) ||| ((((f1 (p2.toInt.toNat + 5)).toInt64) &&& (255 : Int64)) <<< ((16 : Int32) &&& 0x3f).toInt64)) ||| ((((f1 (p2.toInt.toNat + 6)).toInt64) &&& (255 : Int64)) <<< ((8 : Int32) &&& 0x3f).toInt64)))])
  refine own_step (fun t k => XS.bipush X0.here hx rfl (hb hby d1_98) k) ?_
  show own_Fin _ _ _ _ _ _ _ _ (mkF m 100 #[.val (.ref a1), .val (.int p2)] [(.int (7 : Int32)), (.int p2), (.ref a1), (.long ((((((((((f1 (p2.toInt.toNat)).toInt64) &&& (255 : Int64)) <<< ((56 : Int32) &&& 0x3f).toInt64) ||| ((((f1 (p2.toInt.toNat + 1)).toInt64) &&& (255 : Int64)) <<< ((48 : Int32) &&& 0x3f).toInt64)) ||| ((((f1 (p2.toInt.toNat + 2)).toInt64) &&& (255 : Int64)) <<< ((40 : Int32) &&& 0x3f).toInt64)) ||| ((((f1 (p2.toInt.toNat + 3)).toInt64) &&& (255 : Int64)) <<< ((32 : Int32) &&& 0x3f).toInt64)) ||| ((((f1 (p2.toInt.toNat + 4)).toInt64) &&& (255 : Int64)) <<< ((24 : Int32) &&& 0x3f).toInt64)) ||| ((((f1 (p2.toInt.toNat + 5)).toInt64) &&& (255 : Int64)) <<< ((16 : Int32) &&& 0x3f).toInt64)) ||| ((((f1 (p2.toInt.toNat + 6)).toInt64) &&& (255 : Int64)) <<< ((8 : Int32) &&& 0x3f).toInt64)))])
  refine own_step (fun t k => XS.iadd X0.here hx rfl (hb hby d1_100) rfl k) ?_
  show own_Fin _ _ _ _ _ _ _ _ (mkF m 101 #[.val (.ref a1), .val (.int p2)] [(.int (p2 + (7 : Int32))), (.ref a1), (.long ((((((((((f1 (p2.toInt.toNat)).toInt64) &&& (255 : Int64)) <<< ((56 : Int32) &&& 0x3f).toInt64) ||| ((((f1 (p2.toInt.toNat + 1)).toInt64) &&& (255 : Int64)) <<< ((48 : Int32) &&& 0x3f).toInt64)) ||| ((((f1 (p2.toInt.toNat + 2)).toInt64) &&& (255 : Int64)) <<< ((40 : Int32) &&& 0x3f).toInt64)) ||| ((((f1 (p2.toInt.toNat + 3)).toInt64) &&& (255 : Int64)) <<< ((32 : Int32) &&& 0x3f).toInt64)) ||| ((((f1 (p2.toInt.toNat + 4)).toInt64) &&& (255 : Int64)) <<< ((24 : Int32) &&& 0x3f).toInt64)) ||| ((((f1 (p2.toInt.toNat + 5)).toInt64) &&& (255 : Int64)) <<< ((16 : Int32) &&& 0x3f).toInt64)) ||| ((((f1 (p2.toInt.toNat + 6)).toInt64) &&& (255 : Int64)) <<< ((8 : Int32) &&& 0x3f).toInt64)))])
  refine own_baload X0 hx hZ e0 V_a1 (k := p2.toInt.toNat + 7) (by rw [own_ix p2 7 7 (by decide) (by omega) (by omega) (by omega) (by omega)]; omega) (by omega) (v := (f1 (p2.toInt.toNat + 7))) rfl (hb hby d1_101) rfl ?_
  show own_Fin _ _ _ _ _ _ _ _ (mkF m 102 #[.val (.ref a1), .val (.int p2)] [(.int (f1 (p2.toInt.toNat + 7))), (.long ((((((((((f1 (p2.toInt.toNat)).toInt64) &&& (255 : Int64)) <<< ((56 : Int32) &&& 0x3f).toInt64) ||| ((((f1 (p2.toInt.toNat + 1)).toInt64) &&& (255 : Int64)) <<< ((48 : Int32) &&& 0x3f).toInt64)) ||| ((((f1 (p2.toInt.toNat + 2)).toInt64) &&& (255 : Int64)) <<< ((40 : Int32) &&& 0x3f).toInt64)) ||| ((((f1 (p2.toInt.toNat + 3)).toInt64) &&& (255 : Int64)) <<< ((32 : Int32) &&& 0x3f).toInt64)) ||| ((((f1 (p2.toInt.toNat + 4)).toInt64) &&& (255 : Int64)) <<< ((24 : Int32) &&& 0x3f).toInt64)) ||| ((((f1 (p2.toInt.toNat + 5)).toInt64) &&& (255 : Int64)) <<< ((16 : Int32) &&& 0x3f).toInt64)) ||| ((((f1 (p2.toInt.toNat + 6)).toInt64) &&& (255 : Int64)) <<< ((8 : Int32) &&& 0x3f).toInt64)))])
  refine own_step (fun t k => XS.i2l X0.here hx rfl (hb hby d1_102) rfl k) ?_
  show own_Fin _ _ _ _ _ _ _ _ (mkF m 103 #[.val (.ref a1), .val (.int p2)] [(.long ((f1 (p2.toInt.toNat + 7)).toInt64)), (.long ((((((((((f1 (p2.toInt.toNat)).toInt64) &&& (255 : Int64)) <<< ((56 : Int32) &&& 0x3f).toInt64) ||| ((((f1 (p2.toInt.toNat + 1)).toInt64) &&& (255 : Int64)) <<< ((48 : Int32) &&& 0x3f).toInt64)) ||| ((((f1 (p2.toInt.toNat + 2)).toInt64) &&& (255 : Int64)) <<< ((40 : Int32) &&& 0x3f).toInt64)) ||| ((((f1 (p2.toInt.toNat + 3)).toInt64) &&& (255 : Int64)) <<< ((32 : Int32) &&& 0x3f).toInt64)) ||| ((((f1 (p2.toInt.toNat + 4)).toInt64) &&& (255 : Int64)) <<< ((24 : Int32) &&& 0x3f).toInt64)) ||| ((((f1 (p2.toInt.toNat + 5)).toInt64) &&& (255 : Int64)) <<< ((16 : Int32) &&& 0x3f).toInt64)) ||| ((((f1 (p2.toInt.toNat + 6)).toInt64) &&& (255 : Int64)) <<< ((8 : Int32) &&& 0x3f).toInt64)))])
  refine own_step (fun t k => X0.ldc2Long hx hown (mvT hZ (hw _ (List.mem_of_getElem? (i := 9) rfl))) (g := (mkF m 103 #[.val (.ref a1), .val (.int p2)] [(.long ((f1 (p2.toInt.toNat + 7)).toInt64)), (.long ((((((((((f1 (p2.toInt.toNat)).toInt64) &&& (255 : Int64)) <<< ((56 : Int32) &&& 0x3f).toInt64) ||| ((((f1 (p2.toInt.toNat + 1)).toInt64) &&& (255 : Int64)) <<< ((48 : Int32) &&& 0x3f).toInt64)) ||| ((((f1 (p2.toInt.toNat + 2)).toInt64) &&& (255 : Int64)) <<< ((40 : Int32) &&& 0x3f).toInt64)) ||| ((((f1 (p2.toInt.toNat + 3)).toInt64) &&& (255 : Int64)) <<< ((32 : Int32) &&& 0x3f).toInt64)) ||| ((((f1 (p2.toInt.toNat + 4)).toInt64) &&& (255 : Int64)) <<< ((24 : Int32) &&& 0x3f).toInt64)) ||| ((((f1 (p2.toInt.toNat + 5)).toInt64) &&& (255 : Int64)) <<< ((16 : Int32) &&& 0x3f).toInt64)) ||| ((((f1 (p2.toInt.toNat + 6)).toInt64) &&& (255 : Int64)) <<< ((8 : Int32) &&& 0x3f).toInt64)))])) rfl (hb hby d1_103) _ k) ?_
  show own_Fin _ _ _ _ _ _ _ _ (mkF m 106 #[.val (.ref a1), .val (.int p2)] [(.long (255 : Int64)), (.long ((f1 (p2.toInt.toNat + 7)).toInt64)), (.long ((((((((((f1 (p2.toInt.toNat)).toInt64) &&& (255 : Int64)) <<< ((56 : Int32) &&& 0x3f).toInt64) ||| ((((f1 (p2.toInt.toNat + 1)).toInt64) &&& (255 : Int64)) <<< ((48 : Int32) &&& 0x3f).toInt64)) ||| ((((f1 (p2.toInt.toNat + 2)).toInt64) &&& (255 : Int64)) <<< ((40 : Int32) &&& 0x3f).toInt64)) ||| ((((f1 (p2.toInt.toNat + 3)).toInt64) &&& (255 : Int64)) <<< ((32 : Int32) &&& 0x3f).toInt64)) ||| ((((f1 (p2.toInt.toNat + 4)).toInt64) &&& (255 : Int64)) <<< ((24 : Int32) &&& 0x3f).toInt64)) ||| ((((f1 (p2.toInt.toNat + 5)).toInt64) &&& (255 : Int64)) <<< ((16 : Int32) &&& 0x3f).toInt64)) ||| ((((f1 (p2.toInt.toNat + 6)).toInt64) &&& (255 : Int64)) <<< ((8 : Int32) &&& 0x3f).toInt64)))])
  refine own_step (fun t k => XS.land X0.here hx rfl (hb hby d1_106) rfl k) ?_
  show own_Fin _ _ _ _ _ _ _ _ (mkF m 107 #[.val (.ref a1), .val (.int p2)] [(.long (((f1 (p2.toInt.toNat + 7)).toInt64) &&& (255 : Int64))), (.long ((((((((((f1 (p2.toInt.toNat)).toInt64) &&& (255 : Int64)) <<< ((56 : Int32) &&& 0x3f).toInt64) ||| ((((f1 (p2.toInt.toNat + 1)).toInt64) &&& (255 : Int64)) <<< ((48 : Int32) &&& 0x3f).toInt64)) ||| ((((f1 (p2.toInt.toNat + 2)).toInt64) &&& (255 : Int64)) <<< ((40 : Int32) &&& 0x3f).toInt64)) ||| ((((f1 (p2.toInt.toNat + 3)).toInt64) &&& (255 : Int64)) <<< ((32 : Int32) &&& 0x3f).toInt64)) ||| ((((f1 (p2.toInt.toNat + 4)).toInt64) &&& (255 : Int64)) <<< ((24 : Int32) &&& 0x3f).toInt64)) ||| ((((f1 (p2.toInt.toNat + 5)).toInt64) &&& (255 : Int64)) <<< ((16 : Int32) &&& 0x3f).toInt64)) ||| ((((f1 (p2.toInt.toNat + 6)).toInt64) &&& (255 : Int64)) <<< ((8 : Int32) &&& 0x3f).toInt64)))])
  refine own_step (fun t k => XS.lor X0.here hx rfl (hb hby d1_107) rfl k) ?_
  show own_Fin _ _ _ _ _ _ _ _ (mkF m 108 #[.val (.ref a1), .val (.int p2)] [(.long (((((((((((f1 (p2.toInt.toNat)).toInt64) &&& (255 : Int64)) <<< ((56 : Int32) &&& 0x3f).toInt64) ||| ((((f1 (p2.toInt.toNat + 1)).toInt64) &&& (255 : Int64)) <<< ((48 : Int32) &&& 0x3f).toInt64)) ||| ((((f1 (p2.toInt.toNat + 2)).toInt64) &&& (255 : Int64)) <<< ((40 : Int32) &&& 0x3f).toInt64)) ||| ((((f1 (p2.toInt.toNat + 3)).toInt64) &&& (255 : Int64)) <<< ((32 : Int32) &&& 0x3f).toInt64)) ||| ((((f1 (p2.toInt.toNat + 4)).toInt64) &&& (255 : Int64)) <<< ((24 : Int32) &&& 0x3f).toInt64)) ||| ((((f1 (p2.toInt.toNat + 5)).toInt64) &&& (255 : Int64)) <<< ((16 : Int32) &&& 0x3f).toInt64)) ||| ((((f1 (p2.toInt.toNat + 6)).toInt64) &&& (255 : Int64)) <<< ((8 : Int32) &&& 0x3f).toInt64)) ||| (((f1 (p2.toInt.toNat + 7)).toInt64) &&& (255 : Int64))))])
  refine own_retJ X0 hx hlk Bd.returns (hb hby d1_108) (by decide) (by decide) e0 ?_
  exact ⟨rfl, Nf, rfl⟩
theorem d2_0 : decode prog_24_method_11_code 0 = .ok (.aload_n 0, 1) := by decide +kernel
theorem d2_1 : decode prog_24_method_11_code 1 = .ok (.iload_n 1, 1) := by decide +kernel
theorem d2_2 : decode prog_24_method_11_code 2 = .ok (.lload_n 2, 1) := by decide +kernel
theorem d2_3 : decode prog_24_method_11_code 3 = .ok (.bipush 56, 2) := by decide +kernel
theorem d2_5 : decode prog_24_method_11_code 5 = .ok (.lushr, 1) := by decide +kernel
theorem d2_6 : decode prog_24_method_11_code 6 = .ok (.l2i, 1) := by decide +kernel
theorem d2_7 : decode prog_24_method_11_code 7 = .ok (.i2b, 1) := by decide +kernel
theorem d2_8 : decode prog_24_method_11_code 8 = .ok (.bastore, 1) := by decide +kernel
theorem d2_9 : decode prog_24_method_11_code 9 = .ok (.aload_n 0, 1) := by decide +kernel
theorem d2_10 : decode prog_24_method_11_code 10 = .ok (.iload_n 1, 1) := by decide +kernel
theorem d2_11 : decode prog_24_method_11_code 11 = .ok (.iconst 1, 1) := by decide +kernel
theorem d2_12 : decode prog_24_method_11_code 12 = .ok (.iadd, 1) := by decide +kernel
theorem d2_13 : decode prog_24_method_11_code 13 = .ok (.lload_n 2, 1) := by decide +kernel
theorem d2_14 : decode prog_24_method_11_code 14 = .ok (.bipush 48, 2) := by decide +kernel
theorem d2_16 : decode prog_24_method_11_code 16 = .ok (.lushr, 1) := by decide +kernel
theorem d2_17 : decode prog_24_method_11_code 17 = .ok (.l2i, 1) := by decide +kernel
theorem d2_18 : decode prog_24_method_11_code 18 = .ok (.i2b, 1) := by decide +kernel
theorem d2_19 : decode prog_24_method_11_code 19 = .ok (.bastore, 1) := by decide +kernel
theorem d2_20 : decode prog_24_method_11_code 20 = .ok (.aload_n 0, 1) := by decide +kernel
theorem d2_21 : decode prog_24_method_11_code 21 = .ok (.iload_n 1, 1) := by decide +kernel
theorem d2_22 : decode prog_24_method_11_code 22 = .ok (.iconst 2, 1) := by decide +kernel
theorem d2_23 : decode prog_24_method_11_code 23 = .ok (.iadd, 1) := by decide +kernel
theorem d2_24 : decode prog_24_method_11_code 24 = .ok (.lload_n 2, 1) := by decide +kernel
theorem d2_25 : decode prog_24_method_11_code 25 = .ok (.bipush 40, 2) := by decide +kernel
theorem d2_27 : decode prog_24_method_11_code 27 = .ok (.lushr, 1) := by decide +kernel
theorem d2_28 : decode prog_24_method_11_code 28 = .ok (.l2i, 1) := by decide +kernel
theorem d2_29 : decode prog_24_method_11_code 29 = .ok (.i2b, 1) := by decide +kernel
theorem d2_30 : decode prog_24_method_11_code 30 = .ok (.bastore, 1) := by decide +kernel
theorem d2_31 : decode prog_24_method_11_code 31 = .ok (.aload_n 0, 1) := by decide +kernel
theorem d2_32 : decode prog_24_method_11_code 32 = .ok (.iload_n 1, 1) := by decide +kernel
theorem d2_33 : decode prog_24_method_11_code 33 = .ok (.iconst 3, 1) := by decide +kernel
theorem d2_34 : decode prog_24_method_11_code 34 = .ok (.iadd, 1) := by decide +kernel
theorem d2_35 : decode prog_24_method_11_code 35 = .ok (.lload_n 2, 1) := by decide +kernel
theorem d2_36 : decode prog_24_method_11_code 36 = .ok (.bipush 32, 2) := by decide +kernel
theorem d2_38 : decode prog_24_method_11_code 38 = .ok (.lushr, 1) := by decide +kernel
theorem d2_39 : decode prog_24_method_11_code 39 = .ok (.l2i, 1) := by decide +kernel
theorem d2_40 : decode prog_24_method_11_code 40 = .ok (.i2b, 1) := by decide +kernel
theorem d2_41 : decode prog_24_method_11_code 41 = .ok (.bastore, 1) := by decide +kernel
theorem d2_42 : decode prog_24_method_11_code 42 = .ok (.aload_n 0, 1) := by decide +kernel
theorem d2_43 : decode prog_24_method_11_code 43 = .ok (.iload_n 1, 1) := by decide +kernel
theorem d2_44 : decode prog_24_method_11_code 44 = .ok (.iconst 4, 1) := by decide +kernel
theorem d2_45 : decode prog_24_method_11_code 45 = .ok (.iadd, 1) := by decide +kernel
theorem d2_46 : decode prog_24_method_11_code 46 = .ok (.lload_n 2, 1) := by decide +kernel
theorem d2_47 : decode prog_24_method_11_code 47 = .ok (.bipush 24, 2) := by decide +kernel
theorem d2_49 : decode prog_24_method_11_code 49 = .ok (.lushr, 1) := by decide +kernel
theorem d2_50 : decode prog_24_method_11_code 50 = .ok (.l2i, 1) := by decide +kernel
theorem d2_51 : decode prog_24_method_11_code 51 = .ok (.i2b, 1) := by decide +kernel
theorem d2_52 : decode prog_24_method_11_code 52 = .ok (.bastore, 1) := by decide +kernel
theorem d2_53 : decode prog_24_method_11_code 53 = .ok (.aload_n 0, 1) := by decide +kernel
theorem d2_54 : decode prog_24_method_11_code 54 = .ok (.iload_n 1, 1) := by decide +kernel
theorem d2_55 : decode prog_24_method_11_code 55 = .ok (.iconst 5, 1) := by decide +kernel
theorem d2_56 : decode prog_24_method_11_code 56 = .ok (.iadd, 1) := by decide +kernel
theorem d2_57 : decode prog_24_method_11_code 57 = .ok (.lload_n 2, 1) := by decide +kernel
theorem d2_58 : decode prog_24_method_11_code 58 = .ok (.bipush 16, 2) := by decide +kernel
theorem d2_60 : decode prog_24_method_11_code 60 = .ok (.lushr, 1) := by decide +kernel
theorem d2_61 : decode prog_24_method_11_code 61 = .ok (.l2i, 1) := by decide +kernel
theorem d2_62 : decode prog_24_method_11_code 62 = .ok (.i2b, 1) := by decide +kernel
theorem d2_63 : decode prog_24_method_11_code 63 = .ok (.bastore, 1) := by decide +kernel
theorem d2_64 : decode prog_24_method_11_code 64 = .ok (.aload_n 0, 1) := by decide +kernel
theorem d2_65 : decode prog_24_method_11_code 65 = .ok (.iload_n 1, 1) := by decide +kernel
theorem d2_66 : decode prog_24_method_11_code 66 = .ok (.bipush 6, 2) := by decide +kernel
theorem d2_68 : decode prog_24_method_11_code 68 = .ok (.iadd, 1) := by decide +kernel
theorem d2_69 : decode prog_24_method_11_code 69 = .ok (.lload_n 2, 1) := by decide +kernel
theorem d2_70 : decode prog_24_method_11_code 70 = .ok (.bipush 8, 2) := by decide +kernel
theorem d2_72 : decode prog_24_method_11_code 72 = .ok (.lushr, 1) := by decide +kernel
theorem d2_73 : decode prog_24_method_11_code 73 = .ok (.l2i, 1) := by decide +kernel
theorem d2_74 : decode prog_24_method_11_code 74 = .ok (.i2b, 1) := by decide +kernel
theorem d2_75 : decode prog_24_method_11_code 75 = .ok (.bastore, 1) := by decide +kernel
theorem d2_76 : decode prog_24_method_11_code 76 = .ok (.aload_n 0, 1) := by decide +kernel
theorem d2_77 : decode prog_24_method_11_code 77 = .ok (.iload_n 1, 1) := by decide +kernel
theorem d2_78 : decode prog_24_method_11_code 78 = .ok (.bipush 7, 2) := by decide +kernel
theorem d2_80 : decode prog_24_method_11_code 80 = .ok (.iadd, 1) := by decide +kernel
theorem d2_81 : decode prog_24_method_11_code 81 = .ok (.lload_n 2, 1) := by decide +kernel
theorem d2_82 : decode prog_24_method_11_code 82 = .ok (.l2i, 1) := by decide +kernel
theorem d2_83 : decode prog_24_method_11_code 83 = .ok (.i2b, 1) := by decide +kernel
theorem d2_84 : decode prog_24_method_11_code 84 = .ok (.bastore, 1) := by decide +kernel
theorem d2_85 : decode prog_24_method_11_code 85 = .ok (.return_, 1) := by decide +kernel
theorem own_pn_2 : plainName "com/example/pcr10/pcr10/ScratchBytes" = true := by first | (simp [plainName, overriddenIn]; done) | decide +kernel
theorem own_ef_2 (m : MethodId) (a1 : Addr) (p2 : Int32) (q3 : Int64) : entryFrame m #[(.ref a1), (.int p2), (.long q3)] 4 = mkF m 0 #[.val (.ref a1), .val (.int p2), .val (.long q3), .second] [] := by first | (simp [entryFrame, mkF, argsToLocals, Value.category]; done) | rfl
abbrev own_R2 : Room := { frames := 0, cells := 0, slots := 0, locals := 0 }
def own_Q2 (Z : State) (a1 : Addr) (p2 : Int32) (q3 : Int64) (f1 : Nat → Int32) (h0 : Heap) (n0 : Nat) (v : Option Value) (h : Heap) (L : List Loc) : Prop := v = none ∧ Fr n0 L ∧ Keep h0 h [a1] ∧ own_AI Z h a1 .byte 12 (own_pl p2.toInt.toNat q3 f1)
set_option maxRecDepth 65536 in
set_option maxHeartbeats 40000000 in
theorem rm2 (l : Launch) (Z : State) (a0 : Array Value) (hw : ∀ d ∈ tables_1, d.before a0 Z = true) (ws : List Jvm.Cond) (a1 : Addr) (p2 : Int32) (q3 : Int64) (f1 : Nat → Int32) (h0 : Heap) (n0 : Nat) (Z0 : n0 ≤ h0.size) (V_a1 : own_AI Z h0 a1 .byte 12 f1) (g_a1 : n0 ≤ a1) (hp : 0 ≤ p2.toInt ∧ p2.toInt + 7 < 12) :
    MetFree l (⟨"com/example/pcr10/pcr10/ScratchBytes", "putLong", "([BIJ)V"⟩ : MethodName) (head1 (Jvm.Cond.code (⟨"com/example/pcr10/pcr10/ScratchBytes", "putLong", "([BIJ)V"⟩ : MethodName) prog_24_method_11_code 4 none :: ws) own_R2) (fun a U => a = #[(.ref a1), (.int p2), (.long q3)] ∧ Z.Warmed39 U.vm ∧ U.heap = h0) (fun _ _ _ _ _ => True) (fun _ U o U' => ∃ v L, o = .returned v ∧ own_Q2 Z a1 p2 q3 f1 h0 n0 v U'.heap L ∧ FrameEnd U o U' L own_R2.cells own_R2.slots) := by
  refine MetFree.of_bodySF (plainFor_of_name own_pn_2) hisR ?_
  intro p e s m args below meth c s₁ Bd hml0 hP hK
  obtain ⟨rfl, hZ, hh⟩ := hP
  have hx := Bd.exec
  have hby := Bd.bytes
  have hlk := BodyLoose.notSynchronized Bd
  have hml : c.maxLocals = 4 := hml0
  have hown : s.vm.findClass "com/example/pcr10/pcr10/ScratchBytes" = some m.cls := (findClass_of_methodNamed Bd.named : s.vm.findClass (⟨"com/example/pcr10/pcr10/ScratchBytes", "putLong", "([BIJ)V"⟩ : MethodName).cls = some m.cls)
  have hnm := (name_of_methodNamed Bd.named Bd.method).1
  have X0 : Stand p l e own_R2 s m #[(.ref a1), (.int p2), (.long q3)] below meth c s₁ [] 0 0 := Stand.of_body Bd
  have e0 : s₁.heap = h0 := by rw [← hh, Bd.state]; rfl
  have Nf := Fr.nil n0
  have Zs := Z0
  have K : Keep h0 h0 [a1] := Keep.refl _ _
  show own_Fin p e below s (own_Q2 Z a1 p2 q3 f1 h0 n0) 0 0 s₁ (entryFrame m #[(.ref a1), (.int p2), (.long q3)] 4)
  rw [own_ef_2 m a1 p2 q3]
  show own_Fin _ _ _ _ _ _ _ _ (mkF m 0 #[.val (.ref a1), .val (.int p2), .val (.long q3), .second] [])
  refine own_step (fun t k => XS.aloadN X0.here hx rfl (hb hby d2_0) rfl rfl k) ?_
  show own_Fin _ _ _ _ _ _ _ _ (mkF m 1 #[.val (.ref a1), .val (.int p2), .val (.long q3), .second] [(.ref a1)])
  refine own_step (fun t k => XS.iloadN X0.here hx rfl (hb hby d2_1) rfl k) ?_
  show own_Fin _ _ _ _ _ _ _ _ (mkF m 2 #[.val (.ref a1), .val (.int p2), .val (.long q3), .second] [(.int p2), (.ref a1)])
  refine own_step (fun t k => XS.lloadN X0.here hx rfl (hb hby d2_2) rfl k) ?_
  show own_Fin _ _ _ _ _ _ _ _ (mkF m 3 #[.val (.ref a1), .val (.int p2), .val (.long q3), .second] [(.long q3), (.int p2), (.ref a1)])
  refine own_step (fun t k => XS.bipush X0.here hx rfl (hb hby d2_3) k) ?_
  show own_Fin _ _ _ _ _ _ _ _ (mkF m 5 #[.val (.ref a1), .val (.int p2), .val (.long q3), .second] [(.int (56 : Int32)), (.long q3), (.int p2), (.ref a1)])
  refine own_step (fun t k => XS.lushr X0.here hx rfl (hb hby d2_5) rfl k) ?_
  show own_Fin _ _ _ _ _ _ _ _ (mkF m 6 #[.val (.ref a1), .val (.int p2), .val (.long q3), .second] [(.long ((q3.toUInt64 >>> ((56 : Int32) &&& 0x3f).toInt64.toUInt64).toInt64)), (.int p2), (.ref a1)])
  refine own_step (fun t k => XS.l2i X0.here hx rfl (hb hby d2_6) rfl k) ?_
  show own_Fin _ _ _ _ _ _ _ _ (mkF m 7 #[.val (.ref a1), .val (.int p2), .val (.long q3), .second] [(.int (((q3.toUInt64 >>> ((56 : Int32) &&& 0x3f).toInt64.toUInt64).toInt64).toInt32)), (.int p2), (.ref a1)])
  refine own_step (fun t k => XS.i2b X0.here hx rfl (hb hby d2_7) rfl k) ?_
  show own_Fin _ _ _ _ _ _ _ _ (mkF m 8 #[.val (.ref a1), .val (.int p2), .val (.long q3), .second] [(.int ((((q3.toUInt64 >>> ((56 : Int32) &&& 0x3f).toInt64.toUInt64).toInt64).toInt32).toInt8.toInt32)), (.int p2), (.ref a1)])
  obtain ⟨T1, h1, X1, e1, W1, B1, st1⟩ := own_bastore X0 hx hZ e0 V_a1 (j := p2) (k := p2.toInt.toNat) (by omega) (by omega) (own_nar8 _) (x := ((((q3.toUInt64 >>> ((56 : Int32) &&& 0x3f).toInt64.toUInt64).toInt64).toInt32).toInt8.toInt32)) (pc := 8) (Ls := #[.val (.ref a1), .val (.int p2), .val (.long q3), .second]) (rest := []) (hb hby d2_8) rfl
  refine own_step st1 ?_
  replace Zs : n0 ≤ h1.size := by rw [W1.size]; exact Zs
  replace K := K.wr W1 (Or.inl (by simp))
  replace V_a1 := B1
  replace Nf := Fr.snoc X1 Nf g_a1
  show own_Fin _ _ _ _ _ _ _ _ (mkF m 9 #[.val (.ref a1), .val (.int p2), .val (.long q3), .second] [])
  refine own_step (fun t k => XS.aloadN X1.here hx rfl (hb hby d2_9) rfl rfl k) ?_
  show own_Fin _ _ _ _ _ _ _ _ (mkF m 10 #[.val (.ref a1), .val (.int p2), .val (.long q3), .second] [(.ref a1)])
  refine own_step (fun t k => XS.iloadN X1.here hx rfl (hb hby d2_10) rfl k) ?_
  show own_Fin _ _ _ _ _ _ _ _ (mkF m 11 #[.val (.ref a1), .val (.int p2), .val (.long q3), .second] [(.int p2), (.ref a1)])
  refine own_step (fun t k => XS.iconst X1.here hx rfl (hb hby d2_11) k) ?_
  show own_Fin _ _ _ _ _ _ _ _ (mkF m 12 #[.val (.ref a1), .val (.int p2), .val (.long q3), .second] [(.int (1 : Int32)), (.int p2), (.ref a1)])
  refine own_step (fun t k => XS.iadd X1.here hx rfl (hb hby d2_12) rfl k) ?_
  show own_Fin _ _ _ _ _ _ _ _ (mkF m 13 #[.val (.ref a1), .val (.int p2), .val (.long q3), .second] [(.int (p2 + (1 : Int32))), (.ref a1)])
  refine own_step (fun t k => XS.lloadN X1.here hx rfl (hb hby d2_13) rfl k) ?_
  show own_Fin _ _ _ _ _ _ _ _ (mkF m 14 #[.val (.ref a1), .val (.int p2), .val (.long q3), .second] [(.long q3), (.int (p2 + (1 : Int32))), (.ref a1)])
  refine own_step (fun t k => XS.bipush X1.here hx rfl (hb hby d2_14) k) ?_
  show own_Fin _ _ _ _ _ _ _ _ (mkF m 16 #[.val (.ref a1), .val (.int p2), .val (.long q3), .second] [(.int (48 : Int32)), (.long q3), (.int (p2 + (1 : Int32))), (.ref a1)])
  refine own_step (fun t k => XS.lushr X1.here hx rfl (hb hby d2_16) rfl k) ?_
  show own_Fin _ _ _ _ _ _ _ _ (mkF m 17 #[.val (.ref a1), .val (.int p2), .val (.long q3), .second] [(.long ((q3.toUInt64 >>> ((48 : Int32) &&& 0x3f).toInt64.toUInt64).toInt64)), (.int (p2 + (1 : Int32))), (.ref a1)])
  refine own_step (fun t k => XS.l2i X1.here hx rfl (hb hby d2_17) rfl k) ?_
  show own_Fin _ _ _ _ _ _ _ _ (mkF m 18 #[.val (.ref a1), .val (.int p2), .val (.long q3), .second] [(.int (((q3.toUInt64 >>> ((48 : Int32) &&& 0x3f).toInt64.toUInt64).toInt64).toInt32)), (.int (p2 + (1 : Int32))), (.ref a1)])
  refine own_step (fun t k => XS.i2b X1.here hx rfl (hb hby d2_18) rfl k) ?_
  show own_Fin _ _ _ _ _ _ _ _ (mkF m 19 #[.val (.ref a1), .val (.int p2), .val (.long q3), .second] [(.int ((((q3.toUInt64 >>> ((48 : Int32) &&& 0x3f).toInt64.toUInt64).toInt64).toInt32).toInt8.toInt32)), (.int (p2 + (1 : Int32))), (.ref a1)])
  obtain ⟨T2, h2, X2, e2, W2, B2, st2⟩ := own_bastore X1 hx hZ e1 V_a1 (j := (p2 + (1 : Int32))) (k := p2.toInt.toNat + 1) (by rw [own_ix p2 1 1 (by decide) (by omega) (by omega) (by omega) (by omega)]; omega) (by omega) (own_nar8 _) (x := ((((q3.toUInt64 >>> ((48 : Int32) &&& 0x3f).toInt64.toUInt64).toInt64).toInt32).toInt8.toInt32)) (pc := 19) (Ls := #[.val (.ref a1), .val (.int p2), .val (.long q3), .second]) (rest := []) (hb hby d2_19) rfl
  refine own_step st2 ?_
  replace Zs : n0 ≤ h2.size := by rw [W2.size]; exact Zs
  replace K := K.wr W2 (Or.inl (by simp))
  replace V_a1 := B2
  replace Nf := Fr.snoc X2 Nf g_a1
  show own_Fin _ _ _ _ _ _ _ _ (mkF m 20 #[.val (.ref a1), .val (.int p2), .val (.long q3), .second] [])
  refine own_step (fun t k => XS.aloadN X2.here hx rfl (hb hby d2_20) rfl rfl k) ?_
  show own_Fin _ _ _ _ _ _ _ _ (mkF m 21 #[.val (.ref a1), .val (.int p2), .val (.long q3), .second] [(.ref a1)])
  refine own_step (fun t k => XS.iloadN X2.here hx rfl (hb hby d2_21) rfl k) ?_
  show own_Fin _ _ _ _ _ _ _ _ (mkF m 22 #[.val (.ref a1), .val (.int p2), .val (.long q3), .second] [(.int p2), (.ref a1)])
  refine own_step (fun t k => XS.iconst X2.here hx rfl (hb hby d2_22) k) ?_
  show own_Fin _ _ _ _ _ _ _ _ (mkF m 23 #[.val (.ref a1), .val (.int p2), .val (.long q3), .second] [(.int (2 : Int32)), (.int p2), (.ref a1)])
  refine own_step (fun t k => XS.iadd X2.here hx rfl (hb hby d2_23) rfl k) ?_
  show own_Fin _ _ _ _ _ _ _ _ (mkF m 24 #[.val (.ref a1), .val (.int p2), .val (.long q3), .second] [(.int (p2 + (2 : Int32))), (.ref a1)])
  refine own_step (fun t k => XS.lloadN X2.here hx rfl (hb hby d2_24) rfl k) ?_
  show own_Fin _ _ _ _ _ _ _ _ (mkF m 25 #[.val (.ref a1), .val (.int p2), .val (.long q3), .second] [(.long q3), (.int (p2 + (2 : Int32))), (.ref a1)])
  refine own_step (fun t k => XS.bipush X2.here hx rfl (hb hby d2_25) k) ?_
  show own_Fin _ _ _ _ _ _ _ _ (mkF m 27 #[.val (.ref a1), .val (.int p2), .val (.long q3), .second] [(.int (40 : Int32)), (.long q3), (.int (p2 + (2 : Int32))), (.ref a1)])
  refine own_step (fun t k => XS.lushr X2.here hx rfl (hb hby d2_27) rfl k) ?_
  show own_Fin _ _ _ _ _ _ _ _ (mkF m 28 #[.val (.ref a1), .val (.int p2), .val (.long q3), .second] [(.long ((q3.toUInt64 >>> ((40 : Int32) &&& 0x3f).toInt64.toUInt64).toInt64)), (.int (p2 + (2 : Int32))), (.ref a1)])
  refine own_step (fun t k => XS.l2i X2.here hx rfl (hb hby d2_28) rfl k) ?_
  show own_Fin _ _ _ _ _ _ _ _ (mkF m 29 #[.val (.ref a1), .val (.int p2), .val (.long q3), .second] [(.int (((q3.toUInt64 >>> ((40 : Int32) &&& 0x3f).toInt64.toUInt64).toInt64).toInt32)), (.int (p2 + (2 : Int32))), (.ref a1)])
  refine own_step (fun t k => XS.i2b X2.here hx rfl (hb hby d2_29) rfl k) ?_
  show own_Fin _ _ _ _ _ _ _ _ (mkF m 30 #[.val (.ref a1), .val (.int p2), .val (.long q3), .second] [(.int ((((q3.toUInt64 >>> ((40 : Int32) &&& 0x3f).toInt64.toUInt64).toInt64).toInt32).toInt8.toInt32)), (.int (p2 + (2 : Int32))), (.ref a1)])
  obtain ⟨T3, h3, X3, e3, W3, B3, st3⟩ := own_bastore X2 hx hZ e2 V_a1 (j := (p2 + (2 : Int32))) (k := p2.toInt.toNat + 2) (by rw [own_ix p2 2 2 (by decide) (by omega) (by omega) (by omega) (by omega)]; omega) (by omega) (own_nar8 _) (x := ((((q3.toUInt64 >>> ((40 : Int32) &&& 0x3f).toInt64.toUInt64).toInt64).toInt32).toInt8.toInt32)) (pc := 30) (Ls := #[.val (.ref a1), .val (.int p2), .val (.long q3), .second]) (rest := []) (hb hby d2_30) rfl
  refine own_step st3 ?_
  replace Zs : n0 ≤ h3.size := by rw [W3.size]; exact Zs
  replace K := K.wr W3 (Or.inl (by simp))
  replace V_a1 := B3
  replace Nf := Fr.snoc X3 Nf g_a1
  show own_Fin _ _ _ _ _ _ _ _ (mkF m 31 #[.val (.ref a1), .val (.int p2), .val (.long q3), .second] [])
  refine own_step (fun t k => XS.aloadN X3.here hx rfl (hb hby d2_31) rfl rfl k) ?_
  show own_Fin _ _ _ _ _ _ _ _ (mkF m 32 #[.val (.ref a1), .val (.int p2), .val (.long q3), .second] [(.ref a1)])
  refine own_step (fun t k => XS.iloadN X3.here hx rfl (hb hby d2_32) rfl k) ?_
  show own_Fin _ _ _ _ _ _ _ _ (mkF m 33 #[.val (.ref a1), .val (.int p2), .val (.long q3), .second] [(.int p2), (.ref a1)])
  refine own_step (fun t k => XS.iconst X3.here hx rfl (hb hby d2_33) k) ?_
  show own_Fin _ _ _ _ _ _ _ _ (mkF m 34 #[.val (.ref a1), .val (.int p2), .val (.long q3), .second] [(.int (3 : Int32)), (.int p2), (.ref a1)])
  refine own_step (fun t k => XS.iadd X3.here hx rfl (hb hby d2_34) rfl k) ?_
  show own_Fin _ _ _ _ _ _ _ _ (mkF m 35 #[.val (.ref a1), .val (.int p2), .val (.long q3), .second] [(.int (p2 + (3 : Int32))), (.ref a1)])
  refine own_step (fun t k => XS.lloadN X3.here hx rfl (hb hby d2_35) rfl k) ?_
  show own_Fin _ _ _ _ _ _ _ _ (mkF m 36 #[.val (.ref a1), .val (.int p2), .val (.long q3), .second] [(.long q3), (.int (p2 + (3 : Int32))), (.ref a1)])
  refine own_step (fun t k => XS.bipush X3.here hx rfl (hb hby d2_36) k) ?_
  show own_Fin _ _ _ _ _ _ _ _ (mkF m 38 #[.val (.ref a1), .val (.int p2), .val (.long q3), .second] [(.int (32 : Int32)), (.long q3), (.int (p2 + (3 : Int32))), (.ref a1)])
  refine own_step (fun t k => XS.lushr X3.here hx rfl (hb hby d2_38) rfl k) ?_
  show own_Fin _ _ _ _ _ _ _ _ (mkF m 39 #[.val (.ref a1), .val (.int p2), .val (.long q3), .second] [(.long ((q3.toUInt64 >>> ((32 : Int32) &&& 0x3f).toInt64.toUInt64).toInt64)), (.int (p2 + (3 : Int32))), (.ref a1)])
  refine own_step (fun t k => XS.l2i X3.here hx rfl (hb hby d2_39) rfl k) ?_
  show own_Fin _ _ _ _ _ _ _ _ (mkF m 40 #[.val (.ref a1), .val (.int p2), .val (.long q3), .second] [(.int (((q3.toUInt64 >>> ((32 : Int32) &&& 0x3f).toInt64.toUInt64).toInt64).toInt32)), (.int (p2 + (3 : Int32))), (.ref a1)])
  refine own_step (fun t k => XS.i2b X3.here hx rfl (hb hby d2_40) rfl k) ?_
  show own_Fin _ _ _ _ _ _ _ _ (mkF m 41 #[.val (.ref a1), .val (.int p2), .val (.long q3), .second] [(.int ((((q3.toUInt64 >>> ((32 : Int32) &&& 0x3f).toInt64.toUInt64).toInt64).toInt32).toInt8.toInt32)), (.int (p2 + (3 : Int32))), (.ref a1)])
  obtain ⟨T4, h4, X4, e4, W4, B4, st4⟩ := own_bastore X3 hx hZ e3 V_a1 (j := (p2 + (3 : Int32))) (k := p2.toInt.toNat + 3) (by rw [own_ix p2 3 3 (by decide) (by omega) (by omega) (by omega) (by omega)]; omega) (by omega) (own_nar8 _) (x := ((((q3.toUInt64 >>> ((32 : Int32) &&& 0x3f).toInt64.toUInt64).toInt64).toInt32).toInt8.toInt32)) (pc := 41) (Ls := #[.val (.ref a1), .val (.int p2), .val (.long q3), .second]) (rest := []) (hb hby d2_41) rfl
  refine own_step st4 ?_
  replace Zs : n0 ≤ h4.size := by rw [W4.size]; exact Zs
  replace K := K.wr W4 (Or.inl (by simp))
  replace V_a1 := B4
  replace Nf := Fr.snoc X4 Nf g_a1
  show own_Fin _ _ _ _ _ _ _ _ (mkF m 42 #[.val (.ref a1), .val (.int p2), .val (.long q3), .second] [])
  refine own_step (fun t k => XS.aloadN X4.here hx rfl (hb hby d2_42) rfl rfl k) ?_
  show own_Fin _ _ _ _ _ _ _ _ (mkF m 43 #[.val (.ref a1), .val (.int p2), .val (.long q3), .second] [(.ref a1)])
  refine own_step (fun t k => XS.iloadN X4.here hx rfl (hb hby d2_43) rfl k) ?_
  show own_Fin _ _ _ _ _ _ _ _ (mkF m 44 #[.val (.ref a1), .val (.int p2), .val (.long q3), .second] [(.int p2), (.ref a1)])
  refine own_step (fun t k => XS.iconst X4.here hx rfl (hb hby d2_44) k) ?_
  show own_Fin _ _ _ _ _ _ _ _ (mkF m 45 #[.val (.ref a1), .val (.int p2), .val (.long q3), .second] [(.int (4 : Int32)), (.int p2), (.ref a1)])
  refine own_step (fun t k => XS.iadd X4.here hx rfl (hb hby d2_45) rfl k) ?_
  show own_Fin _ _ _ _ _ _ _ _ (mkF m 46 #[.val (.ref a1), .val (.int p2), .val (.long q3), .second] [(.int (p2 + (4 : Int32))), (.ref a1)])
  refine own_step (fun t k => XS.lloadN X4.here hx rfl (hb hby d2_46) rfl k) ?_
  show own_Fin _ _ _ _ _ _ _ _ (mkF m 47 #[.val (.ref a1), .val (.int p2), .val (.long q3), .second] [(.long q3), (.int (p2 + (4 : Int32))), (.ref a1)])
  refine own_step (fun t k => XS.bipush X4.here hx rfl (hb hby d2_47) k) ?_
  show own_Fin _ _ _ _ _ _ _ _ (mkF m 49 #[.val (.ref a1), .val (.int p2), .val (.long q3), .second] [(.int (24 : Int32)), (.long q3), (.int (p2 + (4 : Int32))), (.ref a1)])
  refine own_step (fun t k => XS.lushr X4.here hx rfl (hb hby d2_49) rfl k) ?_
  show own_Fin _ _ _ _ _ _ _ _ (mkF m 50 #[.val (.ref a1), .val (.int p2), .val (.long q3), .second] [(.long ((q3.toUInt64 >>> ((24 : Int32) &&& 0x3f).toInt64.toUInt64).toInt64)), (.int (p2 + (4 : Int32))), (.ref a1)])
  refine own_step (fun t k => XS.l2i X4.here hx rfl (hb hby d2_50) rfl k) ?_
  show own_Fin _ _ _ _ _ _ _ _ (mkF m 51 #[.val (.ref a1), .val (.int p2), .val (.long q3), .second] [(.int (((q3.toUInt64 >>> ((24 : Int32) &&& 0x3f).toInt64.toUInt64).toInt64).toInt32)), (.int (p2 + (4 : Int32))), (.ref a1)])
  refine own_step (fun t k => XS.i2b X4.here hx rfl (hb hby d2_51) rfl k) ?_
  show own_Fin _ _ _ _ _ _ _ _ (mkF m 52 #[.val (.ref a1), .val (.int p2), .val (.long q3), .second] [(.int ((((q3.toUInt64 >>> ((24 : Int32) &&& 0x3f).toInt64.toUInt64).toInt64).toInt32).toInt8.toInt32)), (.int (p2 + (4 : Int32))), (.ref a1)])
  obtain ⟨T5, h5, X5, e5, W5, B5, st5⟩ := own_bastore X4 hx hZ e4 V_a1 (j := (p2 + (4 : Int32))) (k := p2.toInt.toNat + 4) (by rw [own_ix p2 4 4 (by decide) (by omega) (by omega) (by omega) (by omega)]; omega) (by omega) (own_nar8 _) (x := ((((q3.toUInt64 >>> ((24 : Int32) &&& 0x3f).toInt64.toUInt64).toInt64).toInt32).toInt8.toInt32)) (pc := 52) (Ls := #[.val (.ref a1), .val (.int p2), .val (.long q3), .second]) (rest := []) (hb hby d2_52) rfl
  refine own_step st5 ?_
  replace Zs : n0 ≤ h5.size := by rw [W5.size]; exact Zs
  replace K := K.wr W5 (Or.inl (by simp))
  replace V_a1 := B5
  replace Nf := Fr.snoc X5 Nf g_a1
  show own_Fin _ _ _ _ _ _ _ _ (mkF m 53 #[.val (.ref a1), .val (.int p2), .val (.long q3), .second] [])
  refine own_step (fun t k => XS.aloadN X5.here hx rfl (hb hby d2_53) rfl rfl k) ?_
  show own_Fin _ _ _ _ _ _ _ _ (mkF m 54 #[.val (.ref a1), .val (.int p2), .val (.long q3), .second] [(.ref a1)])
  refine own_step (fun t k => XS.iloadN X5.here hx rfl (hb hby d2_54) rfl k) ?_
  show own_Fin _ _ _ _ _ _ _ _ (mkF m 55 #[.val (.ref a1), .val (.int p2), .val (.long q3), .second] [(.int p2), (.ref a1)])
  refine own_step (fun t k => XS.iconst X5.here hx rfl (hb hby d2_55) k) ?_
  show own_Fin _ _ _ _ _ _ _ _ (mkF m 56 #[.val (.ref a1), .val (.int p2), .val (.long q3), .second] [(.int (5 : Int32)), (.int p2), (.ref a1)])
  refine own_step (fun t k => XS.iadd X5.here hx rfl (hb hby d2_56) rfl k) ?_
  show own_Fin _ _ _ _ _ _ _ _ (mkF m 57 #[.val (.ref a1), .val (.int p2), .val (.long q3), .second] [(.int (p2 + (5 : Int32))), (.ref a1)])
  refine own_step (fun t k => XS.lloadN X5.here hx rfl (hb hby d2_57) rfl k) ?_
  show own_Fin _ _ _ _ _ _ _ _ (mkF m 58 #[.val (.ref a1), .val (.int p2), .val (.long q3), .second] [(.long q3), (.int (p2 + (5 : Int32))), (.ref a1)])
  refine own_step (fun t k => XS.bipush X5.here hx rfl (hb hby d2_58) k) ?_
  show own_Fin _ _ _ _ _ _ _ _ (mkF m 60 #[.val (.ref a1), .val (.int p2), .val (.long q3), .second] [(.int (16 : Int32)), (.long q3), (.int (p2 + (5 : Int32))), (.ref a1)])
  refine own_step (fun t k => XS.lushr X5.here hx rfl (hb hby d2_60) rfl k) ?_
  show own_Fin _ _ _ _ _ _ _ _ (mkF m 61 #[.val (.ref a1), .val (.int p2), .val (.long q3), .second] [(.long ((q3.toUInt64 >>> ((16 : Int32) &&& 0x3f).toInt64.toUInt64).toInt64)), (.int (p2 + (5 : Int32))), (.ref a1)])
  refine own_step (fun t k => XS.l2i X5.here hx rfl (hb hby d2_61) rfl k) ?_
  show own_Fin _ _ _ _ _ _ _ _ (mkF m 62 #[.val (.ref a1), .val (.int p2), .val (.long q3), .second] [(.int (((q3.toUInt64 >>> ((16 : Int32) &&& 0x3f).toInt64.toUInt64).toInt64).toInt32)), (.int (p2 + (5 : Int32))), (.ref a1)])
  refine own_step (fun t k => XS.i2b X5.here hx rfl (hb hby d2_62) rfl k) ?_
  show own_Fin _ _ _ _ _ _ _ _ (mkF m 63 #[.val (.ref a1), .val (.int p2), .val (.long q3), .second] [(.int ((((q3.toUInt64 >>> ((16 : Int32) &&& 0x3f).toInt64.toUInt64).toInt64).toInt32).toInt8.toInt32)), (.int (p2 + (5 : Int32))), (.ref a1)])
  obtain ⟨T6, h6, X6, e6, W6, B6, st6⟩ := own_bastore X5 hx hZ e5 V_a1 (j := (p2 + (5 : Int32))) (k := p2.toInt.toNat + 5) (by rw [own_ix p2 5 5 (by decide) (by omega) (by omega) (by omega) (by omega)]; omega) (by omega) (own_nar8 _) (x := ((((q3.toUInt64 >>> ((16 : Int32) &&& 0x3f).toInt64.toUInt64).toInt64).toInt32).toInt8.toInt32)) (pc := 63) (Ls := #[.val (.ref a1), .val (.int p2), .val (.long q3), .second]) (rest := []) (hb hby d2_63) rfl
  refine own_step st6 ?_
  replace Zs : n0 ≤ h6.size := by rw [W6.size]; exact Zs
  replace K := K.wr W6 (Or.inl (by simp))
  replace V_a1 := B6
  replace Nf := Fr.snoc X6 Nf g_a1
  show own_Fin _ _ _ _ _ _ _ _ (mkF m 64 #[.val (.ref a1), .val (.int p2), .val (.long q3), .second] [])
  refine own_step (fun t k => XS.aloadN X6.here hx rfl (hb hby d2_64) rfl rfl k) ?_
  show own_Fin _ _ _ _ _ _ _ _ (mkF m 65 #[.val (.ref a1), .val (.int p2), .val (.long q3), .second] [(.ref a1)])
  refine own_step (fun t k => XS.iloadN X6.here hx rfl (hb hby d2_65) rfl k) ?_
  show own_Fin _ _ _ _ _ _ _ _ (mkF m 66 #[.val (.ref a1), .val (.int p2), .val (.long q3), .second] [(.int p2), (.ref a1)])
  refine own_step (fun t k => XS.bipush X6.here hx rfl (hb hby d2_66) k) ?_
  show own_Fin _ _ _ _ _ _ _ _ (mkF m 68 #[.val (.ref a1), .val (.int p2), .val (.long q3), .second] [(.int (6 : Int32)), (.int p2), (.ref a1)])
  refine own_step (fun t k => XS.iadd X6.here hx rfl (hb hby d2_68) rfl k) ?_
  show own_Fin _ _ _ _ _ _ _ _ (mkF m 69 #[.val (.ref a1), .val (.int p2), .val (.long q3), .second] [(.int (p2 + (6 : Int32))), (.ref a1)])
  refine own_step (fun t k => XS.lloadN X6.here hx rfl (hb hby d2_69) rfl k) ?_
  show own_Fin _ _ _ _ _ _ _ _ (mkF m 70 #[.val (.ref a1), .val (.int p2), .val (.long q3), .second] [(.long q3), (.int (p2 + (6 : Int32))), (.ref a1)])
  refine own_step (fun t k => XS.bipush X6.here hx rfl (hb hby d2_70) k) ?_
  show own_Fin _ _ _ _ _ _ _ _ (mkF m 72 #[.val (.ref a1), .val (.int p2), .val (.long q3), .second] [(.int (8 : Int32)), (.long q3), (.int (p2 + (6 : Int32))), (.ref a1)])
  refine own_step (fun t k => XS.lushr X6.here hx rfl (hb hby d2_72) rfl k) ?_
  show own_Fin _ _ _ _ _ _ _ _ (mkF m 73 #[.val (.ref a1), .val (.int p2), .val (.long q3), .second] [(.long ((q3.toUInt64 >>> ((8 : Int32) &&& 0x3f).toInt64.toUInt64).toInt64)), (.int (p2 + (6 : Int32))), (.ref a1)])
  refine own_step (fun t k => XS.l2i X6.here hx rfl (hb hby d2_73) rfl k) ?_
  show own_Fin _ _ _ _ _ _ _ _ (mkF m 74 #[.val (.ref a1), .val (.int p2), .val (.long q3), .second] [(.int (((q3.toUInt64 >>> ((8 : Int32) &&& 0x3f).toInt64.toUInt64).toInt64).toInt32)), (.int (p2 + (6 : Int32))), (.ref a1)])
  refine own_step (fun t k => XS.i2b X6.here hx rfl (hb hby d2_74) rfl k) ?_
  show own_Fin _ _ _ _ _ _ _ _ (mkF m 75 #[.val (.ref a1), .val (.int p2), .val (.long q3), .second] [(.int ((((q3.toUInt64 >>> ((8 : Int32) &&& 0x3f).toInt64.toUInt64).toInt64).toInt32).toInt8.toInt32)), (.int (p2 + (6 : Int32))), (.ref a1)])
  obtain ⟨T7, h7, X7, e7, W7, B7, st7⟩ := own_bastore X6 hx hZ e6 V_a1 (j := (p2 + (6 : Int32))) (k := p2.toInt.toNat + 6) (by rw [own_ix p2 6 6 (by decide) (by omega) (by omega) (by omega) (by omega)]; omega) (by omega) (own_nar8 _) (x := ((((q3.toUInt64 >>> ((8 : Int32) &&& 0x3f).toInt64.toUInt64).toInt64).toInt32).toInt8.toInt32)) (pc := 75) (Ls := #[.val (.ref a1), .val (.int p2), .val (.long q3), .second]) (rest := []) (hb hby d2_75) rfl
  refine own_step st7 ?_
  replace Zs : n0 ≤ h7.size := by rw [W7.size]; exact Zs
  replace K := K.wr W7 (Or.inl (by simp))
  replace V_a1 := B7
  replace Nf := Fr.snoc X7 Nf g_a1
  show own_Fin _ _ _ _ _ _ _ _ (mkF m 76 #[.val (.ref a1), .val (.int p2), .val (.long q3), .second] [])
  refine own_step (fun t k => XS.aloadN X7.here hx rfl (hb hby d2_76) rfl rfl k) ?_
  show own_Fin _ _ _ _ _ _ _ _ (mkF m 77 #[.val (.ref a1), .val (.int p2), .val (.long q3), .second] [(.ref a1)])
  refine own_step (fun t k => XS.iloadN X7.here hx rfl (hb hby d2_77) rfl k) ?_
  show own_Fin _ _ _ _ _ _ _ _ (mkF m 78 #[.val (.ref a1), .val (.int p2), .val (.long q3), .second] [(.int p2), (.ref a1)])
  refine own_step (fun t k => XS.bipush X7.here hx rfl (hb hby d2_78) k) ?_
  show own_Fin _ _ _ _ _ _ _ _ (mkF m 80 #[.val (.ref a1), .val (.int p2), .val (.long q3), .second] [(.int (7 : Int32)), (.int p2), (.ref a1)])
  refine own_step (fun t k => XS.iadd X7.here hx rfl (hb hby d2_80) rfl k) ?_
  show own_Fin _ _ _ _ _ _ _ _ (mkF m 81 #[.val (.ref a1), .val (.int p2), .val (.long q3), .second] [(.int (p2 + (7 : Int32))), (.ref a1)])
  refine own_step (fun t k => XS.lloadN X7.here hx rfl (hb hby d2_81) rfl k) ?_
  show own_Fin _ _ _ _ _ _ _ _ (mkF m 82 #[.val (.ref a1), .val (.int p2), .val (.long q3), .second] [(.long q3), (.int (p2 + (7 : Int32))), (.ref a1)])
  refine own_step (fun t k => XS.l2i X7.here hx rfl (hb hby d2_82) rfl k) ?_
  show own_Fin _ _ _ _ _ _ _ _ (mkF m 83 #[.val (.ref a1), .val (.int p2), .val (.long q3), .second] [(.int (q3.toInt32)), (.int (p2 + (7 : Int32))), (.ref a1)])
  refine own_step (fun t k => XS.i2b X7.here hx rfl (hb hby d2_83) rfl k) ?_
  show own_Fin _ _ _ _ _ _ _ _ (mkF m 84 #[.val (.ref a1), .val (.int p2), .val (.long q3), .second] [(.int ((q3.toInt32).toInt8.toInt32)), (.int (p2 + (7 : Int32))), (.ref a1)])
  obtain ⟨T8, h8, X8, e8, W8, B8, st8⟩ := own_bastore X7 hx hZ e7 V_a1 (j := (p2 + (7 : Int32))) (k := p2.toInt.toNat + 7) (by rw [own_ix p2 7 7 (by decide) (by omega) (by omega) (by omega) (by omega)]; omega) (by omega) (own_nar8 _) (x := ((q3.toInt32).toInt8.toInt32)) (pc := 84) (Ls := #[.val (.ref a1), .val (.int p2), .val (.long q3), .second]) (rest := []) (hb hby d2_84) rfl
  refine own_step st8 ?_
  replace Zs : n0 ≤ h8.size := by rw [W8.size]; exact Zs
  replace K := K.wr W8 (Or.inl (by simp))
  replace V_a1 := B8
  replace Nf := Fr.snoc X8 Nf g_a1
  show own_Fin _ _ _ _ _ _ _ _ (mkF m 85 #[.val (.ref a1), .val (.int p2), .val (.long q3), .second] [])
  refine own_retV X8 hx hlk Bd.returns (hb hby d2_85) (by decide) (by decide) e8 ?_
  exact ⟨rfl, Nf, K, V_a1⟩
theorem d3_0 : decode method_2_code 0 = .ok (.iload_n 1, 1) := by decide +kernel
theorem d3_1 : decode method_2_code 1 = .ok (.iload_n 2, 1) := by decide +kernel
theorem d3_2 : decode method_2_code 2 = .ok (.if_icmp .lt 11, 3) := by decide +kernel
theorem d3_5 : decode method_2_code 5 = .ok (.iload_n 1, 1) := by decide +kernel
theorem d3_6 : decode method_2_code 6 = .ok (.iload_n 2, 1) := by decide +kernel
theorem d3_7 : decode method_2_code 7 = .ok (.bipush 8, 2) := by decide +kernel
theorem d3_9 : decode method_2_code 9 = .ok (.iadd, 1) := by decide +kernel
theorem d3_10 : decode method_2_code 10 = .ok (.if_icmp .lt 19, 3) := by decide +kernel
theorem d3_13 : decode method_2_code 13 = .ok (.aload_n 0, 1) := by decide +kernel
theorem d3_14 : decode method_2_code 14 = .ok (.iload_n 1, 1) := by decide +kernel
theorem d3_15 : decode method_2_code 15 = .ok (.baload, 1) := by decide +kernel
theorem d3_16 : decode method_2_code 16 = .ok (.iload_n 3, 1) := by decide +kernel
theorem d3_17 : decode method_2_code 17 = .ok (.iload_n 1, 1) := by decide +kernel
theorem d3_18 : decode method_2_code 18 = .ok (.iadd, 1) := by decide +kernel
theorem d3_19 : decode method_2_code 19 = .ok (.i2b, 1) := by decide +kernel
theorem d3_20 : decode method_2_code 20 = .ok (.if_icmp .ne 7, 3) := by decide +kernel
theorem d3_23 : decode method_2_code 23 = .ok (.iconst 1, 1) := by decide +kernel
theorem d3_24 : decode method_2_code 24 = .ok (.goto 4, 3) := by decide +kernel
theorem d3_28 : decode method_2_code 28 = .ok (.ireturn, 1) := by decide +kernel
theorem d3_29 : decode method_2_code 29 = .ok (.iconst 1, 1) := by decide +kernel
theorem d3_30 : decode method_2_code 30 = .ok (.ireturn, 1) := by decide +kernel
theorem own_pn_3 : plainName "com/example/pcr10/pcr10/ScratchBytesPutLongPinLaw" = true := by first | (simp [plainName, overriddenIn]; done) | decide +kernel
theorem own_ef_3 (m : MethodId) (a1 : Addr) (p2 : Int32) (p3 : Int32) (p4 : Int32) : entryFrame m #[(.ref a1), (.int p2), (.int p3), (.int p4)] 4 = mkF m 0 #[.val (.ref a1), .val (.int p2), .val (.int p3), .val (.int p4)] [] := by first | (simp [entryFrame, mkF, argsToLocals, Value.category]; done) | rfl
abbrev own_R3 : Room := { frames := 0, cells := 0, slots := 0, locals := 0 }
def own_Q3 (Z : State) (a1 : Addr) (p2 : Int32) (p3 : Int32) (p4 : Int32) (f1 : Nat → Int32) (h0 : Heap) (n0 : Nat) (v : Option Value) (h : Heap) (L : List Loc) : Prop := v = some (.int (1 : Int32)) ∧ Fr n0 L ∧ h = h0
set_option maxRecDepth 65536 in
set_option maxHeartbeats 40000000 in
theorem rm3 (l : Launch) (Z : State) (a0 : Array Value) (hw : ∀ d ∈ tables_1, d.before a0 Z = true) (ws : List Jvm.Cond) (a1 : Addr) (p2 : Int32) (p3 : Int32) (p4 : Int32) (f1 : Nat → Int32) (h0 : Heap) (n0 : Nat) (Z0 : n0 ≤ h0.size) (V_a1 : own_AI Z h0 a1 .byte 12 f1) (h2 : 0 ≤ p2.toInt ∧ p2.toInt < 12) (h3 : 0 ≤ p3.toInt ∧ p3.toInt ≤ 4) (hk : (p2.toInt < p3.toInt ∨ p3.toInt + 8 ≤ p2.toInt) → f1 p2.toInt.toNat = (p4 + p2).toInt8.toInt32) :
    MetFree l (⟨"com/example/pcr10/pcr10/ScratchBytesPutLongPinLaw", "kept", "([BIII)Z"⟩ : MethodName) (head1 (Jvm.Cond.code (⟨"com/example/pcr10/pcr10/ScratchBytesPutLongPinLaw", "kept", "([BIII)Z"⟩ : MethodName) method_2_code 4 (some .boolean) :: ws) own_R3) (fun a U => a = #[(.ref a1), (.int p2), (.int p3), (.int p4)] ∧ Z.Warmed39 U.vm ∧ U.heap = h0) (fun _ _ _ _ _ => True) (fun _ U o U' => ∃ v L, o = .returned v ∧ own_Q3 Z a1 p2 p3 p4 f1 h0 n0 v U'.heap L ∧ FrameEnd U o U' L own_R3.cells own_R3.slots) := by
  refine MetFree.of_bodySF (plainFor_of_name own_pn_3) hisR ?_
  intro p e s m args below meth c s₁ Bd hml0 hP hK
  obtain ⟨rfl, hZ, hh⟩ := hP
  have hx := Bd.exec
  have hby := Bd.bytes
  have hlk := BodyLoose.notSynchronized Bd
  have hml : c.maxLocals = 4 := hml0
  have hown : s.vm.findClass "com/example/pcr10/pcr10/ScratchBytesPutLongPinLaw" = some m.cls := (findClass_of_methodNamed Bd.named : s.vm.findClass (⟨"com/example/pcr10/pcr10/ScratchBytesPutLongPinLaw", "kept", "([BIII)Z"⟩ : MethodName).cls = some m.cls)
  have hnm := (name_of_methodNamed Bd.named Bd.method).1
  have X0 : Stand p l e own_R3 s m #[(.ref a1), (.int p2), (.int p3), (.int p4)] below meth c s₁ [] 0 0 := Stand.of_body Bd
  have e0 : s₁.heap = h0 := by rw [← hh, Bd.state]; rfl
  have Nf := Fr.nil n0
  have Zs := Z0
  show own_Fin p e below s (own_Q3 Z a1 p2 p3 p4 f1 h0 n0) 0 0 s₁ (entryFrame m #[(.ref a1), (.int p2), (.int p3), (.int p4)] 4)
  rw [own_ef_3 m a1 p2 p3 p4]
  show own_Fin _ _ _ _ _ _ _ _ (mkF m 0 #[.val (.ref a1), .val (.int p2), .val (.int p3), .val (.int p4)] [])
  have h8 := own_ix p3 8 8 (by decide) (by omega) (by omega) (by omega) (by omega)
  refine own_step (fun t k => XS.iloadN X0.here hx rfl (hb hby d3_0) rfl k) ?_
  show own_Fin _ _ _ _ _ _ _ _ (mkF m 1 #[.val (.ref a1), .val (.int p2), .val (.int p3), .val (.int p4)] [(.int p2)])
  refine own_step (fun t k => XS.iloadN X0.here hx rfl (hb hby d3_1) rfl k) ?_
  show own_Fin _ _ _ _ _ _ _ _ (mkF m 2 #[.val (.ref a1), .val (.int p2), .val (.int p3), .val (.int p4)] [(.int p3), (.int p2)])
  by_cases hc1 : (p2).toInt < (p3).toInt
  · skip
    refine own_step (fun t k => XS.icmpYes X0.here hx rfl (pc0 := 2) (pc' := 13) rfl (hb hby d3_2) rfl (own_cl (x := p2) (y := p3) rfl rfl hc1).1 (by decide) (by decide) k) ?_
    show own_Fin _ _ _ _ _ _ _ _ (mkF m 13 #[.val (.ref a1), .val (.int p2), .val (.int p3), .val (.int p4)] [])
    refine own_step (fun t k => XS.aloadN X0.here hx rfl (hb hby d3_13) rfl rfl k) ?_
    show own_Fin _ _ _ _ _ _ _ _ (mkF m 14 #[.val (.ref a1), .val (.int p2), .val (.int p3), .val (.int p4)] [(.ref a1)])
    refine own_step (fun t k => XS.iloadN X0.here hx rfl (hb hby d3_14) rfl k) ?_
    show own_Fin _ _ _ _ _ _ _ _ (mkF m 15 #[.val (.ref a1), .val (.int p2), .val (.int p3), .val (.int p4)] [(.int p2), (.ref a1)])
    refine own_baload X0 hx hZ e0 V_a1 (k := p2.toInt.toNat) (by omega) (by omega) (v := (f1 (p2.toInt.toNat))) rfl (hb hby d3_15) rfl ?_
    show own_Fin _ _ _ _ _ _ _ _ (mkF m 16 #[.val (.ref a1), .val (.int p2), .val (.int p3), .val (.int p4)] [(.int (f1 (p2.toInt.toNat)))])
    refine own_step (fun t k => XS.iloadN X0.here hx rfl (hb hby d3_16) rfl k) ?_
    show own_Fin _ _ _ _ _ _ _ _ (mkF m 17 #[.val (.ref a1), .val (.int p2), .val (.int p3), .val (.int p4)] [(.int p4), (.int (f1 (p2.toInt.toNat)))])
    refine own_step (fun t k => XS.iloadN X0.here hx rfl (hb hby d3_17) rfl k) ?_
    show own_Fin _ _ _ _ _ _ _ _ (mkF m 18 #[.val (.ref a1), .val (.int p2), .val (.int p3), .val (.int p4)] [(.int p2), (.int p4), (.int (f1 (p2.toInt.toNat)))])
    refine own_step (fun t k => XS.iadd X0.here hx rfl (hb hby d3_18) rfl k) ?_
    show own_Fin _ _ _ _ _ _ _ _ (mkF m 19 #[.val (.ref a1), .val (.int p2), .val (.int p3), .val (.int p4)] [(.int (p4 + p2)), (.int (f1 (p2.toInt.toNat)))])
    refine own_step (fun t k => XS.i2b X0.here hx rfl (hb hby d3_19) rfl k) ?_
    show own_Fin _ _ _ _ _ _ _ _ (mkF m 20 #[.val (.ref a1), .val (.int p2), .val (.int p3), .val (.int p4)] [(.int ((p4 + p2).toInt8.toInt32)), (.int (f1 (p2.toInt.toNat)))])
    have hc2 : ((f1 (p2.toInt.toNat))).toInt = (((p4 + p2).toInt8.toInt32)).toInt := by rw [hk (by omega)]
    refine own_step (fun t k => XS.icmpNo X0.here hx rfl (hb hby d3_20) rfl (own_ce (x := (f1 (p2.toInt.toNat))) (y := ((p4 + p2).toInt8.toInt32)) rfl rfl hc2).2 k) ?_
    show own_Fin _ _ _ _ _ _ _ _ (mkF m 23 #[.val (.ref a1), .val (.int p2), .val (.int p3), .val (.int p4)] [])
    refine own_step (fun t k => XS.iconst X0.here hx rfl (hb hby d3_23) k) ?_
    show own_Fin _ _ _ _ _ _ _ _ (mkF m 24 #[.val (.ref a1), .val (.int p2), .val (.int p3), .val (.int p4)] [(.int (1 : Int32))])
    refine own_step (fun t k => XS.goto X0.here hx rfl (pc0 := 24) (pc' := 28) rfl (hb hby d3_24) (by decide) (by decide) k) ?_
    show own_Fin _ _ _ _ _ _ _ _ (mkF m 28 #[.val (.ref a1), .val (.int p2), .val (.int p3), .val (.int p4)] [(.int (1 : Int32))])
    refine own_retZ X0 hx hlk Bd.returns (hb hby d3_28) (z' := (1 : Int32)) (by decide) (by decide) (by decide) e0 ?_
    exact ⟨rfl, Nf, rfl⟩
  · skip
    refine own_step (fun t k => XS.icmpNo X0.here hx rfl (hb hby d3_2) rfl (own_cn (x := p2) (y := p3) rfl rfl hc1).1 k) ?_
    show own_Fin _ _ _ _ _ _ _ _ (mkF m 5 #[.val (.ref a1), .val (.int p2), .val (.int p3), .val (.int p4)] [])
    refine own_step (fun t k => XS.iloadN X0.here hx rfl (hb hby d3_5) rfl k) ?_
    show own_Fin _ _ _ _ _ _ _ _ (mkF m 6 #[.val (.ref a1), .val (.int p2), .val (.int p3), .val (.int p4)] [(.int p2)])
    refine own_step (fun t k => XS.iloadN X0.here hx rfl (hb hby d3_6) rfl k) ?_
    show own_Fin _ _ _ _ _ _ _ _ (mkF m 7 #[.val (.ref a1), .val (.int p2), .val (.int p3), .val (.int p4)] [(.int p3), (.int p2)])
    refine own_step (fun t k => XS.bipush X0.here hx rfl (hb hby d3_7) k) ?_
    show own_Fin _ _ _ _ _ _ _ _ (mkF m 9 #[.val (.ref a1), .val (.int p2), .val (.int p3), .val (.int p4)] [(.int (8 : Int32)), (.int p3), (.int p2)])
    refine own_step (fun t k => XS.iadd X0.here hx rfl (hb hby d3_9) rfl k) ?_
    show own_Fin _ _ _ _ _ _ _ _ (mkF m 10 #[.val (.ref a1), .val (.int p2), .val (.int p3), .val (.int p4)] [(.int (p3 + (8 : Int32))), (.int p2)])
    by_cases hc3 : (p2).toInt < ((p3 + (8 : Int32))).toInt
    · skip
      refine own_step (fun t k => XS.icmpYes X0.here hx rfl (pc0 := 10) (pc' := 29) rfl (hb hby d3_10) rfl (own_cl (x := p2) (y := (p3 + (8 : Int32))) rfl rfl hc3).1 (by decide) (by decide) k) ?_
      show own_Fin _ _ _ _ _ _ _ _ (mkF m 29 #[.val (.ref a1), .val (.int p2), .val (.int p3), .val (.int p4)] [])
      refine own_step (fun t k => XS.iconst X0.here hx rfl (hb hby d3_29) k) ?_
      show own_Fin _ _ _ _ _ _ _ _ (mkF m 30 #[.val (.ref a1), .val (.int p2), .val (.int p3), .val (.int p4)] [(.int (1 : Int32))])
      refine own_retZ X0 hx hlk Bd.returns (hb hby d3_30) (z' := (1 : Int32)) (by decide) (by decide) (by decide) e0 ?_
      exact ⟨rfl, Nf, rfl⟩
    · skip
      refine own_step (fun t k => XS.icmpNo X0.here hx rfl (hb hby d3_10) rfl (own_cn (x := p2) (y := (p3 + (8 : Int32))) rfl rfl hc3).1 k) ?_
      show own_Fin _ _ _ _ _ _ _ _ (mkF m 13 #[.val (.ref a1), .val (.int p2), .val (.int p3), .val (.int p4)] [])
      refine own_step (fun t k => XS.aloadN X0.here hx rfl (hb hby d3_13) rfl rfl k) ?_
      show own_Fin _ _ _ _ _ _ _ _ (mkF m 14 #[.val (.ref a1), .val (.int p2), .val (.int p3), .val (.int p4)] [(.ref a1)])
      refine own_step (fun t k => XS.iloadN X0.here hx rfl (hb hby d3_14) rfl k) ?_
      show own_Fin _ _ _ _ _ _ _ _ (mkF m 15 #[.val (.ref a1), .val (.int p2), .val (.int p3), .val (.int p4)] [(.int p2), (.ref a1)])
      refine own_baload X0 hx hZ e0 V_a1 (k := p2.toInt.toNat) (by omega) (by omega) (v := (f1 (p2.toInt.toNat))) rfl (hb hby d3_15) rfl ?_
      show own_Fin _ _ _ _ _ _ _ _ (mkF m 16 #[.val (.ref a1), .val (.int p2), .val (.int p3), .val (.int p4)] [(.int (f1 (p2.toInt.toNat)))])
      refine own_step (fun t k => XS.iloadN X0.here hx rfl (hb hby d3_16) rfl k) ?_
      show own_Fin _ _ _ _ _ _ _ _ (mkF m 17 #[.val (.ref a1), .val (.int p2), .val (.int p3), .val (.int p4)] [(.int p4), (.int (f1 (p2.toInt.toNat)))])
      refine own_step (fun t k => XS.iloadN X0.here hx rfl (hb hby d3_17) rfl k) ?_
      show own_Fin _ _ _ _ _ _ _ _ (mkF m 18 #[.val (.ref a1), .val (.int p2), .val (.int p3), .val (.int p4)] [(.int p2), (.int p4), (.int (f1 (p2.toInt.toNat)))])
      refine own_step (fun t k => XS.iadd X0.here hx rfl (hb hby d3_18) rfl k) ?_
      show own_Fin _ _ _ _ _ _ _ _ (mkF m 19 #[.val (.ref a1), .val (.int p2), .val (.int p3), .val (.int p4)] [(.int (p4 + p2)), (.int (f1 (p2.toInt.toNat)))])
      refine own_step (fun t k => XS.i2b X0.here hx rfl (hb hby d3_19) rfl k) ?_
      show own_Fin _ _ _ _ _ _ _ _ (mkF m 20 #[.val (.ref a1), .val (.int p2), .val (.int p3), .val (.int p4)] [(.int ((p4 + p2).toInt8.toInt32)), (.int (f1 (p2.toInt.toNat)))])
      have hc4 : ((f1 (p2.toInt.toNat))).toInt = (((p4 + p2).toInt8.toInt32)).toInt := by rw [hk (by omega)]
      refine own_step (fun t k => XS.icmpNo X0.here hx rfl (hb hby d3_20) rfl (own_ce (x := (f1 (p2.toInt.toNat))) (y := ((p4 + p2).toInt8.toInt32)) rfl rfl hc4).2 k) ?_
      show own_Fin _ _ _ _ _ _ _ _ (mkF m 23 #[.val (.ref a1), .val (.int p2), .val (.int p3), .val (.int p4)] [])
      refine own_step (fun t k => XS.iconst X0.here hx rfl (hb hby d3_23) k) ?_
      show own_Fin _ _ _ _ _ _ _ _ (mkF m 24 #[.val (.ref a1), .val (.int p2), .val (.int p3), .val (.int p4)] [(.int (1 : Int32))])
      refine own_step (fun t k => XS.goto X0.here hx rfl (pc0 := 24) (pc' := 28) rfl (hb hby d3_24) (by decide) (by decide) k) ?_
      show own_Fin _ _ _ _ _ _ _ _ (mkF m 28 #[.val (.ref a1), .val (.int p2), .val (.int p3), .val (.int p4)] [(.int (1 : Int32))])
      refine own_retZ X0 hx hlk Bd.returns (hb hby d3_28) (z' := (1 : Int32)) (by decide) (by decide) (by decide) e0 ?_
      exact ⟨rfl, Nf, rfl⟩
theorem own_pd_0 : parseMethodDescriptor "([BIJ)V" = some ⟨[(.array .byte), .int, .long], none⟩ := by decide +kernel
theorem own_pd_1 : parseMethodDescriptor "([BI)J" = some ⟨[(.array .byte), .int], some .long⟩ := by decide +kernel
theorem own_pd_2 : parseMethodDescriptor "([BIII)Z" = some ⟨[(.array .byte), .int, .int, .int], some .boolean⟩ := by decide +kernel
theorem own_pn_0 : plainName "com/example/pcr10/pcr10/ScratchBytesPutLongPinLaw" = true := by first | (simp [plainName, overriddenIn]; done) | decide +kernel
theorem own_ef_0 (m : MethodId) (p1 : Int32) (q2 : Int64) (p3 : Int32) : entryFrame m #[(.int p1), (.long q2), (.int p3)] maxLocals = mkF m 0 #[.val (.int p1), .val (.long q2), .second, .val (.int p3), .unset, .unset, .unset] [] := by first | (simp [entryFrame, mkF, argsToLocals, Value.category, maxLocals]; done) | rfl
def own_Q0 (Z : State) (p1 : Int32) (q2 : Int64) (p3 : Int32) (h0 : Heap) (n0 : Nat) (v : Option Value) (h : Heap) (L : List Loc) : Prop := v = some (.int 1) ∧ Fr n0 L
set_option maxRecDepth 65536 in
set_option maxHeartbeats 40000000 in
theorem rm0 (l : Launch) (Z : State) (a0 : Array Value) (hw : ∀ d ∈ tables_1, d.before a0 Z = true) (ws : List Jvm.Cond) (p1 : Int32) (q2 : Int64) (p3 : Int32) (h0 : Heap) (n0 : Nat) (Z0 : n0 ≤ h0.size) :
    MetFree l x (head1 (Jvm.Cond.code x code maxLocals ret :: ws) room_1) (fun a U => a = #[(.int p1), (.long q2), (.int p3)] ∧ Z.Warmed39 U.vm ∧ U.heap = h0) (fun _ _ _ _ _ => True) (fun _ U o U' => ∃ v L, o = .returned v ∧ own_Q0 Z p1 q2 p3 h0 n0 v U'.heap L ∧ FrameEnd U o U' L 16 128) := by
  refine MetFree.of_bodySF (plainFor_of_name own_pn_0) hisR ?_
  intro p e s m args below meth c s₁ Bd hml0 hP hK
  obtain ⟨rfl, hZ, hh⟩ := hP
  have hx := Bd.exec
  have hby := Bd.bytes
  have hlk := BodyLoose.notSynchronized Bd
  have hml : c.maxLocals = 7 := hml0
  have hown : s.vm.findClass "com/example/pcr10/pcr10/ScratchBytesPutLongPinLaw" = some m.cls := (findClass_of_methodNamed Bd.named : s.vm.findClass x.cls = some m.cls)
  have hnm := (name_of_methodNamed Bd.named Bd.method).1
  have X0 : Stand p l e room_1 s m #[(.int p1), (.long q2), (.int p3)] below meth c s₁ [] 0 0 := Stand.of_body Bd
  have e0 : s₁.heap = h0 := by rw [← hh, Bd.state]; rfl
  have Nf := Fr.nil n0
  have Zs := Z0
  show own_Fin p e below s (own_Q0 Z p1 q2 p3 h0 n0) 16 128 s₁ (entryFrame m #[(.int p1), (.long q2), (.int p3)] maxLocals)
  rw [own_ef_0 m p1 q2 p3]
  show own_Fin _ _ _ _ _ _ _ _ (mkF m 0 #[.val (.int p1), .val (.long q2), .second, .val (.int p3), .unset, .unset, .unset] [])
  refine own_step (fun t k => XS.iloadN X0.here hx rfl (hb hby at_0) rfl k) ?_
  show own_Fin _ _ _ _ _ _ _ _ (mkF m 1 #[.val (.int p1), .val (.long q2), .second, .val (.int p3), .unset, .unset, .unset] [(.int p1)])
  refine own_step (fun t k => X0.ldcInt hx hown (mvT hZ (hw _ (List.mem_of_getElem? (i := 0) rfl))) (g := (mkF m 1 #[.val (.int p1), .val (.long q2), .second, .val (.int p3), .unset, .unset, .unset] [(.int p1)])) rfl (hb hby at_1) _ k) ?_
  show own_Fin _ _ _ _ _ _ _ _ (mkF m 3 #[.val (.int p1), .val (.long q2), .second, .val (.int p3), .unset, .unset, .unset] [(.int (2147483647 : Int32)), (.int p1)])
  refine own_step (fun t k => XS.iand X0.here hx rfl (hb hby at_3) rfl k) ?_
  show own_Fin _ _ _ _ _ _ _ _ (mkF m 4 #[.val (.int p1), .val (.long q2), .second, .val (.int p3), .unset, .unset, .unset] [(.int (p1 &&& (2147483647 : Int32)))])
  refine own_step (fun t k => XS.iconst X0.here hx rfl (hb hby at_4) k) ?_
  show own_Fin _ _ _ _ _ _ _ _ (mkF m 5 #[.val (.int p1), .val (.long q2), .second, .val (.int p3), .unset, .unset, .unset] [(.int (5 : Int32)), (.int (p1 &&& (2147483647 : Int32)))])
  refine own_step (fun t k => iremM X0 hx rfl (hb hby at_5) rfl (by decide) k) ?_
  show own_Fin _ _ _ _ _ _ _ _ (mkF m 6 #[.val (.int p1), .val (.long q2), .second, .val (.int p3), .unset, .unset, .unset] [(.int ((p1 &&& (2147483647 : Int32)) % (5 : Int32)))])
  generalize haa : ((p1 &&& (2147483647 : Int32)) % (5 : Int32)) = aa
  refine own_step (fun t k => XS.istore X0.here hx rfl (hb hby at_6) rfl (l' := #[.val (.int p1), .val (.long q2), .second, .val (.int p3), .val (.int aa), .unset, .unset]) rfl k) ?_
  show own_Fin _ _ _ _ _ _ _ _ (mkF m 8 #[.val (.int p1), .val (.long q2), .second, .val (.int p3), .val (.int aa), .unset, .unset] [])
  have hA : 0 ≤ aa.toInt ∧ aa.toInt ≤ 4 := by
    have q := c_mask p1 2147483647 31 (by decide) (by decide)
    have r := (c_irem (p1 &&& 2147483647) 5 5 (by decide)).1 (by omega)
    rw [haa] at r
    omega
  refine own_step (fun t k => XS.bipush X0.here hx rfl (hb hby at_8) k) ?_
  show own_Fin _ _ _ _ _ _ _ _ (mkF m 10 #[.val (.int p1), .val (.long q2), .second, .val (.int p3), .val (.int aa), .unset, .unset] [(.int (12 : Int32))])
  obtain ⟨T1, h1, k1, X1, e1, E1, A1, st1⟩ := newP X0 hx hZ (hw _ (List.mem_of_getElem? (i := 1) rfl)) e0 (g := (mkF m 10 #[.val (.int p1), .val (.long q2), .second, .val (.int p3), .val (.int aa), .unset, .unset] [(.int (12 : Int32))])) rfl (hb hby at_10) rfl (by decide) (cap := 12) (by decide) (by decide) (by decide) (by decide)
  obtain ⟨b1, g1⟩ : ∃ z, z = h0.size := ⟨_, rfl⟩
  rw [← g1] at A1 st1
  refine own_step st1 ?_
  have g_b1 : n0 ≤ b1 := Nat.le_trans Zs (Nat.le_of_eq g1.symm)
  replace Zs := Nat.le_trans Zs E1.1
  have V_b1 := own_AI.newB (n := 12) A1 (by decide)
  show own_Fin _ _ _ _ _ _ _ _ (mkF m 12 #[.val (.int p1), .val (.long q2), .second, .val (.int p3), .val (.int aa), .unset, .unset] [(.ref b1)])
  refine own_step (fun t k => XS.astore X1.here hx rfl (hb hby at_12) rfl rfl (l' := #[.val (.int p1), .val (.long q2), .second, .val (.int p3), .val (.int aa), .val (.ref b1), .unset]) rfl k) ?_
  show own_Fin _ _ _ _ _ _ _ _ (mkF m 14 #[.val (.int p1), .val (.long q2), .second, .val (.int p3), .val (.int aa), .val (.ref b1), .unset] [])
  refine own_step (fun t k => XS.aload X1.here hx rfl (hb hby at_14) rfl rfl k) ?_
  show own_Fin _ _ _ _ _ _ _ _ (mkF m 16 #[.val (.int p1), .val (.long q2), .second, .val (.int p3), .val (.int aa), .val (.ref b1), .unset] [(.ref b1)])
  refine own_step (fun t k => XS.iconst X1.here hx rfl (hb hby at_16) k) ?_
  show own_Fin _ _ _ _ _ _ _ _ (mkF m 17 #[.val (.int p1), .val (.long q2), .second, .val (.int p3), .val (.int aa), .val (.ref b1), .unset] [(.int (0 : Int32)), (.ref b1)])
  refine own_step (fun t k => XS.iloadN X1.here hx rfl (hb hby at_17) rfl k) ?_
  show own_Fin _ _ _ _ _ _ _ _ (mkF m 18 #[.val (.int p1), .val (.long q2), .second, .val (.int p3), .val (.int aa), .val (.ref b1), .unset] [(.int p3), (.int (0 : Int32)), (.ref b1)])
  refine own_step (fun t k => XS.iconst X1.here hx rfl (hb hby at_18) k) ?_
  show own_Fin _ _ _ _ _ _ _ _ (mkF m 19 #[.val (.int p1), .val (.long q2), .second, .val (.int p3), .val (.int aa), .val (.ref b1), .unset] [(.int (0 : Int32)), (.int p3), (.int (0 : Int32)), (.ref b1)])
  refine own_step (fun t k => XS.iadd X1.here hx rfl (hb hby at_19) rfl k) ?_
  show own_Fin _ _ _ _ _ _ _ _ (mkF m 20 #[.val (.int p1), .val (.long q2), .second, .val (.int p3), .val (.int aa), .val (.ref b1), .unset] [(.int (p3 + (0 : Int32))), (.int (0 : Int32)), (.ref b1)])
  refine own_step (fun t k => XS.i2b X1.here hx rfl (hb hby at_20) rfl k) ?_
  show own_Fin _ _ _ _ _ _ _ _ (mkF m 21 #[.val (.int p1), .val (.long q2), .second, .val (.int p3), .val (.int aa), .val (.ref b1), .unset] [(.int ((p3 + (0 : Int32)).toInt8.toInt32)), (.int (0 : Int32)), (.ref b1)])
  obtain ⟨T2, h2, X2, e2, W2, B2, st2⟩ := own_bastore X1 hx hZ e1 V_b1 (j := (0 : Int32)) (k := 0) rfl (by decide) (own_nar8 _) (x := ((p3 + (0 : Int32)).toInt8.toInt32)) (pc := 21) (Ls := #[.val (.int p1), .val (.long q2), .second, .val (.int p3), .val (.int aa), .val (.ref b1), .unset]) (rest := []) (hb hby at_21) rfl
  refine own_step st2 ?_
  replace Zs : n0 ≤ h2.size := by rw [W2.size]; exact Zs
  replace V_b1 := B2
  replace Nf := Fr.snoc X2 Nf g_b1
  show own_Fin _ _ _ _ _ _ _ _ (mkF m 22 #[.val (.int p1), .val (.long q2), .second, .val (.int p3), .val (.int aa), .val (.ref b1), .unset] [])
  refine own_step (fun t k => XS.aload X2.here hx rfl (hb hby at_22) rfl rfl k) ?_
  show own_Fin _ _ _ _ _ _ _ _ (mkF m 24 #[.val (.int p1), .val (.long q2), .second, .val (.int p3), .val (.int aa), .val (.ref b1), .unset] [(.ref b1)])
  refine own_step (fun t k => XS.iconst X2.here hx rfl (hb hby at_24) k) ?_
  show own_Fin _ _ _ _ _ _ _ _ (mkF m 25 #[.val (.int p1), .val (.long q2), .second, .val (.int p3), .val (.int aa), .val (.ref b1), .unset] [(.int (1 : Int32)), (.ref b1)])
  refine own_step (fun t k => XS.iloadN X2.here hx rfl (hb hby at_25) rfl k) ?_
  show own_Fin _ _ _ _ _ _ _ _ (mkF m 26 #[.val (.int p1), .val (.long q2), .second, .val (.int p3), .val (.int aa), .val (.ref b1), .unset] [(.int p3), (.int (1 : Int32)), (.ref b1)])
  refine own_step (fun t k => XS.iconst X2.here hx rfl (hb hby at_26) k) ?_
  show own_Fin _ _ _ _ _ _ _ _ (mkF m 27 #[.val (.int p1), .val (.long q2), .second, .val (.int p3), .val (.int aa), .val (.ref b1), .unset] [(.int (1 : Int32)), (.int p3), (.int (1 : Int32)), (.ref b1)])
  refine own_step (fun t k => XS.iadd X2.here hx rfl (hb hby at_27) rfl k) ?_
  show own_Fin _ _ _ _ _ _ _ _ (mkF m 28 #[.val (.int p1), .val (.long q2), .second, .val (.int p3), .val (.int aa), .val (.ref b1), .unset] [(.int (p3 + (1 : Int32))), (.int (1 : Int32)), (.ref b1)])
  refine own_step (fun t k => XS.i2b X2.here hx rfl (hb hby at_28) rfl k) ?_
  show own_Fin _ _ _ _ _ _ _ _ (mkF m 29 #[.val (.int p1), .val (.long q2), .second, .val (.int p3), .val (.int aa), .val (.ref b1), .unset] [(.int ((p3 + (1 : Int32)).toInt8.toInt32)), (.int (1 : Int32)), (.ref b1)])
  obtain ⟨T3, h3, X3, e3, W3, B3, st3⟩ := own_bastore X2 hx hZ e2 V_b1 (j := (1 : Int32)) (k := 1) rfl (by decide) (own_nar8 _) (x := ((p3 + (1 : Int32)).toInt8.toInt32)) (pc := 29) (Ls := #[.val (.int p1), .val (.long q2), .second, .val (.int p3), .val (.int aa), .val (.ref b1), .unset]) (rest := []) (hb hby at_29) rfl
  refine own_step st3 ?_
  replace Zs : n0 ≤ h3.size := by rw [W3.size]; exact Zs
  replace V_b1 := B3
  replace Nf := Fr.snoc X3 Nf g_b1
  show own_Fin _ _ _ _ _ _ _ _ (mkF m 30 #[.val (.int p1), .val (.long q2), .second, .val (.int p3), .val (.int aa), .val (.ref b1), .unset] [])
  refine own_step (fun t k => XS.aload X3.here hx rfl (hb hby at_30) rfl rfl k) ?_
  show own_Fin _ _ _ _ _ _ _ _ (mkF m 32 #[.val (.int p1), .val (.long q2), .second, .val (.int p3), .val (.int aa), .val (.ref b1), .unset] [(.ref b1)])
  refine own_step (fun t k => XS.iconst X3.here hx rfl (hb hby at_32) k) ?_
  show own_Fin _ _ _ _ _ _ _ _ (mkF m 33 #[.val (.int p1), .val (.long q2), .second, .val (.int p3), .val (.int aa), .val (.ref b1), .unset] [(.int (2 : Int32)), (.ref b1)])
  refine own_step (fun t k => XS.iloadN X3.here hx rfl (hb hby at_33) rfl k) ?_
  show own_Fin _ _ _ _ _ _ _ _ (mkF m 34 #[.val (.int p1), .val (.long q2), .second, .val (.int p3), .val (.int aa), .val (.ref b1), .unset] [(.int p3), (.int (2 : Int32)), (.ref b1)])
  refine own_step (fun t k => XS.iconst X3.here hx rfl (hb hby at_34) k) ?_
  show own_Fin _ _ _ _ _ _ _ _ (mkF m 35 #[.val (.int p1), .val (.long q2), .second, .val (.int p3), .val (.int aa), .val (.ref b1), .unset] [(.int (2 : Int32)), (.int p3), (.int (2 : Int32)), (.ref b1)])
  refine own_step (fun t k => XS.iadd X3.here hx rfl (hb hby at_35) rfl k) ?_
  show own_Fin _ _ _ _ _ _ _ _ (mkF m 36 #[.val (.int p1), .val (.long q2), .second, .val (.int p3), .val (.int aa), .val (.ref b1), .unset] [(.int (p3 + (2 : Int32))), (.int (2 : Int32)), (.ref b1)])
  refine own_step (fun t k => XS.i2b X3.here hx rfl (hb hby at_36) rfl k) ?_
  show own_Fin _ _ _ _ _ _ _ _ (mkF m 37 #[.val (.int p1), .val (.long q2), .second, .val (.int p3), .val (.int aa), .val (.ref b1), .unset] [(.int ((p3 + (2 : Int32)).toInt8.toInt32)), (.int (2 : Int32)), (.ref b1)])
  obtain ⟨T4, h4, X4, e4, W4, B4, st4⟩ := own_bastore X3 hx hZ e3 V_b1 (j := (2 : Int32)) (k := 2) rfl (by decide) (own_nar8 _) (x := ((p3 + (2 : Int32)).toInt8.toInt32)) (pc := 37) (Ls := #[.val (.int p1), .val (.long q2), .second, .val (.int p3), .val (.int aa), .val (.ref b1), .unset]) (rest := []) (hb hby at_37) rfl
  refine own_step st4 ?_
  replace Zs : n0 ≤ h4.size := by rw [W4.size]; exact Zs
  replace V_b1 := B4
  replace Nf := Fr.snoc X4 Nf g_b1
  show own_Fin _ _ _ _ _ _ _ _ (mkF m 38 #[.val (.int p1), .val (.long q2), .second, .val (.int p3), .val (.int aa), .val (.ref b1), .unset] [])
  refine own_step (fun t k => XS.aload X4.here hx rfl (hb hby at_38) rfl rfl k) ?_
  show own_Fin _ _ _ _ _ _ _ _ (mkF m 40 #[.val (.int p1), .val (.long q2), .second, .val (.int p3), .val (.int aa), .val (.ref b1), .unset] [(.ref b1)])
  refine own_step (fun t k => XS.iconst X4.here hx rfl (hb hby at_40) k) ?_
  show own_Fin _ _ _ _ _ _ _ _ (mkF m 41 #[.val (.int p1), .val (.long q2), .second, .val (.int p3), .val (.int aa), .val (.ref b1), .unset] [(.int (3 : Int32)), (.ref b1)])
  refine own_step (fun t k => XS.iloadN X4.here hx rfl (hb hby at_41) rfl k) ?_
  show own_Fin _ _ _ _ _ _ _ _ (mkF m 42 #[.val (.int p1), .val (.long q2), .second, .val (.int p3), .val (.int aa), .val (.ref b1), .unset] [(.int p3), (.int (3 : Int32)), (.ref b1)])
  refine own_step (fun t k => XS.iconst X4.here hx rfl (hb hby at_42) k) ?_
  show own_Fin _ _ _ _ _ _ _ _ (mkF m 43 #[.val (.int p1), .val (.long q2), .second, .val (.int p3), .val (.int aa), .val (.ref b1), .unset] [(.int (3 : Int32)), (.int p3), (.int (3 : Int32)), (.ref b1)])
  refine own_step (fun t k => XS.iadd X4.here hx rfl (hb hby at_43) rfl k) ?_
  show own_Fin _ _ _ _ _ _ _ _ (mkF m 44 #[.val (.int p1), .val (.long q2), .second, .val (.int p3), .val (.int aa), .val (.ref b1), .unset] [(.int (p3 + (3 : Int32))), (.int (3 : Int32)), (.ref b1)])
  refine own_step (fun t k => XS.i2b X4.here hx rfl (hb hby at_44) rfl k) ?_
  show own_Fin _ _ _ _ _ _ _ _ (mkF m 45 #[.val (.int p1), .val (.long q2), .second, .val (.int p3), .val (.int aa), .val (.ref b1), .unset] [(.int ((p3 + (3 : Int32)).toInt8.toInt32)), (.int (3 : Int32)), (.ref b1)])
  obtain ⟨T5, h5, X5, e5, W5, B5, st5⟩ := own_bastore X4 hx hZ e4 V_b1 (j := (3 : Int32)) (k := 3) rfl (by decide) (own_nar8 _) (x := ((p3 + (3 : Int32)).toInt8.toInt32)) (pc := 45) (Ls := #[.val (.int p1), .val (.long q2), .second, .val (.int p3), .val (.int aa), .val (.ref b1), .unset]) (rest := []) (hb hby at_45) rfl
  refine own_step st5 ?_
  replace Zs : n0 ≤ h5.size := by rw [W5.size]; exact Zs
  replace V_b1 := B5
  replace Nf := Fr.snoc X5 Nf g_b1
  show own_Fin _ _ _ _ _ _ _ _ (mkF m 46 #[.val (.int p1), .val (.long q2), .second, .val (.int p3), .val (.int aa), .val (.ref b1), .unset] [])
  refine own_step (fun t k => XS.aload X5.here hx rfl (hb hby at_46) rfl rfl k) ?_
  show own_Fin _ _ _ _ _ _ _ _ (mkF m 48 #[.val (.int p1), .val (.long q2), .second, .val (.int p3), .val (.int aa), .val (.ref b1), .unset] [(.ref b1)])
  refine own_step (fun t k => XS.iconst X5.here hx rfl (hb hby at_48) k) ?_
  show own_Fin _ _ _ _ _ _ _ _ (mkF m 49 #[.val (.int p1), .val (.long q2), .second, .val (.int p3), .val (.int aa), .val (.ref b1), .unset] [(.int (4 : Int32)), (.ref b1)])
  refine own_step (fun t k => XS.iloadN X5.here hx rfl (hb hby at_49) rfl k) ?_
  show own_Fin _ _ _ _ _ _ _ _ (mkF m 50 #[.val (.int p1), .val (.long q2), .second, .val (.int p3), .val (.int aa), .val (.ref b1), .unset] [(.int p3), (.int (4 : Int32)), (.ref b1)])
  refine own_step (fun t k => XS.iconst X5.here hx rfl (hb hby at_50) k) ?_
  show own_Fin _ _ _ _ _ _ _ _ (mkF m 51 #[.val (.int p1), .val (.long q2), .second, .val (.int p3), .val (.int aa), .val (.ref b1), .unset] [(.int (4 : Int32)), (.int p3), (.int (4 : Int32)), (.ref b1)])
  refine own_step (fun t k => XS.iadd X5.here hx rfl (hb hby at_51) rfl k) ?_
  show own_Fin _ _ _ _ _ _ _ _ (mkF m 52 #[.val (.int p1), .val (.long q2), .second, .val (.int p3), .val (.int aa), .val (.ref b1), .unset] [(.int (p3 + (4 : Int32))), (.int (4 : Int32)), (.ref b1)])
  refine own_step (fun t k => XS.i2b X5.here hx rfl (hb hby at_52) rfl k) ?_
  show own_Fin _ _ _ _ _ _ _ _ (mkF m 53 #[.val (.int p1), .val (.long q2), .second, .val (.int p3), .val (.int aa), .val (.ref b1), .unset] [(.int ((p3 + (4 : Int32)).toInt8.toInt32)), (.int (4 : Int32)), (.ref b1)])
  obtain ⟨T6, h6, X6, e6, W6, B6, st6⟩ := own_bastore X5 hx hZ e5 V_b1 (j := (4 : Int32)) (k := 4) rfl (by decide) (own_nar8 _) (x := ((p3 + (4 : Int32)).toInt8.toInt32)) (pc := 53) (Ls := #[.val (.int p1), .val (.long q2), .second, .val (.int p3), .val (.int aa), .val (.ref b1), .unset]) (rest := []) (hb hby at_53) rfl
  refine own_step st6 ?_
  replace Zs : n0 ≤ h6.size := by rw [W6.size]; exact Zs
  replace V_b1 := B6
  replace Nf := Fr.snoc X6 Nf g_b1
  show own_Fin _ _ _ _ _ _ _ _ (mkF m 54 #[.val (.int p1), .val (.long q2), .second, .val (.int p3), .val (.int aa), .val (.ref b1), .unset] [])
  refine own_step (fun t k => XS.aload X6.here hx rfl (hb hby at_54) rfl rfl k) ?_
  show own_Fin _ _ _ _ _ _ _ _ (mkF m 56 #[.val (.int p1), .val (.long q2), .second, .val (.int p3), .val (.int aa), .val (.ref b1), .unset] [(.ref b1)])
  refine own_step (fun t k => XS.iconst X6.here hx rfl (hb hby at_56) k) ?_
  show own_Fin _ _ _ _ _ _ _ _ (mkF m 57 #[.val (.int p1), .val (.long q2), .second, .val (.int p3), .val (.int aa), .val (.ref b1), .unset] [(.int (5 : Int32)), (.ref b1)])
  refine own_step (fun t k => XS.iloadN X6.here hx rfl (hb hby at_57) rfl k) ?_
  show own_Fin _ _ _ _ _ _ _ _ (mkF m 58 #[.val (.int p1), .val (.long q2), .second, .val (.int p3), .val (.int aa), .val (.ref b1), .unset] [(.int p3), (.int (5 : Int32)), (.ref b1)])
  refine own_step (fun t k => XS.iconst X6.here hx rfl (hb hby at_58) k) ?_
  show own_Fin _ _ _ _ _ _ _ _ (mkF m 59 #[.val (.int p1), .val (.long q2), .second, .val (.int p3), .val (.int aa), .val (.ref b1), .unset] [(.int (5 : Int32)), (.int p3), (.int (5 : Int32)), (.ref b1)])
  refine own_step (fun t k => XS.iadd X6.here hx rfl (hb hby at_59) rfl k) ?_
  show own_Fin _ _ _ _ _ _ _ _ (mkF m 60 #[.val (.int p1), .val (.long q2), .second, .val (.int p3), .val (.int aa), .val (.ref b1), .unset] [(.int (p3 + (5 : Int32))), (.int (5 : Int32)), (.ref b1)])
  refine own_step (fun t k => XS.i2b X6.here hx rfl (hb hby at_60) rfl k) ?_
  show own_Fin _ _ _ _ _ _ _ _ (mkF m 61 #[.val (.int p1), .val (.long q2), .second, .val (.int p3), .val (.int aa), .val (.ref b1), .unset] [(.int ((p3 + (5 : Int32)).toInt8.toInt32)), (.int (5 : Int32)), (.ref b1)])
  obtain ⟨T7, h7, X7, e7, W7, B7, st7⟩ := own_bastore X6 hx hZ e6 V_b1 (j := (5 : Int32)) (k := 5) rfl (by decide) (own_nar8 _) (x := ((p3 + (5 : Int32)).toInt8.toInt32)) (pc := 61) (Ls := #[.val (.int p1), .val (.long q2), .second, .val (.int p3), .val (.int aa), .val (.ref b1), .unset]) (rest := []) (hb hby at_61) rfl
  refine own_step st7 ?_
  replace Zs : n0 ≤ h7.size := by rw [W7.size]; exact Zs
  replace V_b1 := B7
  replace Nf := Fr.snoc X7 Nf g_b1
  show own_Fin _ _ _ _ _ _ _ _ (mkF m 62 #[.val (.int p1), .val (.long q2), .second, .val (.int p3), .val (.int aa), .val (.ref b1), .unset] [])
  refine own_step (fun t k => XS.aload X7.here hx rfl (hb hby at_62) rfl rfl k) ?_
  show own_Fin _ _ _ _ _ _ _ _ (mkF m 64 #[.val (.int p1), .val (.long q2), .second, .val (.int p3), .val (.int aa), .val (.ref b1), .unset] [(.ref b1)])
  refine own_step (fun t k => XS.bipush X7.here hx rfl (hb hby at_64) k) ?_
  show own_Fin _ _ _ _ _ _ _ _ (mkF m 66 #[.val (.int p1), .val (.long q2), .second, .val (.int p3), .val (.int aa), .val (.ref b1), .unset] [(.int (6 : Int32)), (.ref b1)])
  refine own_step (fun t k => XS.iloadN X7.here hx rfl (hb hby at_66) rfl k) ?_
  show own_Fin _ _ _ _ _ _ _ _ (mkF m 67 #[.val (.int p1), .val (.long q2), .second, .val (.int p3), .val (.int aa), .val (.ref b1), .unset] [(.int p3), (.int (6 : Int32)), (.ref b1)])
  refine own_step (fun t k => XS.bipush X7.here hx rfl (hb hby at_67) k) ?_
  show own_Fin _ _ _ _ _ _ _ _ (mkF m 69 #[.val (.int p1), .val (.long q2), .second, .val (.int p3), .val (.int aa), .val (.ref b1), .unset] [(.int (6 : Int32)), (.int p3), (.int (6 : Int32)), (.ref b1)])
  refine own_step (fun t k => XS.iadd X7.here hx rfl (hb hby at_69) rfl k) ?_
  show own_Fin _ _ _ _ _ _ _ _ (mkF m 70 #[.val (.int p1), .val (.long q2), .second, .val (.int p3), .val (.int aa), .val (.ref b1), .unset] [(.int (p3 + (6 : Int32))), (.int (6 : Int32)), (.ref b1)])
  refine own_step (fun t k => XS.i2b X7.here hx rfl (hb hby at_70) rfl k) ?_
  show own_Fin _ _ _ _ _ _ _ _ (mkF m 71 #[.val (.int p1), .val (.long q2), .second, .val (.int p3), .val (.int aa), .val (.ref b1), .unset] [(.int ((p3 + (6 : Int32)).toInt8.toInt32)), (.int (6 : Int32)), (.ref b1)])
  obtain ⟨T8, h8, X8, e8, W8, B8, st8⟩ := own_bastore X7 hx hZ e7 V_b1 (j := (6 : Int32)) (k := 6) rfl (by decide) (own_nar8 _) (x := ((p3 + (6 : Int32)).toInt8.toInt32)) (pc := 71) (Ls := #[.val (.int p1), .val (.long q2), .second, .val (.int p3), .val (.int aa), .val (.ref b1), .unset]) (rest := []) (hb hby at_71) rfl
  refine own_step st8 ?_
  replace Zs : n0 ≤ h8.size := by rw [W8.size]; exact Zs
  replace V_b1 := B8
  replace Nf := Fr.snoc X8 Nf g_b1
  show own_Fin _ _ _ _ _ _ _ _ (mkF m 72 #[.val (.int p1), .val (.long q2), .second, .val (.int p3), .val (.int aa), .val (.ref b1), .unset] [])
  refine own_step (fun t k => XS.aload X8.here hx rfl (hb hby at_72) rfl rfl k) ?_
  show own_Fin _ _ _ _ _ _ _ _ (mkF m 74 #[.val (.int p1), .val (.long q2), .second, .val (.int p3), .val (.int aa), .val (.ref b1), .unset] [(.ref b1)])
  refine own_step (fun t k => XS.bipush X8.here hx rfl (hb hby at_74) k) ?_
  show own_Fin _ _ _ _ _ _ _ _ (mkF m 76 #[.val (.int p1), .val (.long q2), .second, .val (.int p3), .val (.int aa), .val (.ref b1), .unset] [(.int (7 : Int32)), (.ref b1)])
  refine own_step (fun t k => XS.iloadN X8.here hx rfl (hb hby at_76) rfl k) ?_
  show own_Fin _ _ _ _ _ _ _ _ (mkF m 77 #[.val (.int p1), .val (.long q2), .second, .val (.int p3), .val (.int aa), .val (.ref b1), .unset] [(.int p3), (.int (7 : Int32)), (.ref b1)])
  refine own_step (fun t k => XS.bipush X8.here hx rfl (hb hby at_77) k) ?_
  show own_Fin _ _ _ _ _ _ _ _ (mkF m 79 #[.val (.int p1), .val (.long q2), .second, .val (.int p3), .val (.int aa), .val (.ref b1), .unset] [(.int (7 : Int32)), (.int p3), (.int (7 : Int32)), (.ref b1)])
  refine own_step (fun t k => XS.iadd X8.here hx rfl (hb hby at_79) rfl k) ?_
  show own_Fin _ _ _ _ _ _ _ _ (mkF m 80 #[.val (.int p1), .val (.long q2), .second, .val (.int p3), .val (.int aa), .val (.ref b1), .unset] [(.int (p3 + (7 : Int32))), (.int (7 : Int32)), (.ref b1)])
  refine own_step (fun t k => XS.i2b X8.here hx rfl (hb hby at_80) rfl k) ?_
  show own_Fin _ _ _ _ _ _ _ _ (mkF m 81 #[.val (.int p1), .val (.long q2), .second, .val (.int p3), .val (.int aa), .val (.ref b1), .unset] [(.int ((p3 + (7 : Int32)).toInt8.toInt32)), (.int (7 : Int32)), (.ref b1)])
  obtain ⟨T9, h9, X9, e9, W9, B9, st9⟩ := own_bastore X8 hx hZ e8 V_b1 (j := (7 : Int32)) (k := 7) rfl (by decide) (own_nar8 _) (x := ((p3 + (7 : Int32)).toInt8.toInt32)) (pc := 81) (Ls := #[.val (.int p1), .val (.long q2), .second, .val (.int p3), .val (.int aa), .val (.ref b1), .unset]) (rest := []) (hb hby at_81) rfl
  refine own_step st9 ?_
  replace Zs : n0 ≤ h9.size := by rw [W9.size]; exact Zs
  replace V_b1 := B9
  replace Nf := Fr.snoc X9 Nf g_b1
  show own_Fin _ _ _ _ _ _ _ _ (mkF m 82 #[.val (.int p1), .val (.long q2), .second, .val (.int p3), .val (.int aa), .val (.ref b1), .unset] [])
  refine own_step (fun t k => XS.aload X9.here hx rfl (hb hby at_82) rfl rfl k) ?_
  show own_Fin _ _ _ _ _ _ _ _ (mkF m 84 #[.val (.int p1), .val (.long q2), .second, .val (.int p3), .val (.int aa), .val (.ref b1), .unset] [(.ref b1)])
  refine own_step (fun t k => XS.bipush X9.here hx rfl (hb hby at_84) k) ?_
  show own_Fin _ _ _ _ _ _ _ _ (mkF m 86 #[.val (.int p1), .val (.long q2), .second, .val (.int p3), .val (.int aa), .val (.ref b1), .unset] [(.int (8 : Int32)), (.ref b1)])
  refine own_step (fun t k => XS.iloadN X9.here hx rfl (hb hby at_86) rfl k) ?_
  show own_Fin _ _ _ _ _ _ _ _ (mkF m 87 #[.val (.int p1), .val (.long q2), .second, .val (.int p3), .val (.int aa), .val (.ref b1), .unset] [(.int p3), (.int (8 : Int32)), (.ref b1)])
  refine own_step (fun t k => XS.bipush X9.here hx rfl (hb hby at_87) k) ?_
  show own_Fin _ _ _ _ _ _ _ _ (mkF m 89 #[.val (.int p1), .val (.long q2), .second, .val (.int p3), .val (.int aa), .val (.ref b1), .unset] [(.int (8 : Int32)), (.int p3), (.int (8 : Int32)), (.ref b1)])
  refine own_step (fun t k => XS.iadd X9.here hx rfl (hb hby at_89) rfl k) ?_
  show own_Fin _ _ _ _ _ _ _ _ (mkF m 90 #[.val (.int p1), .val (.long q2), .second, .val (.int p3), .val (.int aa), .val (.ref b1), .unset] [(.int (p3 + (8 : Int32))), (.int (8 : Int32)), (.ref b1)])
  refine own_step (fun t k => XS.i2b X9.here hx rfl (hb hby at_90) rfl k) ?_
  show own_Fin _ _ _ _ _ _ _ _ (mkF m 91 #[.val (.int p1), .val (.long q2), .second, .val (.int p3), .val (.int aa), .val (.ref b1), .unset] [(.int ((p3 + (8 : Int32)).toInt8.toInt32)), (.int (8 : Int32)), (.ref b1)])
  obtain ⟨T10, h10, X10, e10, W10, B10, st10⟩ := own_bastore X9 hx hZ e9 V_b1 (j := (8 : Int32)) (k := 8) rfl (by decide) (own_nar8 _) (x := ((p3 + (8 : Int32)).toInt8.toInt32)) (pc := 91) (Ls := #[.val (.int p1), .val (.long q2), .second, .val (.int p3), .val (.int aa), .val (.ref b1), .unset]) (rest := []) (hb hby at_91) rfl
  refine own_step st10 ?_
  replace Zs : n0 ≤ h10.size := by rw [W10.size]; exact Zs
  replace V_b1 := B10
  replace Nf := Fr.snoc X10 Nf g_b1
  show own_Fin _ _ _ _ _ _ _ _ (mkF m 92 #[.val (.int p1), .val (.long q2), .second, .val (.int p3), .val (.int aa), .val (.ref b1), .unset] [])
  refine own_step (fun t k => XS.aload X10.here hx rfl (hb hby at_92) rfl rfl k) ?_
  show own_Fin _ _ _ _ _ _ _ _ (mkF m 94 #[.val (.int p1), .val (.long q2), .second, .val (.int p3), .val (.int aa), .val (.ref b1), .unset] [(.ref b1)])
  refine own_step (fun t k => XS.bipush X10.here hx rfl (hb hby at_94) k) ?_
  show own_Fin _ _ _ _ _ _ _ _ (mkF m 96 #[.val (.int p1), .val (.long q2), .second, .val (.int p3), .val (.int aa), .val (.ref b1), .unset] [(.int (9 : Int32)), (.ref b1)])
  refine own_step (fun t k => XS.iloadN X10.here hx rfl (hb hby at_96) rfl k) ?_
  show own_Fin _ _ _ _ _ _ _ _ (mkF m 97 #[.val (.int p1), .val (.long q2), .second, .val (.int p3), .val (.int aa), .val (.ref b1), .unset] [(.int p3), (.int (9 : Int32)), (.ref b1)])
  refine own_step (fun t k => XS.bipush X10.here hx rfl (hb hby at_97) k) ?_
  show own_Fin _ _ _ _ _ _ _ _ (mkF m 99 #[.val (.int p1), .val (.long q2), .second, .val (.int p3), .val (.int aa), .val (.ref b1), .unset] [(.int (9 : Int32)), (.int p3), (.int (9 : Int32)), (.ref b1)])
  refine own_step (fun t k => XS.iadd X10.here hx rfl (hb hby at_99) rfl k) ?_
  show own_Fin _ _ _ _ _ _ _ _ (mkF m 100 #[.val (.int p1), .val (.long q2), .second, .val (.int p3), .val (.int aa), .val (.ref b1), .unset] [(.int (p3 + (9 : Int32))), (.int (9 : Int32)), (.ref b1)])
  refine own_step (fun t k => XS.i2b X10.here hx rfl (hb hby at_100) rfl k) ?_
  show own_Fin _ _ _ _ _ _ _ _ (mkF m 101 #[.val (.int p1), .val (.long q2), .second, .val (.int p3), .val (.int aa), .val (.ref b1), .unset] [(.int ((p3 + (9 : Int32)).toInt8.toInt32)), (.int (9 : Int32)), (.ref b1)])
  obtain ⟨T11, h11, X11, e11, W11, B11, st11⟩ := own_bastore X10 hx hZ e10 V_b1 (j := (9 : Int32)) (k := 9) rfl (by decide) (own_nar8 _) (x := ((p3 + (9 : Int32)).toInt8.toInt32)) (pc := 101) (Ls := #[.val (.int p1), .val (.long q2), .second, .val (.int p3), .val (.int aa), .val (.ref b1), .unset]) (rest := []) (hb hby at_101) rfl
  refine own_step st11 ?_
  replace Zs : n0 ≤ h11.size := by rw [W11.size]; exact Zs
  replace V_b1 := B11
  replace Nf := Fr.snoc X11 Nf g_b1
  show own_Fin _ _ _ _ _ _ _ _ (mkF m 102 #[.val (.int p1), .val (.long q2), .second, .val (.int p3), .val (.int aa), .val (.ref b1), .unset] [])
  refine own_step (fun t k => XS.aload X11.here hx rfl (hb hby at_102) rfl rfl k) ?_
  show own_Fin _ _ _ _ _ _ _ _ (mkF m 104 #[.val (.int p1), .val (.long q2), .second, .val (.int p3), .val (.int aa), .val (.ref b1), .unset] [(.ref b1)])
  refine own_step (fun t k => XS.bipush X11.here hx rfl (hb hby at_104) k) ?_
  show own_Fin _ _ _ _ _ _ _ _ (mkF m 106 #[.val (.int p1), .val (.long q2), .second, .val (.int p3), .val (.int aa), .val (.ref b1), .unset] [(.int (10 : Int32)), (.ref b1)])
  refine own_step (fun t k => XS.iloadN X11.here hx rfl (hb hby at_106) rfl k) ?_
  show own_Fin _ _ _ _ _ _ _ _ (mkF m 107 #[.val (.int p1), .val (.long q2), .second, .val (.int p3), .val (.int aa), .val (.ref b1), .unset] [(.int p3), (.int (10 : Int32)), (.ref b1)])
  refine own_step (fun t k => XS.bipush X11.here hx rfl (hb hby at_107) k) ?_
  show own_Fin _ _ _ _ _ _ _ _ (mkF m 109 #[.val (.int p1), .val (.long q2), .second, .val (.int p3), .val (.int aa), .val (.ref b1), .unset] [(.int (10 : Int32)), (.int p3), (.int (10 : Int32)), (.ref b1)])
  refine own_step (fun t k => XS.iadd X11.here hx rfl (hb hby at_109) rfl k) ?_
  show own_Fin _ _ _ _ _ _ _ _ (mkF m 110 #[.val (.int p1), .val (.long q2), .second, .val (.int p3), .val (.int aa), .val (.ref b1), .unset] [(.int (p3 + (10 : Int32))), (.int (10 : Int32)), (.ref b1)])
  refine own_step (fun t k => XS.i2b X11.here hx rfl (hb hby at_110) rfl k) ?_
  show own_Fin _ _ _ _ _ _ _ _ (mkF m 111 #[.val (.int p1), .val (.long q2), .second, .val (.int p3), .val (.int aa), .val (.ref b1), .unset] [(.int ((p3 + (10 : Int32)).toInt8.toInt32)), (.int (10 : Int32)), (.ref b1)])
  obtain ⟨T12, h12, X12, e12, W12, B12, st12⟩ := own_bastore X11 hx hZ e11 V_b1 (j := (10 : Int32)) (k := 10) rfl (by decide) (own_nar8 _) (x := ((p3 + (10 : Int32)).toInt8.toInt32)) (pc := 111) (Ls := #[.val (.int p1), .val (.long q2), .second, .val (.int p3), .val (.int aa), .val (.ref b1), .unset]) (rest := []) (hb hby at_111) rfl
  refine own_step st12 ?_
  replace Zs : n0 ≤ h12.size := by rw [W12.size]; exact Zs
  replace V_b1 := B12
  replace Nf := Fr.snoc X12 Nf g_b1
  show own_Fin _ _ _ _ _ _ _ _ (mkF m 112 #[.val (.int p1), .val (.long q2), .second, .val (.int p3), .val (.int aa), .val (.ref b1), .unset] [])
  refine own_step (fun t k => XS.aload X12.here hx rfl (hb hby at_112) rfl rfl k) ?_
  show own_Fin _ _ _ _ _ _ _ _ (mkF m 114 #[.val (.int p1), .val (.long q2), .second, .val (.int p3), .val (.int aa), .val (.ref b1), .unset] [(.ref b1)])
  refine own_step (fun t k => XS.bipush X12.here hx rfl (hb hby at_114) k) ?_
  show own_Fin _ _ _ _ _ _ _ _ (mkF m 116 #[.val (.int p1), .val (.long q2), .second, .val (.int p3), .val (.int aa), .val (.ref b1), .unset] [(.int (11 : Int32)), (.ref b1)])
  refine own_step (fun t k => XS.iloadN X12.here hx rfl (hb hby at_116) rfl k) ?_
  show own_Fin _ _ _ _ _ _ _ _ (mkF m 117 #[.val (.int p1), .val (.long q2), .second, .val (.int p3), .val (.int aa), .val (.ref b1), .unset] [(.int p3), (.int (11 : Int32)), (.ref b1)])
  refine own_step (fun t k => XS.bipush X12.here hx rfl (hb hby at_117) k) ?_
  show own_Fin _ _ _ _ _ _ _ _ (mkF m 119 #[.val (.int p1), .val (.long q2), .second, .val (.int p3), .val (.int aa), .val (.ref b1), .unset] [(.int (11 : Int32)), (.int p3), (.int (11 : Int32)), (.ref b1)])
  refine own_step (fun t k => XS.iadd X12.here hx rfl (hb hby at_119) rfl k) ?_
  show own_Fin _ _ _ _ _ _ _ _ (mkF m 120 #[.val (.int p1), .val (.long q2), .second, .val (.int p3), .val (.int aa), .val (.ref b1), .unset] [(.int (p3 + (11 : Int32))), (.int (11 : Int32)), (.ref b1)])
  refine own_step (fun t k => XS.i2b X12.here hx rfl (hb hby at_120) rfl k) ?_
  show own_Fin _ _ _ _ _ _ _ _ (mkF m 121 #[.val (.int p1), .val (.long q2), .second, .val (.int p3), .val (.int aa), .val (.ref b1), .unset] [(.int ((p3 + (11 : Int32)).toInt8.toInt32)), (.int (11 : Int32)), (.ref b1)])
  obtain ⟨T13, h13, X13, e13, W13, B13, st13⟩ := own_bastore X12 hx hZ e12 V_b1 (j := (11 : Int32)) (k := 11) rfl (by decide) (own_nar8 _) (x := ((p3 + (11 : Int32)).toInt8.toInt32)) (pc := 121) (Ls := #[.val (.int p1), .val (.long q2), .second, .val (.int p3), .val (.int aa), .val (.ref b1), .unset]) (rest := []) (hb hby at_121) rfl
  refine own_step st13 ?_
  replace Zs : n0 ≤ h13.size := by rw [W13.size]; exact Zs
  replace V_b1 := B13
  replace Nf := Fr.snoc X13 Nf g_b1
  show own_Fin _ _ _ _ _ _ _ _ (mkF m 122 #[.val (.int p1), .val (.long q2), .second, .val (.int p3), .val (.int aa), .val (.ref b1), .unset] [])
  obtain ⟨gE, V_b1, hgE_0, hgE_1, hgE_2, hgE_3, hgE_4, hgE_5, hgE_6, hgE_7, hgE_8, hgE_9, hgE_10, hgE_11⟩ : ∃ f, own_AI Z h13 b1 .byte 12 f ∧ f 0 = ((p3 + (0 : Int32)).toInt8.toInt32) ∧ f 1 = ((p3 + (1 : Int32)).toInt8.toInt32) ∧ f 2 = ((p3 + (2 : Int32)).toInt8.toInt32) ∧ f 3 = ((p3 + (3 : Int32)).toInt8.toInt32) ∧ f 4 = ((p3 + (4 : Int32)).toInt8.toInt32) ∧ f 5 = ((p3 + (5 : Int32)).toInt8.toInt32) ∧ f 6 = ((p3 + (6 : Int32)).toInt8.toInt32) ∧ f 7 = ((p3 + (7 : Int32)).toInt8.toInt32) ∧ f 8 = ((p3 + (8 : Int32)).toInt8.toInt32) ∧ f 9 = ((p3 + (9 : Int32)).toInt8.toInt32) ∧ f 10 = ((p3 + (10 : Int32)).toInt8.toInt32) ∧ f 11 = ((p3 + (11 : Int32)).toInt8.toInt32) := ⟨_, V_b1, rfl, rfl, rfl, rfl, rfl, rfl, rfl, rfl, rfl, rfl, rfl, rfl⟩
  refine own_step (fun t k => XS.aload X13.here hx rfl (hb hby at_122) rfl rfl k) ?_
  show own_Fin _ _ _ _ _ _ _ _ (mkF m 124 #[.val (.int p1), .val (.long q2), .second, .val (.int p3), .val (.int aa), .val (.ref b1), .unset] [(.ref b1)])
  refine own_step (fun t k => XS.iload X13.here hx rfl (hb hby at_124) rfl k) ?_
  show own_Fin _ _ _ _ _ _ _ _ (mkF m 126 #[.val (.int p1), .val (.long q2), .second, .val (.int p3), .val (.int aa), .val (.ref b1), .unset] [(.int aa), (.ref b1)])
  refine own_step (fun t k => XS.lloadN X13.here hx rfl (hb hby at_126) rfl k) ?_
  show own_Fin _ _ _ _ _ _ _ _ (mkF m 127 #[.val (.int p1), .val (.long q2), .second, .val (.int p3), .val (.int aa), .val (.ref b1), .unset] [(.long q2), (.int aa), (.ref b1)])
  obtain ⟨_, _, ⟨T14, L14, k14, n14⟩, -, X14, ⟨Lc14, hQ14, l14, y14, z14⟩, st14⟩ := Jvm.LawKit.callS X13 hx (y := (⟨"com/example/pcr10/pcr10/ScratchBytes", "putLong", "([BIJ)V"⟩ : MethodName)) hown (mvT hZ (hw _ (List.mem_of_getElem? (i := 2) rfl))) (mvT hZ (hw _ (List.mem_of_getElem? (i := 3) rfl))) (mvT hZ (hw _ (List.mem_of_getElem? (i := 4) rfl))) (mvT hZ (hw _ (List.mem_of_getElem? (i := 5) rfl))) (by decide) (backOf (W := 0) (rm2 l Z a0 hw [] b1 aa q2 _ h13 n0 Zs V_b1 g_b1 (by omega)) hZ (hw _ (List.mem_of_getElem? (i := 5) rfl)) (hw _ (List.mem_of_getElem? (i := 4) rfl)) (by decide) (by decide)) (g := (mkF m 127 #[.val (.int p1), .val (.long q2), .second, .val (.int p3), .val (.int aa), .val (.ref b1), .unset] [(.long q2), (.int aa), (.ref b1)])) rfl (by rw [hml]; rfl) (argsL := [(.ref b1), (.int aa), (.long q2)]) (rest := []) (lenOf own_pd_0 rfl) rfl (by show 2 * 0 + _ ≤ _; exact Nat.le_of_eq rfl) (hb hby at_127) (fun _ _ => ⟨rfl, e13, (by decide : 1 + 0 ≤ _), (by decide : 12 + 0 ≤ _)⟩)
  dsimp only [Pt.U, Pt.locs, Pt.cells, Pt.slots] at X14 l14 y14 z14 st14 hQ14
  rw [l14, y14, z14] at X14
  obtain ⟨rfl, Nq14, Kq14, P14_0⟩ := hQ14
  replace Nf := Fr.app Nf Nq14
  replace V_b1 := P14_0
  replace Zs := Nat.le_trans Zs Kq14.1
  refine own_step st14 ?_
  show own_Fin _ _ _ _ _ _ _ _ (mkF m 130 #[.val (.int p1), .val (.long q2), .second, .val (.int p3), .val (.int aa), .val (.ref b1), .unset] [])
  refine own_step (fun t k => XS.aload X14.here hx rfl (hb hby at_130) rfl rfl k) ?_
  show own_Fin _ _ _ _ _ _ _ _ (mkF m 132 #[.val (.int p1), .val (.long q2), .second, .val (.int p3), .val (.int aa), .val (.ref b1), .unset] [(.ref b1)])
  refine own_step (fun t k => XS.iload X14.here hx rfl (hb hby at_132) rfl k) ?_
  show own_Fin _ _ _ _ _ _ _ _ (mkF m 134 #[.val (.int p1), .val (.long q2), .second, .val (.int p3), .val (.int aa), .val (.ref b1), .unset] [(.int aa), (.ref b1)])
  obtain ⟨_, _, ⟨T15, L15, k15, n15⟩, -, X15, ⟨Lc15, hQ15, l15, y15, z15⟩, st15⟩ := Jvm.LawKit.callS X14 hx (y := (⟨"com/example/pcr10/pcr10/ScratchBytes", "longAt", "([BI)J"⟩ : MethodName)) hown (mvT hZ (hw _ (List.mem_of_getElem? (i := 6) rfl))) (mvT hZ (hw _ (List.mem_of_getElem? (i := 7) rfl))) (mvT hZ (hw _ (List.mem_of_getElem? (i := 4) rfl))) (mvT hZ (hw _ (List.mem_of_getElem? (i := 8) rfl))) (by decide) (backOf (W := 0) (rm1 l Z a0 hw [] b1 aa _ T14.heap n0 Zs V_b1 (by omega)) hZ (hw _ (List.mem_of_getElem? (i := 8) rfl)) (hw _ (List.mem_of_getElem? (i := 4) rfl)) (by decide) (by decide)) (g := (mkF m 134 #[.val (.int p1), .val (.long q2), .second, .val (.int p3), .val (.int aa), .val (.ref b1), .unset] [(.int aa), (.ref b1)])) rfl (by rw [hml]; rfl) (argsL := [(.ref b1), (.int aa)]) (rest := []) (lenOf own_pd_1 rfl) rfl (by show 2 * 0 + _ ≤ _; exact Nat.le_of_eq rfl) (hb hby at_134) (fun _ _ => ⟨rfl, rfl, (by decide : 1 + 0 ≤ _), (by decide : 12 + 0 ≤ _)⟩)
  dsimp only [Pt.U, Pt.locs, Pt.cells, Pt.slots] at X15 l15 y15 z15 st15 hQ15
  rw [l15, y15, z15] at X15
  obtain ⟨rfl, Nq15, hh15⟩ := hQ15
  replace Nf := Fr.app Nf Nq15
  refine own_step st15 ?_
  show own_Fin _ _ _ _ _ _ _ _ (mkF m 137 #[.val (.int p1), .val (.long q2), .second, .val (.int p3), .val (.int aa), .val (.ref b1), .unset] [(.long (own_la ((own_pl aa.toInt.toNat q2 gE) (aa.toInt.toNat)) ((own_pl aa.toInt.toNat q2 gE) (aa.toInt.toNat + 1)) ((own_pl aa.toInt.toNat q2 gE) (aa.toInt.toNat + 2)) ((own_pl aa.toInt.toNat q2 gE) (aa.toInt.toNat + 3)) ((own_pl aa.toInt.toNat q2 gE) (aa.toInt.toNat + 4)) ((own_pl aa.toInt.toNat q2 gE) (aa.toInt.toNat + 5)) ((own_pl aa.toInt.toNat q2 gE) (aa.toInt.toNat + 6)) ((own_pl aa.toInt.toNat q2 gE) (aa.toInt.toNat + 7))))])
  refine own_step (fun t k => XS.lloadN X15.here hx rfl (hb hby at_137) rfl k) ?_
  show own_Fin _ _ _ _ _ _ _ _ (mkF m 138 #[.val (.int p1), .val (.long q2), .second, .val (.int p3), .val (.int aa), .val (.ref b1), .unset] [(.long q2), (.long (own_la ((own_pl aa.toInt.toNat q2 gE) (aa.toInt.toNat)) ((own_pl aa.toInt.toNat q2 gE) (aa.toInt.toNat + 1)) ((own_pl aa.toInt.toNat q2 gE) (aa.toInt.toNat + 2)) ((own_pl aa.toInt.toNat q2 gE) (aa.toInt.toNat + 3)) ((own_pl aa.toInt.toNat q2 gE) (aa.toInt.toNat + 4)) ((own_pl aa.toInt.toNat q2 gE) (aa.toInt.toNat + 5)) ((own_pl aa.toInt.toNat q2 gE) (aa.toInt.toNat + 6)) ((own_pl aa.toInt.toNat q2 gE) (aa.toInt.toNat + 7))))])
  refine own_step (fun t k => XS.lcmp X15.here hx rfl (hb hby at_138) rfl k) ?_
  show own_Fin _ _ _ _ _ _ _ _ (mkF m 139 #[.val (.int p1), .val (.long q2), .second, .val (.int p3), .val (.int aa), .val (.ref b1), .unset] [(.int (lcmpW (own_la ((own_pl aa.toInt.toNat q2 gE) (aa.toInt.toNat)) ((own_pl aa.toInt.toNat q2 gE) (aa.toInt.toNat + 1)) ((own_pl aa.toInt.toNat q2 gE) (aa.toInt.toNat + 2)) ((own_pl aa.toInt.toNat q2 gE) (aa.toInt.toNat + 3)) ((own_pl aa.toInt.toNat q2 gE) (aa.toInt.toNat + 4)) ((own_pl aa.toInt.toNat q2 gE) (aa.toInt.toNat + 5)) ((own_pl aa.toInt.toNat q2 gE) (aa.toInt.toNat + 6)) ((own_pl aa.toInt.toNat q2 gE) (aa.toInt.toNat + 7))) q2))])
  have hc16 : ((own_la ((own_pl aa.toInt.toNat q2 gE) (aa.toInt.toNat)) ((own_pl aa.toInt.toNat q2 gE) (aa.toInt.toNat + 1)) ((own_pl aa.toInt.toNat q2 gE) (aa.toInt.toNat + 2)) ((own_pl aa.toInt.toNat q2 gE) (aa.toInt.toNat + 3)) ((own_pl aa.toInt.toNat q2 gE) (aa.toInt.toNat + 4)) ((own_pl aa.toInt.toNat q2 gE) (aa.toInt.toNat + 5)) ((own_pl aa.toInt.toNat q2 gE) (aa.toInt.toNat + 6)) ((own_pl aa.toInt.toNat q2 gE) (aa.toInt.toNat + 7)))).toInt = (q2).toInt := by rw [own_pl0, own_pl1, own_pl2, own_pl3, own_pl4, own_pl5, own_pl6, own_pl7, own_la_v]
  refine own_step (fun t k => XS.ifNo X15.here hx rfl (hb hby at_139) rfl (own_le (x := (own_la ((own_pl aa.toInt.toNat q2 gE) (aa.toInt.toNat)) ((own_pl aa.toInt.toNat q2 gE) (aa.toInt.toNat + 1)) ((own_pl aa.toInt.toNat q2 gE) (aa.toInt.toNat + 2)) ((own_pl aa.toInt.toNat q2 gE) (aa.toInt.toNat + 3)) ((own_pl aa.toInt.toNat q2 gE) (aa.toInt.toNat + 4)) ((own_pl aa.toInt.toNat q2 gE) (aa.toInt.toNat + 5)) ((own_pl aa.toInt.toNat q2 gE) (aa.toInt.toNat + 6)) ((own_pl aa.toInt.toNat q2 gE) (aa.toInt.toNat + 7)))) (y := q2) rfl rfl hc16).2 k) ?_
  show own_Fin _ _ _ _ _ _ _ _ (mkF m 142 #[.val (.int p1), .val (.long q2), .second, .val (.int p3), .val (.int aa), .val (.ref b1), .unset] [])
  refine own_step (fun t k => XS.iconst X15.here hx rfl (hb hby at_142) k) ?_
  show own_Fin _ _ _ _ _ _ _ _ (mkF m 143 #[.val (.int p1), .val (.long q2), .second, .val (.int p3), .val (.int aa), .val (.ref b1), .unset] [(.int (1 : Int32))])
  refine own_step (fun t k => XS.goto X15.here hx rfl (pc0 := 143) (pc' := 147) rfl (hb hby at_143) (by decide) (by decide) k) ?_
  show own_Fin _ _ _ _ _ _ _ _ (mkF m 147 #[.val (.int p1), .val (.long q2), .second, .val (.int p3), .val (.int aa), .val (.ref b1), .unset] [(.int (1 : Int32))])
  refine own_step (fun t k => XS.istore X15.here hx rfl (hb hby at_147) rfl (l' := #[.val (.int p1), .val (.long q2), .second, .val (.int p3), .val (.int aa), .val (.ref b1), .val (.int (1 : Int32))]) rfl k) ?_
  show own_Fin _ _ _ _ _ _ _ _ (mkF m 149 #[.val (.int p1), .val (.long q2), .second, .val (.int p3), .val (.int aa), .val (.ref b1), .val (.int (1 : Int32))] [])
  refine own_step (fun t k => XS.iload X15.here hx rfl (hb hby at_149) rfl k) ?_
  show own_Fin _ _ _ _ _ _ _ _ (mkF m 151 #[.val (.int p1), .val (.long q2), .second, .val (.int p3), .val (.int aa), .val (.ref b1), .val (.int (1 : Int32))] [(.int (1 : Int32))])
  refine own_step (fun t k => XS.ifNo X15.here hx rfl (hb hby at_151) rfl (by decide) k) ?_
  show own_Fin _ _ _ _ _ _ _ _ (mkF m 154 #[.val (.int p1), .val (.long q2), .second, .val (.int p3), .val (.int aa), .val (.ref b1), .val (.int (1 : Int32))] [])
  refine own_step (fun t k => XS.aload X15.here hx rfl (hb hby at_154) rfl rfl k) ?_
  show own_Fin _ _ _ _ _ _ _ _ (mkF m 156 #[.val (.int p1), .val (.long q2), .second, .val (.int p3), .val (.int aa), .val (.ref b1), .val (.int (1 : Int32))] [(.ref b1)])
  refine own_step (fun t k => XS.iload X15.here hx rfl (hb hby at_156) rfl k) ?_
  show own_Fin _ _ _ _ _ _ _ _ (mkF m 158 #[.val (.int p1), .val (.long q2), .second, .val (.int p3), .val (.int aa), .val (.ref b1), .val (.int (1 : Int32))] [(.int aa), (.ref b1)])
  refine own_baload X15 hx hZ hh15 V_b1 (k := aa.toInt.toNat) (by omega) (by omega) (v := ((own_pl aa.toInt.toNat q2 gE) (aa.toInt.toNat))) rfl (hb hby at_158) rfl ?_
  show own_Fin _ _ _ _ _ _ _ _ (mkF m 159 #[.val (.int p1), .val (.long q2), .second, .val (.int p3), .val (.int aa), .val (.ref b1), .val (.int (1 : Int32))] [(.int ((own_pl aa.toInt.toNat q2 gE) (aa.toInt.toNat)))])
  refine own_step (fun t k => XS.lloadN X15.here hx rfl (hb hby at_159) rfl k) ?_
  show own_Fin _ _ _ _ _ _ _ _ (mkF m 160 #[.val (.int p1), .val (.long q2), .second, .val (.int p3), .val (.int aa), .val (.ref b1), .val (.int (1 : Int32))] [(.long q2), (.int ((own_pl aa.toInt.toNat q2 gE) (aa.toInt.toNat)))])
  refine own_step (fun t k => XS.bipush X15.here hx rfl (hb hby at_160) k) ?_
  show own_Fin _ _ _ _ _ _ _ _ (mkF m 162 #[.val (.int p1), .val (.long q2), .second, .val (.int p3), .val (.int aa), .val (.ref b1), .val (.int (1 : Int32))] [(.int (56 : Int32)), (.long q2), (.int ((own_pl aa.toInt.toNat q2 gE) (aa.toInt.toNat)))])
  refine own_step (fun t k => XS.lushr X15.here hx rfl (hb hby at_162) rfl k) ?_
  show own_Fin _ _ _ _ _ _ _ _ (mkF m 163 #[.val (.int p1), .val (.long q2), .second, .val (.int p3), .val (.int aa), .val (.ref b1), .val (.int (1 : Int32))] [(.long ((q2.toUInt64 >>> ((56 : Int32) &&& 0x3f).toInt64.toUInt64).toInt64)), (.int ((own_pl aa.toInt.toNat q2 gE) (aa.toInt.toNat)))])
  refine own_step (fun t k => XS.l2i X15.here hx rfl (hb hby at_163) rfl k) ?_
  show own_Fin _ _ _ _ _ _ _ _ (mkF m 164 #[.val (.int p1), .val (.long q2), .second, .val (.int p3), .val (.int aa), .val (.ref b1), .val (.int (1 : Int32))] [(.int (((q2.toUInt64 >>> ((56 : Int32) &&& 0x3f).toInt64.toUInt64).toInt64).toInt32)), (.int ((own_pl aa.toInt.toNat q2 gE) (aa.toInt.toNat)))])
  refine own_step (fun t k => XS.i2b X15.here hx rfl (hb hby at_164) rfl k) ?_
  show own_Fin _ _ _ _ _ _ _ _ (mkF m 165 #[.val (.int p1), .val (.long q2), .second, .val (.int p3), .val (.int aa), .val (.ref b1), .val (.int (1 : Int32))] [(.int ((((q2.toUInt64 >>> ((56 : Int32) &&& 0x3f).toInt64.toUInt64).toInt64).toInt32).toInt8.toInt32)), (.int ((own_pl aa.toInt.toNat q2 gE) (aa.toInt.toNat)))])
  have hc17 : (((own_pl aa.toInt.toNat q2 gE) (aa.toInt.toNat))).toInt = (((((q2.toUInt64 >>> ((56 : Int32) &&& 0x3f).toInt64.toUInt64).toInt64).toInt32).toInt8.toInt32)).toInt := by rw [own_pl0]
  refine own_step (fun t k => XS.icmpNo X15.here hx rfl (hb hby at_165) rfl (own_ce (x := ((own_pl aa.toInt.toNat q2 gE) (aa.toInt.toNat))) (y := ((((q2.toUInt64 >>> ((56 : Int32) &&& 0x3f).toInt64.toUInt64).toInt64).toInt32).toInt8.toInt32)) rfl rfl hc17).2 k) ?_
  show own_Fin _ _ _ _ _ _ _ _ (mkF m 168 #[.val (.int p1), .val (.long q2), .second, .val (.int p3), .val (.int aa), .val (.ref b1), .val (.int (1 : Int32))] [])
  refine own_step (fun t k => XS.iconst X15.here hx rfl (hb hby at_168) k) ?_
  show own_Fin _ _ _ _ _ _ _ _ (mkF m 169 #[.val (.int p1), .val (.long q2), .second, .val (.int p3), .val (.int aa), .val (.ref b1), .val (.int (1 : Int32))] [(.int (1 : Int32))])
  refine own_step (fun t k => XS.goto X15.here hx rfl (pc0 := 169) (pc' := 173) rfl (hb hby at_169) (by decide) (by decide) k) ?_
  show own_Fin _ _ _ _ _ _ _ _ (mkF m 173 #[.val (.int p1), .val (.long q2), .second, .val (.int p3), .val (.int aa), .val (.ref b1), .val (.int (1 : Int32))] [(.int (1 : Int32))])
  refine own_step (fun t k => XS.istore X15.here hx rfl (hb hby at_173) rfl (l' := #[.val (.int p1), .val (.long q2), .second, .val (.int p3), .val (.int aa), .val (.ref b1), .val (.int (1 : Int32))]) rfl k) ?_
  show own_Fin _ _ _ _ _ _ _ _ (mkF m 175 #[.val (.int p1), .val (.long q2), .second, .val (.int p3), .val (.int aa), .val (.ref b1), .val (.int (1 : Int32))] [])
  refine own_step (fun t k => XS.iload X15.here hx rfl (hb hby at_175) rfl k) ?_
  show own_Fin _ _ _ _ _ _ _ _ (mkF m 177 #[.val (.int p1), .val (.long q2), .second, .val (.int p3), .val (.int aa), .val (.ref b1), .val (.int (1 : Int32))] [(.int (1 : Int32))])
  refine own_step (fun t k => XS.ifNo X15.here hx rfl (hb hby at_177) rfl (by decide) k) ?_
  show own_Fin _ _ _ _ _ _ _ _ (mkF m 180 #[.val (.int p1), .val (.long q2), .second, .val (.int p3), .val (.int aa), .val (.ref b1), .val (.int (1 : Int32))] [])
  refine own_step (fun t k => XS.aload X15.here hx rfl (hb hby at_180) rfl rfl k) ?_
  show own_Fin _ _ _ _ _ _ _ _ (mkF m 182 #[.val (.int p1), .val (.long q2), .second, .val (.int p3), .val (.int aa), .val (.ref b1), .val (.int (1 : Int32))] [(.ref b1)])
  refine own_step (fun t k => XS.iload X15.here hx rfl (hb hby at_182) rfl k) ?_
  show own_Fin _ _ _ _ _ _ _ _ (mkF m 184 #[.val (.int p1), .val (.long q2), .second, .val (.int p3), .val (.int aa), .val (.ref b1), .val (.int (1 : Int32))] [(.int aa), (.ref b1)])
  refine own_step (fun t k => XS.bipush X15.here hx rfl (hb hby at_184) k) ?_
  show own_Fin _ _ _ _ _ _ _ _ (mkF m 186 #[.val (.int p1), .val (.long q2), .second, .val (.int p3), .val (.int aa), .val (.ref b1), .val (.int (1 : Int32))] [(.int (7 : Int32)), (.int aa), (.ref b1)])
  refine own_step (fun t k => XS.iadd X15.here hx rfl (hb hby at_186) rfl k) ?_
  show own_Fin _ _ _ _ _ _ _ _ (mkF m 187 #[.val (.int p1), .val (.long q2), .second, .val (.int p3), .val (.int aa), .val (.ref b1), .val (.int (1 : Int32))] [(.int (aa + (7 : Int32))), (.ref b1)])
  refine own_baload X15 hx hZ hh15 V_b1 (k := aa.toInt.toNat + 7) (by rw [own_ix aa 7 7 (by decide) (by omega) (by omega) (by omega) (by omega)]; omega) (by omega) (v := ((own_pl aa.toInt.toNat q2 gE) (aa.toInt.toNat + 7))) rfl (hb hby at_187) rfl ?_
  show own_Fin _ _ _ _ _ _ _ _ (mkF m 188 #[.val (.int p1), .val (.long q2), .second, .val (.int p3), .val (.int aa), .val (.ref b1), .val (.int (1 : Int32))] [(.int ((own_pl aa.toInt.toNat q2 gE) (aa.toInt.toNat + 7)))])
  refine own_step (fun t k => XS.lloadN X15.here hx rfl (hb hby at_188) rfl k) ?_
  show own_Fin _ _ _ _ _ _ _ _ (mkF m 189 #[.val (.int p1), .val (.long q2), .second, .val (.int p3), .val (.int aa), .val (.ref b1), .val (.int (1 : Int32))] [(.long q2), (.int ((own_pl aa.toInt.toNat q2 gE) (aa.toInt.toNat + 7)))])
  refine own_step (fun t k => XS.l2i X15.here hx rfl (hb hby at_189) rfl k) ?_
  show own_Fin _ _ _ _ _ _ _ _ (mkF m 190 #[.val (.int p1), .val (.long q2), .second, .val (.int p3), .val (.int aa), .val (.ref b1), .val (.int (1 : Int32))] [(.int (q2.toInt32)), (.int ((own_pl aa.toInt.toNat q2 gE) (aa.toInt.toNat + 7)))])
  refine own_step (fun t k => XS.i2b X15.here hx rfl (hb hby at_190) rfl k) ?_
  show own_Fin _ _ _ _ _ _ _ _ (mkF m 191 #[.val (.int p1), .val (.long q2), .second, .val (.int p3), .val (.int aa), .val (.ref b1), .val (.int (1 : Int32))] [(.int ((q2.toInt32).toInt8.toInt32)), (.int ((own_pl aa.toInt.toNat q2 gE) (aa.toInt.toNat + 7)))])
  have hc18 : (((own_pl aa.toInt.toNat q2 gE) (aa.toInt.toNat + 7))).toInt = (((q2.toInt32).toInt8.toInt32)).toInt := by rw [own_pl7]
  refine own_step (fun t k => XS.icmpNo X15.here hx rfl (hb hby at_191) rfl (own_ce (x := ((own_pl aa.toInt.toNat q2 gE) (aa.toInt.toNat + 7))) (y := ((q2.toInt32).toInt8.toInt32)) rfl rfl hc18).2 k) ?_
  show own_Fin _ _ _ _ _ _ _ _ (mkF m 194 #[.val (.int p1), .val (.long q2), .second, .val (.int p3), .val (.int aa), .val (.ref b1), .val (.int (1 : Int32))] [])
  refine own_step (fun t k => XS.iconst X15.here hx rfl (hb hby at_194) k) ?_
  show own_Fin _ _ _ _ _ _ _ _ (mkF m 195 #[.val (.int p1), .val (.long q2), .second, .val (.int p3), .val (.int aa), .val (.ref b1), .val (.int (1 : Int32))] [(.int (1 : Int32))])
  refine own_step (fun t k => XS.goto X15.here hx rfl (pc0 := 195) (pc' := 199) rfl (hb hby at_195) (by decide) (by decide) k) ?_
  show own_Fin _ _ _ _ _ _ _ _ (mkF m 199 #[.val (.int p1), .val (.long q2), .second, .val (.int p3), .val (.int aa), .val (.ref b1), .val (.int (1 : Int32))] [(.int (1 : Int32))])
  refine own_step (fun t k => XS.istore X15.here hx rfl (hb hby at_199) rfl (l' := #[.val (.int p1), .val (.long q2), .second, .val (.int p3), .val (.int aa), .val (.ref b1), .val (.int (1 : Int32))]) rfl k) ?_
  show own_Fin _ _ _ _ _ _ _ _ (mkF m 201 #[.val (.int p1), .val (.long q2), .second, .val (.int p3), .val (.int aa), .val (.ref b1), .val (.int (1 : Int32))] [])
  refine own_step (fun t k => XS.iload X15.here hx rfl (hb hby at_201) rfl k) ?_
  show own_Fin _ _ _ _ _ _ _ _ (mkF m 203 #[.val (.int p1), .val (.long q2), .second, .val (.int p3), .val (.int aa), .val (.ref b1), .val (.int (1 : Int32))] [(.int (1 : Int32))])
  refine own_step (fun t k => XS.ifNo X15.here hx rfl (hb hby at_203) rfl (by decide) k) ?_
  show own_Fin _ _ _ _ _ _ _ _ (mkF m 206 #[.val (.int p1), .val (.long q2), .second, .val (.int p3), .val (.int aa), .val (.ref b1), .val (.int (1 : Int32))] [])
  refine own_step (fun t k => XS.aload X15.here hx rfl (hb hby at_206) rfl rfl k) ?_
  show own_Fin _ _ _ _ _ _ _ _ (mkF m 208 #[.val (.int p1), .val (.long q2), .second, .val (.int p3), .val (.int aa), .val (.ref b1), .val (.int (1 : Int32))] [(.ref b1)])
  refine own_step (fun t k => XS.iconst X15.here hx rfl (hb hby at_208) k) ?_
  show own_Fin _ _ _ _ _ _ _ _ (mkF m 209 #[.val (.int p1), .val (.long q2), .second, .val (.int p3), .val (.int aa), .val (.ref b1), .val (.int (1 : Int32))] [(.int (0 : Int32)), (.ref b1)])
  refine own_step (fun t k => XS.iload X15.here hx rfl (hb hby at_209) rfl k) ?_
  show own_Fin _ _ _ _ _ _ _ _ (mkF m 211 #[.val (.int p1), .val (.long q2), .second, .val (.int p3), .val (.int aa), .val (.ref b1), .val (.int (1 : Int32))] [(.int aa), (.int (0 : Int32)), (.ref b1)])
  refine own_step (fun t k => XS.iloadN X15.here hx rfl (hb hby at_211) rfl k) ?_
  show own_Fin _ _ _ _ _ _ _ _ (mkF m 212 #[.val (.int p1), .val (.long q2), .second, .val (.int p3), .val (.int aa), .val (.ref b1), .val (.int (1 : Int32))] [(.int p3), (.int aa), (.int (0 : Int32)), (.ref b1)])
  obtain ⟨_, _, ⟨T19, L19, k19, n19⟩, -, X19, ⟨Lc19, hQ19, l19, y19, z19⟩, st19⟩ := Jvm.LawKit.callS X15 hx (y := (⟨"com/example/pcr10/pcr10/ScratchBytesPutLongPinLaw", "kept", "([BIII)Z"⟩ : MethodName)) hown (mvT hZ (hw _ (List.mem_of_getElem? (i := 10) rfl))) (mvT hZ (hw _ (List.mem_of_getElem? (i := 11) rfl))) (mvT hZ (hw _ (List.mem_of_getElem? (i := 12) rfl))) (mvT hZ (hw _ (List.mem_of_getElem? (i := 13) rfl))) (by decide) (backOf (W := 0) (rm3 l Z a0 hw [] b1 (0 : Int32) aa p3 _ T14.heap n0 Zs V_b1 (by decide) (by omega) (own_kp aa q2 gE (0 : Int32) 0 _ rfl (by omega) hgE_0)) hZ (hw _ (List.mem_of_getElem? (i := 13) rfl)) (hw _ (List.mem_of_getElem? (i := 12) rfl)) (by decide) (by decide)) (g := (mkF m 212 #[.val (.int p1), .val (.long q2), .second, .val (.int p3), .val (.int aa), .val (.ref b1), .val (.int (1 : Int32))] [(.int p3), (.int aa), (.int (0 : Int32)), (.ref b1)])) rfl (by rw [hml]; rfl) (argsL := [(.ref b1), (.int (0 : Int32)), (.int aa), (.int p3)]) (rest := []) (lenOf own_pd_2 rfl) rfl (by show 2 * 0 + _ ≤ _; exact Nat.le_of_eq rfl) (hb hby at_212) (fun _ _ => ⟨rfl, hh15, (by decide : 1 + 0 ≤ _), (by decide : 12 + 0 ≤ _)⟩)
  dsimp only [Pt.U, Pt.locs, Pt.cells, Pt.slots] at X19 l19 y19 z19 st19 hQ19
  rw [l19, y19, z19] at X19
  obtain ⟨rfl, Nq19, hh19⟩ := hQ19
  replace Nf := Fr.app Nf Nq19
  refine own_step st19 ?_
  show own_Fin _ _ _ _ _ _ _ _ (mkF m 215 #[.val (.int p1), .val (.long q2), .second, .val (.int p3), .val (.int aa), .val (.ref b1), .val (.int (1 : Int32))] [(.int (1 : Int32))])
  refine own_step (fun t k => XS.ifNo X19.here hx rfl (hb hby at_215) rfl (by decide) k) ?_
  show own_Fin _ _ _ _ _ _ _ _ (mkF m 218 #[.val (.int p1), .val (.long q2), .second, .val (.int p3), .val (.int aa), .val (.ref b1), .val (.int (1 : Int32))] [])
  refine own_step (fun t k => XS.iconst X19.here hx rfl (hb hby at_218) k) ?_
  show own_Fin _ _ _ _ _ _ _ _ (mkF m 219 #[.val (.int p1), .val (.long q2), .second, .val (.int p3), .val (.int aa), .val (.ref b1), .val (.int (1 : Int32))] [(.int (1 : Int32))])
  refine own_step (fun t k => XS.goto X19.here hx rfl (pc0 := 219) (pc' := 223) rfl (hb hby at_219) (by decide) (by decide) k) ?_
  show own_Fin _ _ _ _ _ _ _ _ (mkF m 223 #[.val (.int p1), .val (.long q2), .second, .val (.int p3), .val (.int aa), .val (.ref b1), .val (.int (1 : Int32))] [(.int (1 : Int32))])
  refine own_step (fun t k => XS.istore X19.here hx rfl (hb hby at_223) rfl (l' := #[.val (.int p1), .val (.long q2), .second, .val (.int p3), .val (.int aa), .val (.ref b1), .val (.int (1 : Int32))]) rfl k) ?_
  show own_Fin _ _ _ _ _ _ _ _ (mkF m 225 #[.val (.int p1), .val (.long q2), .second, .val (.int p3), .val (.int aa), .val (.ref b1), .val (.int (1 : Int32))] [])
  refine own_step (fun t k => XS.iload X19.here hx rfl (hb hby at_225) rfl k) ?_
  show own_Fin _ _ _ _ _ _ _ _ (mkF m 227 #[.val (.int p1), .val (.long q2), .second, .val (.int p3), .val (.int aa), .val (.ref b1), .val (.int (1 : Int32))] [(.int (1 : Int32))])
  refine own_step (fun t k => XS.ifNo X19.here hx rfl (hb hby at_227) rfl (by decide) k) ?_
  show own_Fin _ _ _ _ _ _ _ _ (mkF m 230 #[.val (.int p1), .val (.long q2), .second, .val (.int p3), .val (.int aa), .val (.ref b1), .val (.int (1 : Int32))] [])
  refine own_step (fun t k => XS.aload X19.here hx rfl (hb hby at_230) rfl rfl k) ?_
  show own_Fin _ _ _ _ _ _ _ _ (mkF m 232 #[.val (.int p1), .val (.long q2), .second, .val (.int p3), .val (.int aa), .val (.ref b1), .val (.int (1 : Int32))] [(.ref b1)])
  refine own_step (fun t k => XS.iconst X19.here hx rfl (hb hby at_232) k) ?_
  show own_Fin _ _ _ _ _ _ _ _ (mkF m 233 #[.val (.int p1), .val (.long q2), .second, .val (.int p3), .val (.int aa), .val (.ref b1), .val (.int (1 : Int32))] [(.int (1 : Int32)), (.ref b1)])
  refine own_step (fun t k => XS.iload X19.here hx rfl (hb hby at_233) rfl k) ?_
  show own_Fin _ _ _ _ _ _ _ _ (mkF m 235 #[.val (.int p1), .val (.long q2), .second, .val (.int p3), .val (.int aa), .val (.ref b1), .val (.int (1 : Int32))] [(.int aa), (.int (1 : Int32)), (.ref b1)])
  refine own_step (fun t k => XS.iloadN X19.here hx rfl (hb hby at_235) rfl k) ?_
  show own_Fin _ _ _ _ _ _ _ _ (mkF m 236 #[.val (.int p1), .val (.long q2), .second, .val (.int p3), .val (.int aa), .val (.ref b1), .val (.int (1 : Int32))] [(.int p3), (.int aa), (.int (1 : Int32)), (.ref b1)])
  obtain ⟨_, _, ⟨T20, L20, k20, n20⟩, -, X20, ⟨Lc20, hQ20, l20, y20, z20⟩, st20⟩ := Jvm.LawKit.callS X19 hx (y := (⟨"com/example/pcr10/pcr10/ScratchBytesPutLongPinLaw", "kept", "([BIII)Z"⟩ : MethodName)) hown (mvT hZ (hw _ (List.mem_of_getElem? (i := 10) rfl))) (mvT hZ (hw _ (List.mem_of_getElem? (i := 11) rfl))) (mvT hZ (hw _ (List.mem_of_getElem? (i := 12) rfl))) (mvT hZ (hw _ (List.mem_of_getElem? (i := 13) rfl))) (by decide) (backOf (W := 0) (rm3 l Z a0 hw [] b1 (1 : Int32) aa p3 _ T14.heap n0 Zs V_b1 (by decide) (by omega) (own_kp aa q2 gE (1 : Int32) 1 _ rfl (by omega) hgE_1)) hZ (hw _ (List.mem_of_getElem? (i := 13) rfl)) (hw _ (List.mem_of_getElem? (i := 12) rfl)) (by decide) (by decide)) (g := (mkF m 236 #[.val (.int p1), .val (.long q2), .second, .val (.int p3), .val (.int aa), .val (.ref b1), .val (.int (1 : Int32))] [(.int p3), (.int aa), (.int (1 : Int32)), (.ref b1)])) rfl (by rw [hml]; rfl) (argsL := [(.ref b1), (.int (1 : Int32)), (.int aa), (.int p3)]) (rest := []) (lenOf own_pd_2 rfl) rfl (by show 2 * 0 + _ ≤ _; exact Nat.le_of_eq rfl) (hb hby at_236) (fun _ _ => ⟨rfl, hh19, (by decide : 1 + 0 ≤ _), (by decide : 12 + 0 ≤ _)⟩)
  dsimp only [Pt.U, Pt.locs, Pt.cells, Pt.slots] at X20 l20 y20 z20 st20 hQ20
  rw [l20, y20, z20] at X20
  obtain ⟨rfl, Nq20, hh20⟩ := hQ20
  replace Nf := Fr.app Nf Nq20
  refine own_step st20 ?_
  show own_Fin _ _ _ _ _ _ _ _ (mkF m 239 #[.val (.int p1), .val (.long q2), .second, .val (.int p3), .val (.int aa), .val (.ref b1), .val (.int (1 : Int32))] [(.int (1 : Int32))])
  refine own_step (fun t k => XS.ifNo X20.here hx rfl (hb hby at_239) rfl (by decide) k) ?_
  show own_Fin _ _ _ _ _ _ _ _ (mkF m 242 #[.val (.int p1), .val (.long q2), .second, .val (.int p3), .val (.int aa), .val (.ref b1), .val (.int (1 : Int32))] [])
  refine own_step (fun t k => XS.iconst X20.here hx rfl (hb hby at_242) k) ?_
  show own_Fin _ _ _ _ _ _ _ _ (mkF m 243 #[.val (.int p1), .val (.long q2), .second, .val (.int p3), .val (.int aa), .val (.ref b1), .val (.int (1 : Int32))] [(.int (1 : Int32))])
  refine own_step (fun t k => XS.goto X20.here hx rfl (pc0 := 243) (pc' := 247) rfl (hb hby at_243) (by decide) (by decide) k) ?_
  show own_Fin _ _ _ _ _ _ _ _ (mkF m 247 #[.val (.int p1), .val (.long q2), .second, .val (.int p3), .val (.int aa), .val (.ref b1), .val (.int (1 : Int32))] [(.int (1 : Int32))])
  refine own_step (fun t k => XS.istore X20.here hx rfl (hb hby at_247) rfl (l' := #[.val (.int p1), .val (.long q2), .second, .val (.int p3), .val (.int aa), .val (.ref b1), .val (.int (1 : Int32))]) rfl k) ?_
  show own_Fin _ _ _ _ _ _ _ _ (mkF m 249 #[.val (.int p1), .val (.long q2), .second, .val (.int p3), .val (.int aa), .val (.ref b1), .val (.int (1 : Int32))] [])
  refine own_step (fun t k => XS.iload X20.here hx rfl (hb hby at_249) rfl k) ?_
  show own_Fin _ _ _ _ _ _ _ _ (mkF m 251 #[.val (.int p1), .val (.long q2), .second, .val (.int p3), .val (.int aa), .val (.ref b1), .val (.int (1 : Int32))] [(.int (1 : Int32))])
  refine own_step (fun t k => XS.ifNo X20.here hx rfl (hb hby at_251) rfl (by decide) k) ?_
  show own_Fin _ _ _ _ _ _ _ _ (mkF m 254 #[.val (.int p1), .val (.long q2), .second, .val (.int p3), .val (.int aa), .val (.ref b1), .val (.int (1 : Int32))] [])
  refine own_step (fun t k => XS.aload X20.here hx rfl (hb hby at_254) rfl rfl k) ?_
  show own_Fin _ _ _ _ _ _ _ _ (mkF m 256 #[.val (.int p1), .val (.long q2), .second, .val (.int p3), .val (.int aa), .val (.ref b1), .val (.int (1 : Int32))] [(.ref b1)])
  refine own_step (fun t k => XS.iconst X20.here hx rfl (hb hby at_256) k) ?_
  show own_Fin _ _ _ _ _ _ _ _ (mkF m 257 #[.val (.int p1), .val (.long q2), .second, .val (.int p3), .val (.int aa), .val (.ref b1), .val (.int (1 : Int32))] [(.int (2 : Int32)), (.ref b1)])
  refine own_step (fun t k => XS.iload X20.here hx rfl (hb hby at_257) rfl k) ?_
  show own_Fin _ _ _ _ _ _ _ _ (mkF m 259 #[.val (.int p1), .val (.long q2), .second, .val (.int p3), .val (.int aa), .val (.ref b1), .val (.int (1 : Int32))] [(.int aa), (.int (2 : Int32)), (.ref b1)])
  refine own_step (fun t k => XS.iloadN X20.here hx rfl (hb hby at_259) rfl k) ?_
  show own_Fin _ _ _ _ _ _ _ _ (mkF m 260 #[.val (.int p1), .val (.long q2), .second, .val (.int p3), .val (.int aa), .val (.ref b1), .val (.int (1 : Int32))] [(.int p3), (.int aa), (.int (2 : Int32)), (.ref b1)])
  obtain ⟨_, _, ⟨T21, L21, k21, n21⟩, -, X21, ⟨Lc21, hQ21, l21, y21, z21⟩, st21⟩ := Jvm.LawKit.callS X20 hx (y := (⟨"com/example/pcr10/pcr10/ScratchBytesPutLongPinLaw", "kept", "([BIII)Z"⟩ : MethodName)) hown (mvT hZ (hw _ (List.mem_of_getElem? (i := 10) rfl))) (mvT hZ (hw _ (List.mem_of_getElem? (i := 11) rfl))) (mvT hZ (hw _ (List.mem_of_getElem? (i := 12) rfl))) (mvT hZ (hw _ (List.mem_of_getElem? (i := 13) rfl))) (by decide) (backOf (W := 0) (rm3 l Z a0 hw [] b1 (2 : Int32) aa p3 _ T14.heap n0 Zs V_b1 (by decide) (by omega) (own_kp aa q2 gE (2 : Int32) 2 _ rfl (by omega) hgE_2)) hZ (hw _ (List.mem_of_getElem? (i := 13) rfl)) (hw _ (List.mem_of_getElem? (i := 12) rfl)) (by decide) (by decide)) (g := (mkF m 260 #[.val (.int p1), .val (.long q2), .second, .val (.int p3), .val (.int aa), .val (.ref b1), .val (.int (1 : Int32))] [(.int p3), (.int aa), (.int (2 : Int32)), (.ref b1)])) rfl (by rw [hml]; rfl) (argsL := [(.ref b1), (.int (2 : Int32)), (.int aa), (.int p3)]) (rest := []) (lenOf own_pd_2 rfl) rfl (by show 2 * 0 + _ ≤ _; exact Nat.le_of_eq rfl) (hb hby at_260) (fun _ _ => ⟨rfl, hh20, (by decide : 1 + 0 ≤ _), (by decide : 12 + 0 ≤ _)⟩)
  dsimp only [Pt.U, Pt.locs, Pt.cells, Pt.slots] at X21 l21 y21 z21 st21 hQ21
  rw [l21, y21, z21] at X21
  obtain ⟨rfl, Nq21, hh21⟩ := hQ21
  replace Nf := Fr.app Nf Nq21
  refine own_step st21 ?_
  show own_Fin _ _ _ _ _ _ _ _ (mkF m 263 #[.val (.int p1), .val (.long q2), .second, .val (.int p3), .val (.int aa), .val (.ref b1), .val (.int (1 : Int32))] [(.int (1 : Int32))])
  refine own_step (fun t k => XS.ifNo X21.here hx rfl (hb hby at_263) rfl (by decide) k) ?_
  show own_Fin _ _ _ _ _ _ _ _ (mkF m 266 #[.val (.int p1), .val (.long q2), .second, .val (.int p3), .val (.int aa), .val (.ref b1), .val (.int (1 : Int32))] [])
  refine own_step (fun t k => XS.iconst X21.here hx rfl (hb hby at_266) k) ?_
  show own_Fin _ _ _ _ _ _ _ _ (mkF m 267 #[.val (.int p1), .val (.long q2), .second, .val (.int p3), .val (.int aa), .val (.ref b1), .val (.int (1 : Int32))] [(.int (1 : Int32))])
  refine own_step (fun t k => XS.goto X21.here hx rfl (pc0 := 267) (pc' := 271) rfl (hb hby at_267) (by decide) (by decide) k) ?_
  show own_Fin _ _ _ _ _ _ _ _ (mkF m 271 #[.val (.int p1), .val (.long q2), .second, .val (.int p3), .val (.int aa), .val (.ref b1), .val (.int (1 : Int32))] [(.int (1 : Int32))])
  refine own_step (fun t k => XS.istore X21.here hx rfl (hb hby at_271) rfl (l' := #[.val (.int p1), .val (.long q2), .second, .val (.int p3), .val (.int aa), .val (.ref b1), .val (.int (1 : Int32))]) rfl k) ?_
  show own_Fin _ _ _ _ _ _ _ _ (mkF m 273 #[.val (.int p1), .val (.long q2), .second, .val (.int p3), .val (.int aa), .val (.ref b1), .val (.int (1 : Int32))] [])
  refine own_step (fun t k => XS.iload X21.here hx rfl (hb hby at_273) rfl k) ?_
  show own_Fin _ _ _ _ _ _ _ _ (mkF m 275 #[.val (.int p1), .val (.long q2), .second, .val (.int p3), .val (.int aa), .val (.ref b1), .val (.int (1 : Int32))] [(.int (1 : Int32))])
  refine own_step (fun t k => XS.ifNo X21.here hx rfl (hb hby at_275) rfl (by decide) k) ?_
  show own_Fin _ _ _ _ _ _ _ _ (mkF m 278 #[.val (.int p1), .val (.long q2), .second, .val (.int p3), .val (.int aa), .val (.ref b1), .val (.int (1 : Int32))] [])
  refine own_step (fun t k => XS.aload X21.here hx rfl (hb hby at_278) rfl rfl k) ?_
  show own_Fin _ _ _ _ _ _ _ _ (mkF m 280 #[.val (.int p1), .val (.long q2), .second, .val (.int p3), .val (.int aa), .val (.ref b1), .val (.int (1 : Int32))] [(.ref b1)])
  refine own_step (fun t k => XS.iconst X21.here hx rfl (hb hby at_280) k) ?_
  show own_Fin _ _ _ _ _ _ _ _ (mkF m 281 #[.val (.int p1), .val (.long q2), .second, .val (.int p3), .val (.int aa), .val (.ref b1), .val (.int (1 : Int32))] [(.int (3 : Int32)), (.ref b1)])
  refine own_step (fun t k => XS.iload X21.here hx rfl (hb hby at_281) rfl k) ?_
  show own_Fin _ _ _ _ _ _ _ _ (mkF m 283 #[.val (.int p1), .val (.long q2), .second, .val (.int p3), .val (.int aa), .val (.ref b1), .val (.int (1 : Int32))] [(.int aa), (.int (3 : Int32)), (.ref b1)])
  refine own_step (fun t k => XS.iloadN X21.here hx rfl (hb hby at_283) rfl k) ?_
  show own_Fin _ _ _ _ _ _ _ _ (mkF m 284 #[.val (.int p1), .val (.long q2), .second, .val (.int p3), .val (.int aa), .val (.ref b1), .val (.int (1 : Int32))] [(.int p3), (.int aa), (.int (3 : Int32)), (.ref b1)])
  obtain ⟨_, _, ⟨T22, L22, k22, n22⟩, -, X22, ⟨Lc22, hQ22, l22, y22, z22⟩, st22⟩ := Jvm.LawKit.callS X21 hx (y := (⟨"com/example/pcr10/pcr10/ScratchBytesPutLongPinLaw", "kept", "([BIII)Z"⟩ : MethodName)) hown (mvT hZ (hw _ (List.mem_of_getElem? (i := 10) rfl))) (mvT hZ (hw _ (List.mem_of_getElem? (i := 11) rfl))) (mvT hZ (hw _ (List.mem_of_getElem? (i := 12) rfl))) (mvT hZ (hw _ (List.mem_of_getElem? (i := 13) rfl))) (by decide) (backOf (W := 0) (rm3 l Z a0 hw [] b1 (3 : Int32) aa p3 _ T14.heap n0 Zs V_b1 (by decide) (by omega) (own_kp aa q2 gE (3 : Int32) 3 _ rfl (by omega) hgE_3)) hZ (hw _ (List.mem_of_getElem? (i := 13) rfl)) (hw _ (List.mem_of_getElem? (i := 12) rfl)) (by decide) (by decide)) (g := (mkF m 284 #[.val (.int p1), .val (.long q2), .second, .val (.int p3), .val (.int aa), .val (.ref b1), .val (.int (1 : Int32))] [(.int p3), (.int aa), (.int (3 : Int32)), (.ref b1)])) rfl (by rw [hml]; rfl) (argsL := [(.ref b1), (.int (3 : Int32)), (.int aa), (.int p3)]) (rest := []) (lenOf own_pd_2 rfl) rfl (by show 2 * 0 + _ ≤ _; exact Nat.le_of_eq rfl) (hb hby at_284) (fun _ _ => ⟨rfl, hh21, (by decide : 1 + 0 ≤ _), (by decide : 12 + 0 ≤ _)⟩)
  dsimp only [Pt.U, Pt.locs, Pt.cells, Pt.slots] at X22 l22 y22 z22 st22 hQ22
  rw [l22, y22, z22] at X22
  obtain ⟨rfl, Nq22, hh22⟩ := hQ22
  replace Nf := Fr.app Nf Nq22
  refine own_step st22 ?_
  show own_Fin _ _ _ _ _ _ _ _ (mkF m 287 #[.val (.int p1), .val (.long q2), .second, .val (.int p3), .val (.int aa), .val (.ref b1), .val (.int (1 : Int32))] [(.int (1 : Int32))])
  refine own_step (fun t k => XS.ifNo X22.here hx rfl (hb hby at_287) rfl (by decide) k) ?_
  show own_Fin _ _ _ _ _ _ _ _ (mkF m 290 #[.val (.int p1), .val (.long q2), .second, .val (.int p3), .val (.int aa), .val (.ref b1), .val (.int (1 : Int32))] [])
  refine own_step (fun t k => XS.iconst X22.here hx rfl (hb hby at_290) k) ?_
  show own_Fin _ _ _ _ _ _ _ _ (mkF m 291 #[.val (.int p1), .val (.long q2), .second, .val (.int p3), .val (.int aa), .val (.ref b1), .val (.int (1 : Int32))] [(.int (1 : Int32))])
  refine own_step (fun t k => XS.goto X22.here hx rfl (pc0 := 291) (pc' := 295) rfl (hb hby at_291) (by decide) (by decide) k) ?_
  show own_Fin _ _ _ _ _ _ _ _ (mkF m 295 #[.val (.int p1), .val (.long q2), .second, .val (.int p3), .val (.int aa), .val (.ref b1), .val (.int (1 : Int32))] [(.int (1 : Int32))])
  refine own_step (fun t k => XS.istore X22.here hx rfl (hb hby at_295) rfl (l' := #[.val (.int p1), .val (.long q2), .second, .val (.int p3), .val (.int aa), .val (.ref b1), .val (.int (1 : Int32))]) rfl k) ?_
  show own_Fin _ _ _ _ _ _ _ _ (mkF m 297 #[.val (.int p1), .val (.long q2), .second, .val (.int p3), .val (.int aa), .val (.ref b1), .val (.int (1 : Int32))] [])
  refine own_step (fun t k => XS.iload X22.here hx rfl (hb hby at_297) rfl k) ?_
  show own_Fin _ _ _ _ _ _ _ _ (mkF m 299 #[.val (.int p1), .val (.long q2), .second, .val (.int p3), .val (.int aa), .val (.ref b1), .val (.int (1 : Int32))] [(.int (1 : Int32))])
  refine own_step (fun t k => XS.ifNo X22.here hx rfl (hb hby at_299) rfl (by decide) k) ?_
  show own_Fin _ _ _ _ _ _ _ _ (mkF m 302 #[.val (.int p1), .val (.long q2), .second, .val (.int p3), .val (.int aa), .val (.ref b1), .val (.int (1 : Int32))] [])
  refine own_step (fun t k => XS.aload X22.here hx rfl (hb hby at_302) rfl rfl k) ?_
  show own_Fin _ _ _ _ _ _ _ _ (mkF m 304 #[.val (.int p1), .val (.long q2), .second, .val (.int p3), .val (.int aa), .val (.ref b1), .val (.int (1 : Int32))] [(.ref b1)])
  refine own_step (fun t k => XS.iconst X22.here hx rfl (hb hby at_304) k) ?_
  show own_Fin _ _ _ _ _ _ _ _ (mkF m 305 #[.val (.int p1), .val (.long q2), .second, .val (.int p3), .val (.int aa), .val (.ref b1), .val (.int (1 : Int32))] [(.int (4 : Int32)), (.ref b1)])
  refine own_step (fun t k => XS.iload X22.here hx rfl (hb hby at_305) rfl k) ?_
  show own_Fin _ _ _ _ _ _ _ _ (mkF m 307 #[.val (.int p1), .val (.long q2), .second, .val (.int p3), .val (.int aa), .val (.ref b1), .val (.int (1 : Int32))] [(.int aa), (.int (4 : Int32)), (.ref b1)])
  refine own_step (fun t k => XS.iloadN X22.here hx rfl (hb hby at_307) rfl k) ?_
  show own_Fin _ _ _ _ _ _ _ _ (mkF m 308 #[.val (.int p1), .val (.long q2), .second, .val (.int p3), .val (.int aa), .val (.ref b1), .val (.int (1 : Int32))] [(.int p3), (.int aa), (.int (4 : Int32)), (.ref b1)])
  obtain ⟨_, _, ⟨T23, L23, k23, n23⟩, -, X23, ⟨Lc23, hQ23, l23, y23, z23⟩, st23⟩ := Jvm.LawKit.callS X22 hx (y := (⟨"com/example/pcr10/pcr10/ScratchBytesPutLongPinLaw", "kept", "([BIII)Z"⟩ : MethodName)) hown (mvT hZ (hw _ (List.mem_of_getElem? (i := 10) rfl))) (mvT hZ (hw _ (List.mem_of_getElem? (i := 11) rfl))) (mvT hZ (hw _ (List.mem_of_getElem? (i := 12) rfl))) (mvT hZ (hw _ (List.mem_of_getElem? (i := 13) rfl))) (by decide) (backOf (W := 0) (rm3 l Z a0 hw [] b1 (4 : Int32) aa p3 _ T14.heap n0 Zs V_b1 (by decide) (by omega) (own_kp aa q2 gE (4 : Int32) 4 _ rfl (by omega) hgE_4)) hZ (hw _ (List.mem_of_getElem? (i := 13) rfl)) (hw _ (List.mem_of_getElem? (i := 12) rfl)) (by decide) (by decide)) (g := (mkF m 308 #[.val (.int p1), .val (.long q2), .second, .val (.int p3), .val (.int aa), .val (.ref b1), .val (.int (1 : Int32))] [(.int p3), (.int aa), (.int (4 : Int32)), (.ref b1)])) rfl (by rw [hml]; rfl) (argsL := [(.ref b1), (.int (4 : Int32)), (.int aa), (.int p3)]) (rest := []) (lenOf own_pd_2 rfl) rfl (by show 2 * 0 + _ ≤ _; exact Nat.le_of_eq rfl) (hb hby at_308) (fun _ _ => ⟨rfl, hh22, (by decide : 1 + 0 ≤ _), (by decide : 12 + 0 ≤ _)⟩)
  dsimp only [Pt.U, Pt.locs, Pt.cells, Pt.slots] at X23 l23 y23 z23 st23 hQ23
  rw [l23, y23, z23] at X23
  obtain ⟨rfl, Nq23, hh23⟩ := hQ23
  replace Nf := Fr.app Nf Nq23
  refine own_step st23 ?_
  show own_Fin _ _ _ _ _ _ _ _ (mkF m 311 #[.val (.int p1), .val (.long q2), .second, .val (.int p3), .val (.int aa), .val (.ref b1), .val (.int (1 : Int32))] [(.int (1 : Int32))])
  refine own_step (fun t k => XS.ifNo X23.here hx rfl (hb hby at_311) rfl (by decide) k) ?_
  show own_Fin _ _ _ _ _ _ _ _ (mkF m 314 #[.val (.int p1), .val (.long q2), .second, .val (.int p3), .val (.int aa), .val (.ref b1), .val (.int (1 : Int32))] [])
  refine own_step (fun t k => XS.iconst X23.here hx rfl (hb hby at_314) k) ?_
  show own_Fin _ _ _ _ _ _ _ _ (mkF m 315 #[.val (.int p1), .val (.long q2), .second, .val (.int p3), .val (.int aa), .val (.ref b1), .val (.int (1 : Int32))] [(.int (1 : Int32))])
  refine own_step (fun t k => XS.goto X23.here hx rfl (pc0 := 315) (pc' := 319) rfl (hb hby at_315) (by decide) (by decide) k) ?_
  show own_Fin _ _ _ _ _ _ _ _ (mkF m 319 #[.val (.int p1), .val (.long q2), .second, .val (.int p3), .val (.int aa), .val (.ref b1), .val (.int (1 : Int32))] [(.int (1 : Int32))])
  refine own_step (fun t k => XS.istore X23.here hx rfl (hb hby at_319) rfl (l' := #[.val (.int p1), .val (.long q2), .second, .val (.int p3), .val (.int aa), .val (.ref b1), .val (.int (1 : Int32))]) rfl k) ?_
  show own_Fin _ _ _ _ _ _ _ _ (mkF m 321 #[.val (.int p1), .val (.long q2), .second, .val (.int p3), .val (.int aa), .val (.ref b1), .val (.int (1 : Int32))] [])
  refine own_step (fun t k => XS.iload X23.here hx rfl (hb hby at_321) rfl k) ?_
  show own_Fin _ _ _ _ _ _ _ _ (mkF m 323 #[.val (.int p1), .val (.long q2), .second, .val (.int p3), .val (.int aa), .val (.ref b1), .val (.int (1 : Int32))] [(.int (1 : Int32))])
  refine own_step (fun t k => XS.ifNo X23.here hx rfl (hb hby at_323) rfl (by decide) k) ?_
  show own_Fin _ _ _ _ _ _ _ _ (mkF m 326 #[.val (.int p1), .val (.long q2), .second, .val (.int p3), .val (.int aa), .val (.ref b1), .val (.int (1 : Int32))] [])
  refine own_step (fun t k => XS.aload X23.here hx rfl (hb hby at_326) rfl rfl k) ?_
  show own_Fin _ _ _ _ _ _ _ _ (mkF m 328 #[.val (.int p1), .val (.long q2), .second, .val (.int p3), .val (.int aa), .val (.ref b1), .val (.int (1 : Int32))] [(.ref b1)])
  refine own_step (fun t k => XS.iconst X23.here hx rfl (hb hby at_328) k) ?_
  show own_Fin _ _ _ _ _ _ _ _ (mkF m 329 #[.val (.int p1), .val (.long q2), .second, .val (.int p3), .val (.int aa), .val (.ref b1), .val (.int (1 : Int32))] [(.int (5 : Int32)), (.ref b1)])
  refine own_step (fun t k => XS.iload X23.here hx rfl (hb hby at_329) rfl k) ?_
  show own_Fin _ _ _ _ _ _ _ _ (mkF m 331 #[.val (.int p1), .val (.long q2), .second, .val (.int p3), .val (.int aa), .val (.ref b1), .val (.int (1 : Int32))] [(.int aa), (.int (5 : Int32)), (.ref b1)])
  refine own_step (fun t k => XS.iloadN X23.here hx rfl (hb hby at_331) rfl k) ?_
  show own_Fin _ _ _ _ _ _ _ _ (mkF m 332 #[.val (.int p1), .val (.long q2), .second, .val (.int p3), .val (.int aa), .val (.ref b1), .val (.int (1 : Int32))] [(.int p3), (.int aa), (.int (5 : Int32)), (.ref b1)])
  obtain ⟨_, _, ⟨T24, L24, k24, n24⟩, -, X24, ⟨Lc24, hQ24, l24, y24, z24⟩, st24⟩ := Jvm.LawKit.callS X23 hx (y := (⟨"com/example/pcr10/pcr10/ScratchBytesPutLongPinLaw", "kept", "([BIII)Z"⟩ : MethodName)) hown (mvT hZ (hw _ (List.mem_of_getElem? (i := 10) rfl))) (mvT hZ (hw _ (List.mem_of_getElem? (i := 11) rfl))) (mvT hZ (hw _ (List.mem_of_getElem? (i := 12) rfl))) (mvT hZ (hw _ (List.mem_of_getElem? (i := 13) rfl))) (by decide) (backOf (W := 0) (rm3 l Z a0 hw [] b1 (5 : Int32) aa p3 _ T14.heap n0 Zs V_b1 (by decide) (by omega) (own_kp aa q2 gE (5 : Int32) 5 _ rfl (by omega) hgE_5)) hZ (hw _ (List.mem_of_getElem? (i := 13) rfl)) (hw _ (List.mem_of_getElem? (i := 12) rfl)) (by decide) (by decide)) (g := (mkF m 332 #[.val (.int p1), .val (.long q2), .second, .val (.int p3), .val (.int aa), .val (.ref b1), .val (.int (1 : Int32))] [(.int p3), (.int aa), (.int (5 : Int32)), (.ref b1)])) rfl (by rw [hml]; rfl) (argsL := [(.ref b1), (.int (5 : Int32)), (.int aa), (.int p3)]) (rest := []) (lenOf own_pd_2 rfl) rfl (by show 2 * 0 + _ ≤ _; exact Nat.le_of_eq rfl) (hb hby at_332) (fun _ _ => ⟨rfl, hh23, (by decide : 1 + 0 ≤ _), (by decide : 12 + 0 ≤ _)⟩)
  dsimp only [Pt.U, Pt.locs, Pt.cells, Pt.slots] at X24 l24 y24 z24 st24 hQ24
  rw [l24, y24, z24] at X24
  obtain ⟨rfl, Nq24, hh24⟩ := hQ24
  replace Nf := Fr.app Nf Nq24
  refine own_step st24 ?_
  show own_Fin _ _ _ _ _ _ _ _ (mkF m 335 #[.val (.int p1), .val (.long q2), .second, .val (.int p3), .val (.int aa), .val (.ref b1), .val (.int (1 : Int32))] [(.int (1 : Int32))])
  refine own_step (fun t k => XS.ifNo X24.here hx rfl (hb hby at_335) rfl (by decide) k) ?_
  show own_Fin _ _ _ _ _ _ _ _ (mkF m 338 #[.val (.int p1), .val (.long q2), .second, .val (.int p3), .val (.int aa), .val (.ref b1), .val (.int (1 : Int32))] [])
  refine own_step (fun t k => XS.iconst X24.here hx rfl (hb hby at_338) k) ?_
  show own_Fin _ _ _ _ _ _ _ _ (mkF m 339 #[.val (.int p1), .val (.long q2), .second, .val (.int p3), .val (.int aa), .val (.ref b1), .val (.int (1 : Int32))] [(.int (1 : Int32))])
  refine own_step (fun t k => XS.goto X24.here hx rfl (pc0 := 339) (pc' := 343) rfl (hb hby at_339) (by decide) (by decide) k) ?_
  show own_Fin _ _ _ _ _ _ _ _ (mkF m 343 #[.val (.int p1), .val (.long q2), .second, .val (.int p3), .val (.int aa), .val (.ref b1), .val (.int (1 : Int32))] [(.int (1 : Int32))])
  refine own_step (fun t k => XS.istore X24.here hx rfl (hb hby at_343) rfl (l' := #[.val (.int p1), .val (.long q2), .second, .val (.int p3), .val (.int aa), .val (.ref b1), .val (.int (1 : Int32))]) rfl k) ?_
  show own_Fin _ _ _ _ _ _ _ _ (mkF m 345 #[.val (.int p1), .val (.long q2), .second, .val (.int p3), .val (.int aa), .val (.ref b1), .val (.int (1 : Int32))] [])
  refine own_step (fun t k => XS.iload X24.here hx rfl (hb hby at_345) rfl k) ?_
  show own_Fin _ _ _ _ _ _ _ _ (mkF m 347 #[.val (.int p1), .val (.long q2), .second, .val (.int p3), .val (.int aa), .val (.ref b1), .val (.int (1 : Int32))] [(.int (1 : Int32))])
  refine own_step (fun t k => XS.ifNo X24.here hx rfl (hb hby at_347) rfl (by decide) k) ?_
  show own_Fin _ _ _ _ _ _ _ _ (mkF m 350 #[.val (.int p1), .val (.long q2), .second, .val (.int p3), .val (.int aa), .val (.ref b1), .val (.int (1 : Int32))] [])
  refine own_step (fun t k => XS.aload X24.here hx rfl (hb hby at_350) rfl rfl k) ?_
  show own_Fin _ _ _ _ _ _ _ _ (mkF m 352 #[.val (.int p1), .val (.long q2), .second, .val (.int p3), .val (.int aa), .val (.ref b1), .val (.int (1 : Int32))] [(.ref b1)])
  refine own_step (fun t k => XS.bipush X24.here hx rfl (hb hby at_352) k) ?_
  show own_Fin _ _ _ _ _ _ _ _ (mkF m 354 #[.val (.int p1), .val (.long q2), .second, .val (.int p3), .val (.int aa), .val (.ref b1), .val (.int (1 : Int32))] [(.int (6 : Int32)), (.ref b1)])
  refine own_step (fun t k => XS.iload X24.here hx rfl (hb hby at_354) rfl k) ?_
  show own_Fin _ _ _ _ _ _ _ _ (mkF m 356 #[.val (.int p1), .val (.long q2), .second, .val (.int p3), .val (.int aa), .val (.ref b1), .val (.int (1 : Int32))] [(.int aa), (.int (6 : Int32)), (.ref b1)])
  refine own_step (fun t k => XS.iloadN X24.here hx rfl (hb hby at_356) rfl k) ?_
  show own_Fin _ _ _ _ _ _ _ _ (mkF m 357 #[.val (.int p1), .val (.long q2), .second, .val (.int p3), .val (.int aa), .val (.ref b1), .val (.int (1 : Int32))] [(.int p3), (.int aa), (.int (6 : Int32)), (.ref b1)])
  obtain ⟨_, _, ⟨T25, L25, k25, n25⟩, -, X25, ⟨Lc25, hQ25, l25, y25, z25⟩, st25⟩ := Jvm.LawKit.callS X24 hx (y := (⟨"com/example/pcr10/pcr10/ScratchBytesPutLongPinLaw", "kept", "([BIII)Z"⟩ : MethodName)) hown (mvT hZ (hw _ (List.mem_of_getElem? (i := 10) rfl))) (mvT hZ (hw _ (List.mem_of_getElem? (i := 11) rfl))) (mvT hZ (hw _ (List.mem_of_getElem? (i := 12) rfl))) (mvT hZ (hw _ (List.mem_of_getElem? (i := 13) rfl))) (by decide) (backOf (W := 0) (rm3 l Z a0 hw [] b1 (6 : Int32) aa p3 _ T14.heap n0 Zs V_b1 (by decide) (by omega) (own_kp aa q2 gE (6 : Int32) 6 _ rfl (by omega) hgE_6)) hZ (hw _ (List.mem_of_getElem? (i := 13) rfl)) (hw _ (List.mem_of_getElem? (i := 12) rfl)) (by decide) (by decide)) (g := (mkF m 357 #[.val (.int p1), .val (.long q2), .second, .val (.int p3), .val (.int aa), .val (.ref b1), .val (.int (1 : Int32))] [(.int p3), (.int aa), (.int (6 : Int32)), (.ref b1)])) rfl (by rw [hml]; rfl) (argsL := [(.ref b1), (.int (6 : Int32)), (.int aa), (.int p3)]) (rest := []) (lenOf own_pd_2 rfl) rfl (by show 2 * 0 + _ ≤ _; exact Nat.le_of_eq rfl) (hb hby at_357) (fun _ _ => ⟨rfl, hh24, (by decide : 1 + 0 ≤ _), (by decide : 12 + 0 ≤ _)⟩)
  dsimp only [Pt.U, Pt.locs, Pt.cells, Pt.slots] at X25 l25 y25 z25 st25 hQ25
  rw [l25, y25, z25] at X25
  obtain ⟨rfl, Nq25, hh25⟩ := hQ25
  replace Nf := Fr.app Nf Nq25
  refine own_step st25 ?_
  show own_Fin _ _ _ _ _ _ _ _ (mkF m 360 #[.val (.int p1), .val (.long q2), .second, .val (.int p3), .val (.int aa), .val (.ref b1), .val (.int (1 : Int32))] [(.int (1 : Int32))])
  refine own_step (fun t k => XS.ifNo X25.here hx rfl (hb hby at_360) rfl (by decide) k) ?_
  show own_Fin _ _ _ _ _ _ _ _ (mkF m 363 #[.val (.int p1), .val (.long q2), .second, .val (.int p3), .val (.int aa), .val (.ref b1), .val (.int (1 : Int32))] [])
  refine own_step (fun t k => XS.iconst X25.here hx rfl (hb hby at_363) k) ?_
  show own_Fin _ _ _ _ _ _ _ _ (mkF m 364 #[.val (.int p1), .val (.long q2), .second, .val (.int p3), .val (.int aa), .val (.ref b1), .val (.int (1 : Int32))] [(.int (1 : Int32))])
  refine own_step (fun t k => XS.goto X25.here hx rfl (pc0 := 364) (pc' := 368) rfl (hb hby at_364) (by decide) (by decide) k) ?_
  show own_Fin _ _ _ _ _ _ _ _ (mkF m 368 #[.val (.int p1), .val (.long q2), .second, .val (.int p3), .val (.int aa), .val (.ref b1), .val (.int (1 : Int32))] [(.int (1 : Int32))])
  refine own_step (fun t k => XS.istore X25.here hx rfl (hb hby at_368) rfl (l' := #[.val (.int p1), .val (.long q2), .second, .val (.int p3), .val (.int aa), .val (.ref b1), .val (.int (1 : Int32))]) rfl k) ?_
  show own_Fin _ _ _ _ _ _ _ _ (mkF m 370 #[.val (.int p1), .val (.long q2), .second, .val (.int p3), .val (.int aa), .val (.ref b1), .val (.int (1 : Int32))] [])
  refine own_step (fun t k => XS.iload X25.here hx rfl (hb hby at_370) rfl k) ?_
  show own_Fin _ _ _ _ _ _ _ _ (mkF m 372 #[.val (.int p1), .val (.long q2), .second, .val (.int p3), .val (.int aa), .val (.ref b1), .val (.int (1 : Int32))] [(.int (1 : Int32))])
  refine own_step (fun t k => XS.ifNo X25.here hx rfl (hb hby at_372) rfl (by decide) k) ?_
  show own_Fin _ _ _ _ _ _ _ _ (mkF m 375 #[.val (.int p1), .val (.long q2), .second, .val (.int p3), .val (.int aa), .val (.ref b1), .val (.int (1 : Int32))] [])
  refine own_step (fun t k => XS.aload X25.here hx rfl (hb hby at_375) rfl rfl k) ?_
  show own_Fin _ _ _ _ _ _ _ _ (mkF m 377 #[.val (.int p1), .val (.long q2), .second, .val (.int p3), .val (.int aa), .val (.ref b1), .val (.int (1 : Int32))] [(.ref b1)])
  refine own_step (fun t k => XS.bipush X25.here hx rfl (hb hby at_377) k) ?_
  show own_Fin _ _ _ _ _ _ _ _ (mkF m 379 #[.val (.int p1), .val (.long q2), .second, .val (.int p3), .val (.int aa), .val (.ref b1), .val (.int (1 : Int32))] [(.int (7 : Int32)), (.ref b1)])
  refine own_step (fun t k => XS.iload X25.here hx rfl (hb hby at_379) rfl k) ?_
  show own_Fin _ _ _ _ _ _ _ _ (mkF m 381 #[.val (.int p1), .val (.long q2), .second, .val (.int p3), .val (.int aa), .val (.ref b1), .val (.int (1 : Int32))] [(.int aa), (.int (7 : Int32)), (.ref b1)])
  refine own_step (fun t k => XS.iloadN X25.here hx rfl (hb hby at_381) rfl k) ?_
  show own_Fin _ _ _ _ _ _ _ _ (mkF m 382 #[.val (.int p1), .val (.long q2), .second, .val (.int p3), .val (.int aa), .val (.ref b1), .val (.int (1 : Int32))] [(.int p3), (.int aa), (.int (7 : Int32)), (.ref b1)])
  obtain ⟨_, _, ⟨T26, L26, k26, n26⟩, -, X26, ⟨Lc26, hQ26, l26, y26, z26⟩, st26⟩ := Jvm.LawKit.callS X25 hx (y := (⟨"com/example/pcr10/pcr10/ScratchBytesPutLongPinLaw", "kept", "([BIII)Z"⟩ : MethodName)) hown (mvT hZ (hw _ (List.mem_of_getElem? (i := 10) rfl))) (mvT hZ (hw _ (List.mem_of_getElem? (i := 11) rfl))) (mvT hZ (hw _ (List.mem_of_getElem? (i := 12) rfl))) (mvT hZ (hw _ (List.mem_of_getElem? (i := 13) rfl))) (by decide) (backOf (W := 0) (rm3 l Z a0 hw [] b1 (7 : Int32) aa p3 _ T14.heap n0 Zs V_b1 (by decide) (by omega) (own_kp aa q2 gE (7 : Int32) 7 _ rfl (by omega) hgE_7)) hZ (hw _ (List.mem_of_getElem? (i := 13) rfl)) (hw _ (List.mem_of_getElem? (i := 12) rfl)) (by decide) (by decide)) (g := (mkF m 382 #[.val (.int p1), .val (.long q2), .second, .val (.int p3), .val (.int aa), .val (.ref b1), .val (.int (1 : Int32))] [(.int p3), (.int aa), (.int (7 : Int32)), (.ref b1)])) rfl (by rw [hml]; rfl) (argsL := [(.ref b1), (.int (7 : Int32)), (.int aa), (.int p3)]) (rest := []) (lenOf own_pd_2 rfl) rfl (by show 2 * 0 + _ ≤ _; exact Nat.le_of_eq rfl) (hb hby at_382) (fun _ _ => ⟨rfl, hh25, (by decide : 1 + 0 ≤ _), (by decide : 12 + 0 ≤ _)⟩)
  dsimp only [Pt.U, Pt.locs, Pt.cells, Pt.slots] at X26 l26 y26 z26 st26 hQ26
  rw [l26, y26, z26] at X26
  obtain ⟨rfl, Nq26, hh26⟩ := hQ26
  replace Nf := Fr.app Nf Nq26
  refine own_step st26 ?_
  show own_Fin _ _ _ _ _ _ _ _ (mkF m 385 #[.val (.int p1), .val (.long q2), .second, .val (.int p3), .val (.int aa), .val (.ref b1), .val (.int (1 : Int32))] [(.int (1 : Int32))])
  refine own_step (fun t k => XS.ifNo X26.here hx rfl (hb hby at_385) rfl (by decide) k) ?_
  show own_Fin _ _ _ _ _ _ _ _ (mkF m 388 #[.val (.int p1), .val (.long q2), .second, .val (.int p3), .val (.int aa), .val (.ref b1), .val (.int (1 : Int32))] [])
  refine own_step (fun t k => XS.iconst X26.here hx rfl (hb hby at_388) k) ?_
  show own_Fin _ _ _ _ _ _ _ _ (mkF m 389 #[.val (.int p1), .val (.long q2), .second, .val (.int p3), .val (.int aa), .val (.ref b1), .val (.int (1 : Int32))] [(.int (1 : Int32))])
  refine own_step (fun t k => XS.goto X26.here hx rfl (pc0 := 389) (pc' := 393) rfl (hb hby at_389) (by decide) (by decide) k) ?_
  show own_Fin _ _ _ _ _ _ _ _ (mkF m 393 #[.val (.int p1), .val (.long q2), .second, .val (.int p3), .val (.int aa), .val (.ref b1), .val (.int (1 : Int32))] [(.int (1 : Int32))])
  refine own_step (fun t k => XS.istore X26.here hx rfl (hb hby at_393) rfl (l' := #[.val (.int p1), .val (.long q2), .second, .val (.int p3), .val (.int aa), .val (.ref b1), .val (.int (1 : Int32))]) rfl k) ?_
  show own_Fin _ _ _ _ _ _ _ _ (mkF m 395 #[.val (.int p1), .val (.long q2), .second, .val (.int p3), .val (.int aa), .val (.ref b1), .val (.int (1 : Int32))] [])
  refine own_step (fun t k => XS.iload X26.here hx rfl (hb hby at_395) rfl k) ?_
  show own_Fin _ _ _ _ _ _ _ _ (mkF m 397 #[.val (.int p1), .val (.long q2), .second, .val (.int p3), .val (.int aa), .val (.ref b1), .val (.int (1 : Int32))] [(.int (1 : Int32))])
  refine own_step (fun t k => XS.ifNo X26.here hx rfl (hb hby at_397) rfl (by decide) k) ?_
  show own_Fin _ _ _ _ _ _ _ _ (mkF m 400 #[.val (.int p1), .val (.long q2), .second, .val (.int p3), .val (.int aa), .val (.ref b1), .val (.int (1 : Int32))] [])
  refine own_step (fun t k => XS.aload X26.here hx rfl (hb hby at_400) rfl rfl k) ?_
  show own_Fin _ _ _ _ _ _ _ _ (mkF m 402 #[.val (.int p1), .val (.long q2), .second, .val (.int p3), .val (.int aa), .val (.ref b1), .val (.int (1 : Int32))] [(.ref b1)])
  refine own_step (fun t k => XS.bipush X26.here hx rfl (hb hby at_402) k) ?_
  show own_Fin _ _ _ _ _ _ _ _ (mkF m 404 #[.val (.int p1), .val (.long q2), .second, .val (.int p3), .val (.int aa), .val (.ref b1), .val (.int (1 : Int32))] [(.int (8 : Int32)), (.ref b1)])
  refine own_step (fun t k => XS.iload X26.here hx rfl (hb hby at_404) rfl k) ?_
  show own_Fin _ _ _ _ _ _ _ _ (mkF m 406 #[.val (.int p1), .val (.long q2), .second, .val (.int p3), .val (.int aa), .val (.ref b1), .val (.int (1 : Int32))] [(.int aa), (.int (8 : Int32)), (.ref b1)])
  refine own_step (fun t k => XS.iloadN X26.here hx rfl (hb hby at_406) rfl k) ?_
  show own_Fin _ _ _ _ _ _ _ _ (mkF m 407 #[.val (.int p1), .val (.long q2), .second, .val (.int p3), .val (.int aa), .val (.ref b1), .val (.int (1 : Int32))] [(.int p3), (.int aa), (.int (8 : Int32)), (.ref b1)])
  obtain ⟨_, _, ⟨T27, L27, k27, n27⟩, -, X27, ⟨Lc27, hQ27, l27, y27, z27⟩, st27⟩ := Jvm.LawKit.callS X26 hx (y := (⟨"com/example/pcr10/pcr10/ScratchBytesPutLongPinLaw", "kept", "([BIII)Z"⟩ : MethodName)) hown (mvT hZ (hw _ (List.mem_of_getElem? (i := 10) rfl))) (mvT hZ (hw _ (List.mem_of_getElem? (i := 11) rfl))) (mvT hZ (hw _ (List.mem_of_getElem? (i := 12) rfl))) (mvT hZ (hw _ (List.mem_of_getElem? (i := 13) rfl))) (by decide) (backOf (W := 0) (rm3 l Z a0 hw [] b1 (8 : Int32) aa p3 _ T14.heap n0 Zs V_b1 (by decide) (by omega) (own_kp aa q2 gE (8 : Int32) 8 _ rfl (by omega) hgE_8)) hZ (hw _ (List.mem_of_getElem? (i := 13) rfl)) (hw _ (List.mem_of_getElem? (i := 12) rfl)) (by decide) (by decide)) (g := (mkF m 407 #[.val (.int p1), .val (.long q2), .second, .val (.int p3), .val (.int aa), .val (.ref b1), .val (.int (1 : Int32))] [(.int p3), (.int aa), (.int (8 : Int32)), (.ref b1)])) rfl (by rw [hml]; rfl) (argsL := [(.ref b1), (.int (8 : Int32)), (.int aa), (.int p3)]) (rest := []) (lenOf own_pd_2 rfl) rfl (by show 2 * 0 + _ ≤ _; exact Nat.le_of_eq rfl) (hb hby at_407) (fun _ _ => ⟨rfl, hh26, (by decide : 1 + 0 ≤ _), (by decide : 12 + 0 ≤ _)⟩)
  dsimp only [Pt.U, Pt.locs, Pt.cells, Pt.slots] at X27 l27 y27 z27 st27 hQ27
  rw [l27, y27, z27] at X27
  obtain ⟨rfl, Nq27, hh27⟩ := hQ27
  replace Nf := Fr.app Nf Nq27
  refine own_step st27 ?_
  show own_Fin _ _ _ _ _ _ _ _ (mkF m 410 #[.val (.int p1), .val (.long q2), .second, .val (.int p3), .val (.int aa), .val (.ref b1), .val (.int (1 : Int32))] [(.int (1 : Int32))])
  refine own_step (fun t k => XS.ifNo X27.here hx rfl (hb hby at_410) rfl (by decide) k) ?_
  show own_Fin _ _ _ _ _ _ _ _ (mkF m 413 #[.val (.int p1), .val (.long q2), .second, .val (.int p3), .val (.int aa), .val (.ref b1), .val (.int (1 : Int32))] [])
  refine own_step (fun t k => XS.iconst X27.here hx rfl (hb hby at_413) k) ?_
  show own_Fin _ _ _ _ _ _ _ _ (mkF m 414 #[.val (.int p1), .val (.long q2), .second, .val (.int p3), .val (.int aa), .val (.ref b1), .val (.int (1 : Int32))] [(.int (1 : Int32))])
  refine own_step (fun t k => XS.goto X27.here hx rfl (pc0 := 414) (pc' := 418) rfl (hb hby at_414) (by decide) (by decide) k) ?_
  show own_Fin _ _ _ _ _ _ _ _ (mkF m 418 #[.val (.int p1), .val (.long q2), .second, .val (.int p3), .val (.int aa), .val (.ref b1), .val (.int (1 : Int32))] [(.int (1 : Int32))])
  refine own_step (fun t k => XS.istore X27.here hx rfl (hb hby at_418) rfl (l' := #[.val (.int p1), .val (.long q2), .second, .val (.int p3), .val (.int aa), .val (.ref b1), .val (.int (1 : Int32))]) rfl k) ?_
  show own_Fin _ _ _ _ _ _ _ _ (mkF m 420 #[.val (.int p1), .val (.long q2), .second, .val (.int p3), .val (.int aa), .val (.ref b1), .val (.int (1 : Int32))] [])
  refine own_step (fun t k => XS.iload X27.here hx rfl (hb hby at_420) rfl k) ?_
  show own_Fin _ _ _ _ _ _ _ _ (mkF m 422 #[.val (.int p1), .val (.long q2), .second, .val (.int p3), .val (.int aa), .val (.ref b1), .val (.int (1 : Int32))] [(.int (1 : Int32))])
  refine own_step (fun t k => XS.ifNo X27.here hx rfl (hb hby at_422) rfl (by decide) k) ?_
  show own_Fin _ _ _ _ _ _ _ _ (mkF m 425 #[.val (.int p1), .val (.long q2), .second, .val (.int p3), .val (.int aa), .val (.ref b1), .val (.int (1 : Int32))] [])
  refine own_step (fun t k => XS.aload X27.here hx rfl (hb hby at_425) rfl rfl k) ?_
  show own_Fin _ _ _ _ _ _ _ _ (mkF m 427 #[.val (.int p1), .val (.long q2), .second, .val (.int p3), .val (.int aa), .val (.ref b1), .val (.int (1 : Int32))] [(.ref b1)])
  refine own_step (fun t k => XS.bipush X27.here hx rfl (hb hby at_427) k) ?_
  show own_Fin _ _ _ _ _ _ _ _ (mkF m 429 #[.val (.int p1), .val (.long q2), .second, .val (.int p3), .val (.int aa), .val (.ref b1), .val (.int (1 : Int32))] [(.int (9 : Int32)), (.ref b1)])
  refine own_step (fun t k => XS.iload X27.here hx rfl (hb hby at_429) rfl k) ?_
  show own_Fin _ _ _ _ _ _ _ _ (mkF m 431 #[.val (.int p1), .val (.long q2), .second, .val (.int p3), .val (.int aa), .val (.ref b1), .val (.int (1 : Int32))] [(.int aa), (.int (9 : Int32)), (.ref b1)])
  refine own_step (fun t k => XS.iloadN X27.here hx rfl (hb hby at_431) rfl k) ?_
  show own_Fin _ _ _ _ _ _ _ _ (mkF m 432 #[.val (.int p1), .val (.long q2), .second, .val (.int p3), .val (.int aa), .val (.ref b1), .val (.int (1 : Int32))] [(.int p3), (.int aa), (.int (9 : Int32)), (.ref b1)])
  obtain ⟨_, _, ⟨T28, L28, k28, n28⟩, -, X28, ⟨Lc28, hQ28, l28, y28, z28⟩, st28⟩ := Jvm.LawKit.callS X27 hx (y := (⟨"com/example/pcr10/pcr10/ScratchBytesPutLongPinLaw", "kept", "([BIII)Z"⟩ : MethodName)) hown (mvT hZ (hw _ (List.mem_of_getElem? (i := 10) rfl))) (mvT hZ (hw _ (List.mem_of_getElem? (i := 11) rfl))) (mvT hZ (hw _ (List.mem_of_getElem? (i := 12) rfl))) (mvT hZ (hw _ (List.mem_of_getElem? (i := 13) rfl))) (by decide) (backOf (W := 0) (rm3 l Z a0 hw [] b1 (9 : Int32) aa p3 _ T14.heap n0 Zs V_b1 (by decide) (by omega) (own_kp aa q2 gE (9 : Int32) 9 _ rfl (by omega) hgE_9)) hZ (hw _ (List.mem_of_getElem? (i := 13) rfl)) (hw _ (List.mem_of_getElem? (i := 12) rfl)) (by decide) (by decide)) (g := (mkF m 432 #[.val (.int p1), .val (.long q2), .second, .val (.int p3), .val (.int aa), .val (.ref b1), .val (.int (1 : Int32))] [(.int p3), (.int aa), (.int (9 : Int32)), (.ref b1)])) rfl (by rw [hml]; rfl) (argsL := [(.ref b1), (.int (9 : Int32)), (.int aa), (.int p3)]) (rest := []) (lenOf own_pd_2 rfl) rfl (by show 2 * 0 + _ ≤ _; exact Nat.le_of_eq rfl) (hb hby at_432) (fun _ _ => ⟨rfl, hh27, (by decide : 1 + 0 ≤ _), (by decide : 12 + 0 ≤ _)⟩)
  dsimp only [Pt.U, Pt.locs, Pt.cells, Pt.slots] at X28 l28 y28 z28 st28 hQ28
  rw [l28, y28, z28] at X28
  obtain ⟨rfl, Nq28, hh28⟩ := hQ28
  replace Nf := Fr.app Nf Nq28
  refine own_step st28 ?_
  show own_Fin _ _ _ _ _ _ _ _ (mkF m 435 #[.val (.int p1), .val (.long q2), .second, .val (.int p3), .val (.int aa), .val (.ref b1), .val (.int (1 : Int32))] [(.int (1 : Int32))])
  refine own_step (fun t k => XS.ifNo X28.here hx rfl (hb hby at_435) rfl (by decide) k) ?_
  show own_Fin _ _ _ _ _ _ _ _ (mkF m 438 #[.val (.int p1), .val (.long q2), .second, .val (.int p3), .val (.int aa), .val (.ref b1), .val (.int (1 : Int32))] [])
  refine own_step (fun t k => XS.iconst X28.here hx rfl (hb hby at_438) k) ?_
  show own_Fin _ _ _ _ _ _ _ _ (mkF m 439 #[.val (.int p1), .val (.long q2), .second, .val (.int p3), .val (.int aa), .val (.ref b1), .val (.int (1 : Int32))] [(.int (1 : Int32))])
  refine own_step (fun t k => XS.goto X28.here hx rfl (pc0 := 439) (pc' := 443) rfl (hb hby at_439) (by decide) (by decide) k) ?_
  show own_Fin _ _ _ _ _ _ _ _ (mkF m 443 #[.val (.int p1), .val (.long q2), .second, .val (.int p3), .val (.int aa), .val (.ref b1), .val (.int (1 : Int32))] [(.int (1 : Int32))])
  refine own_step (fun t k => XS.istore X28.here hx rfl (hb hby at_443) rfl (l' := #[.val (.int p1), .val (.long q2), .second, .val (.int p3), .val (.int aa), .val (.ref b1), .val (.int (1 : Int32))]) rfl k) ?_
  show own_Fin _ _ _ _ _ _ _ _ (mkF m 445 #[.val (.int p1), .val (.long q2), .second, .val (.int p3), .val (.int aa), .val (.ref b1), .val (.int (1 : Int32))] [])
  refine own_step (fun t k => XS.iload X28.here hx rfl (hb hby at_445) rfl k) ?_
  show own_Fin _ _ _ _ _ _ _ _ (mkF m 447 #[.val (.int p1), .val (.long q2), .second, .val (.int p3), .val (.int aa), .val (.ref b1), .val (.int (1 : Int32))] [(.int (1 : Int32))])
  refine own_step (fun t k => XS.ifNo X28.here hx rfl (hb hby at_447) rfl (by decide) k) ?_
  show own_Fin _ _ _ _ _ _ _ _ (mkF m 450 #[.val (.int p1), .val (.long q2), .second, .val (.int p3), .val (.int aa), .val (.ref b1), .val (.int (1 : Int32))] [])
  refine own_step (fun t k => XS.aload X28.here hx rfl (hb hby at_450) rfl rfl k) ?_
  show own_Fin _ _ _ _ _ _ _ _ (mkF m 452 #[.val (.int p1), .val (.long q2), .second, .val (.int p3), .val (.int aa), .val (.ref b1), .val (.int (1 : Int32))] [(.ref b1)])
  refine own_step (fun t k => XS.bipush X28.here hx rfl (hb hby at_452) k) ?_
  show own_Fin _ _ _ _ _ _ _ _ (mkF m 454 #[.val (.int p1), .val (.long q2), .second, .val (.int p3), .val (.int aa), .val (.ref b1), .val (.int (1 : Int32))] [(.int (10 : Int32)), (.ref b1)])
  refine own_step (fun t k => XS.iload X28.here hx rfl (hb hby at_454) rfl k) ?_
  show own_Fin _ _ _ _ _ _ _ _ (mkF m 456 #[.val (.int p1), .val (.long q2), .second, .val (.int p3), .val (.int aa), .val (.ref b1), .val (.int (1 : Int32))] [(.int aa), (.int (10 : Int32)), (.ref b1)])
  refine own_step (fun t k => XS.iloadN X28.here hx rfl (hb hby at_456) rfl k) ?_
  show own_Fin _ _ _ _ _ _ _ _ (mkF m 457 #[.val (.int p1), .val (.long q2), .second, .val (.int p3), .val (.int aa), .val (.ref b1), .val (.int (1 : Int32))] [(.int p3), (.int aa), (.int (10 : Int32)), (.ref b1)])
  obtain ⟨_, _, ⟨T29, L29, k29, n29⟩, -, X29, ⟨Lc29, hQ29, l29, y29, z29⟩, st29⟩ := Jvm.LawKit.callS X28 hx (y := (⟨"com/example/pcr10/pcr10/ScratchBytesPutLongPinLaw", "kept", "([BIII)Z"⟩ : MethodName)) hown (mvT hZ (hw _ (List.mem_of_getElem? (i := 10) rfl))) (mvT hZ (hw _ (List.mem_of_getElem? (i := 11) rfl))) (mvT hZ (hw _ (List.mem_of_getElem? (i := 12) rfl))) (mvT hZ (hw _ (List.mem_of_getElem? (i := 13) rfl))) (by decide) (backOf (W := 0) (rm3 l Z a0 hw [] b1 (10 : Int32) aa p3 _ T14.heap n0 Zs V_b1 (by decide) (by omega) (own_kp aa q2 gE (10 : Int32) 10 _ rfl (by omega) hgE_10)) hZ (hw _ (List.mem_of_getElem? (i := 13) rfl)) (hw _ (List.mem_of_getElem? (i := 12) rfl)) (by decide) (by decide)) (g := (mkF m 457 #[.val (.int p1), .val (.long q2), .second, .val (.int p3), .val (.int aa), .val (.ref b1), .val (.int (1 : Int32))] [(.int p3), (.int aa), (.int (10 : Int32)), (.ref b1)])) rfl (by rw [hml]; rfl) (argsL := [(.ref b1), (.int (10 : Int32)), (.int aa), (.int p3)]) (rest := []) (lenOf own_pd_2 rfl) rfl (by show 2 * 0 + _ ≤ _; exact Nat.le_of_eq rfl) (hb hby at_457) (fun _ _ => ⟨rfl, hh28, (by decide : 1 + 0 ≤ _), (by decide : 12 + 0 ≤ _)⟩)
  dsimp only [Pt.U, Pt.locs, Pt.cells, Pt.slots] at X29 l29 y29 z29 st29 hQ29
  rw [l29, y29, z29] at X29
  obtain ⟨rfl, Nq29, hh29⟩ := hQ29
  replace Nf := Fr.app Nf Nq29
  refine own_step st29 ?_
  show own_Fin _ _ _ _ _ _ _ _ (mkF m 460 #[.val (.int p1), .val (.long q2), .second, .val (.int p3), .val (.int aa), .val (.ref b1), .val (.int (1 : Int32))] [(.int (1 : Int32))])
  refine own_step (fun t k => XS.ifNo X29.here hx rfl (hb hby at_460) rfl (by decide) k) ?_
  show own_Fin _ _ _ _ _ _ _ _ (mkF m 463 #[.val (.int p1), .val (.long q2), .second, .val (.int p3), .val (.int aa), .val (.ref b1), .val (.int (1 : Int32))] [])
  refine own_step (fun t k => XS.iconst X29.here hx rfl (hb hby at_463) k) ?_
  show own_Fin _ _ _ _ _ _ _ _ (mkF m 464 #[.val (.int p1), .val (.long q2), .second, .val (.int p3), .val (.int aa), .val (.ref b1), .val (.int (1 : Int32))] [(.int (1 : Int32))])
  refine own_step (fun t k => XS.goto X29.here hx rfl (pc0 := 464) (pc' := 468) rfl (hb hby at_464) (by decide) (by decide) k) ?_
  show own_Fin _ _ _ _ _ _ _ _ (mkF m 468 #[.val (.int p1), .val (.long q2), .second, .val (.int p3), .val (.int aa), .val (.ref b1), .val (.int (1 : Int32))] [(.int (1 : Int32))])
  refine own_step (fun t k => XS.istore X29.here hx rfl (hb hby at_468) rfl (l' := #[.val (.int p1), .val (.long q2), .second, .val (.int p3), .val (.int aa), .val (.ref b1), .val (.int (1 : Int32))]) rfl k) ?_
  show own_Fin _ _ _ _ _ _ _ _ (mkF m 470 #[.val (.int p1), .val (.long q2), .second, .val (.int p3), .val (.int aa), .val (.ref b1), .val (.int (1 : Int32))] [])
  refine own_step (fun t k => XS.iload X29.here hx rfl (hb hby at_470) rfl k) ?_
  show own_Fin _ _ _ _ _ _ _ _ (mkF m 472 #[.val (.int p1), .val (.long q2), .second, .val (.int p3), .val (.int aa), .val (.ref b1), .val (.int (1 : Int32))] [(.int (1 : Int32))])
  refine own_step (fun t k => XS.ifNo X29.here hx rfl (hb hby at_472) rfl (by decide) k) ?_
  show own_Fin _ _ _ _ _ _ _ _ (mkF m 475 #[.val (.int p1), .val (.long q2), .second, .val (.int p3), .val (.int aa), .val (.ref b1), .val (.int (1 : Int32))] [])
  refine own_step (fun t k => XS.aload X29.here hx rfl (hb hby at_475) rfl rfl k) ?_
  show own_Fin _ _ _ _ _ _ _ _ (mkF m 477 #[.val (.int p1), .val (.long q2), .second, .val (.int p3), .val (.int aa), .val (.ref b1), .val (.int (1 : Int32))] [(.ref b1)])
  refine own_step (fun t k => XS.bipush X29.here hx rfl (hb hby at_477) k) ?_
  show own_Fin _ _ _ _ _ _ _ _ (mkF m 479 #[.val (.int p1), .val (.long q2), .second, .val (.int p3), .val (.int aa), .val (.ref b1), .val (.int (1 : Int32))] [(.int (11 : Int32)), (.ref b1)])
  refine own_step (fun t k => XS.iload X29.here hx rfl (hb hby at_479) rfl k) ?_
  show own_Fin _ _ _ _ _ _ _ _ (mkF m 481 #[.val (.int p1), .val (.long q2), .second, .val (.int p3), .val (.int aa), .val (.ref b1), .val (.int (1 : Int32))] [(.int aa), (.int (11 : Int32)), (.ref b1)])
  refine own_step (fun t k => XS.iloadN X29.here hx rfl (hb hby at_481) rfl k) ?_
  show own_Fin _ _ _ _ _ _ _ _ (mkF m 482 #[.val (.int p1), .val (.long q2), .second, .val (.int p3), .val (.int aa), .val (.ref b1), .val (.int (1 : Int32))] [(.int p3), (.int aa), (.int (11 : Int32)), (.ref b1)])
  obtain ⟨_, _, ⟨T30, L30, k30, n30⟩, -, X30, ⟨Lc30, hQ30, l30, y30, z30⟩, st30⟩ := Jvm.LawKit.callS X29 hx (y := (⟨"com/example/pcr10/pcr10/ScratchBytesPutLongPinLaw", "kept", "([BIII)Z"⟩ : MethodName)) hown (mvT hZ (hw _ (List.mem_of_getElem? (i := 10) rfl))) (mvT hZ (hw _ (List.mem_of_getElem? (i := 11) rfl))) (mvT hZ (hw _ (List.mem_of_getElem? (i := 12) rfl))) (mvT hZ (hw _ (List.mem_of_getElem? (i := 13) rfl))) (by decide) (backOf (W := 0) (rm3 l Z a0 hw [] b1 (11 : Int32) aa p3 _ T14.heap n0 Zs V_b1 (by decide) (by omega) (own_kp aa q2 gE (11 : Int32) 11 _ rfl (by omega) hgE_11)) hZ (hw _ (List.mem_of_getElem? (i := 13) rfl)) (hw _ (List.mem_of_getElem? (i := 12) rfl)) (by decide) (by decide)) (g := (mkF m 482 #[.val (.int p1), .val (.long q2), .second, .val (.int p3), .val (.int aa), .val (.ref b1), .val (.int (1 : Int32))] [(.int p3), (.int aa), (.int (11 : Int32)), (.ref b1)])) rfl (by rw [hml]; rfl) (argsL := [(.ref b1), (.int (11 : Int32)), (.int aa), (.int p3)]) (rest := []) (lenOf own_pd_2 rfl) rfl (by show 2 * 0 + _ ≤ _; exact Nat.le_of_eq rfl) (hb hby at_482) (fun _ _ => ⟨rfl, hh29, (by decide : 1 + 0 ≤ _), (by decide : 12 + 0 ≤ _)⟩)
  dsimp only [Pt.U, Pt.locs, Pt.cells, Pt.slots] at X30 l30 y30 z30 st30 hQ30
  rw [l30, y30, z30] at X30
  obtain ⟨rfl, Nq30, hh30⟩ := hQ30
  replace Nf := Fr.app Nf Nq30
  refine own_step st30 ?_
  show own_Fin _ _ _ _ _ _ _ _ (mkF m 485 #[.val (.int p1), .val (.long q2), .second, .val (.int p3), .val (.int aa), .val (.ref b1), .val (.int (1 : Int32))] [(.int (1 : Int32))])
  refine own_step (fun t k => XS.ifNo X30.here hx rfl (hb hby at_485) rfl (by decide) k) ?_
  show own_Fin _ _ _ _ _ _ _ _ (mkF m 488 #[.val (.int p1), .val (.long q2), .second, .val (.int p3), .val (.int aa), .val (.ref b1), .val (.int (1 : Int32))] [])
  refine own_step (fun t k => XS.iconst X30.here hx rfl (hb hby at_488) k) ?_
  show own_Fin _ _ _ _ _ _ _ _ (mkF m 489 #[.val (.int p1), .val (.long q2), .second, .val (.int p3), .val (.int aa), .val (.ref b1), .val (.int (1 : Int32))] [(.int (1 : Int32))])
  refine own_step (fun t k => XS.goto X30.here hx rfl (pc0 := 489) (pc' := 493) rfl (hb hby at_489) (by decide) (by decide) k) ?_
  show own_Fin _ _ _ _ _ _ _ _ (mkF m 493 #[.val (.int p1), .val (.long q2), .second, .val (.int p3), .val (.int aa), .val (.ref b1), .val (.int (1 : Int32))] [(.int (1 : Int32))])
  refine own_step (fun t k => XS.istore X30.here hx rfl (hb hby at_493) rfl (l' := #[.val (.int p1), .val (.long q2), .second, .val (.int p3), .val (.int aa), .val (.ref b1), .val (.int (1 : Int32))]) rfl k) ?_
  show own_Fin _ _ _ _ _ _ _ _ (mkF m 495 #[.val (.int p1), .val (.long q2), .second, .val (.int p3), .val (.int aa), .val (.ref b1), .val (.int (1 : Int32))] [])
  refine own_step (fun t k => XS.iload X30.here hx rfl (hb hby at_495) rfl k) ?_
  show own_Fin _ _ _ _ _ _ _ _ (mkF m 497 #[.val (.int p1), .val (.long q2), .second, .val (.int p3), .val (.int aa), .val (.ref b1), .val (.int (1 : Int32))] [(.int (1 : Int32))])
  refine own_retZ X30 hx hlk Bd.returns (hb hby at_497) (z' := (1 : Int32)) (by decide) (by decide) (by decide) hh30 ?_
  exact ⟨rfl, Nf⟩
set_option maxRecDepth 65536 in
set_option maxHeartbeats 40000000 in
theorem comes_1 {Post : Tables → Env → Array Value → State → Outcome → State → Prop} (hpost : ∀ tb e args s v u, (limb_1_1.after args s (.returned v) u = true ∧ limb_1_2.after args s (.returned v) u = true ∧ True) → FrameEnd s (.returned v) u (Jvm.fieldLocs frame_1_writes args s ++ Jvm.arrayLocs frame_1_arrays args s ++ Jvm.staticLocs frame_1_statics s) 16 128 → Post tb e args s (.returned v) u) :
    ArmFor flags0 classFile x code maxLocals ret World_1 tables_1 room_1 Calls_1 rest_1 Pre_1 Post := by
  intro l hfl _ _ p e ha hc hk s m args below hf hA hF happ hP
  obtain ⟨hcalls, hrest, hpre⟩ := hP
  obtain ⟨-, -, -, hnamed, -, -, -, hat⟩ := (Spec.applies_iff hf).mp happ
  obtain ⟨hg, hn⟩ := and_e (Cond.before_iff.mp (show (Jvm.Cond.and given_1 narrow_1).before args s = true from hpre))
  obtain ⟨g1, g2⟩ := and_e hg
  obtain ⟨g3, g4⟩ := and_e g2
  obtain ⟨g5, g6⟩ := and_e g4
  obtain ⟨w0, w1, w2, rfl⟩ : ∃ w0 w1 w2 : Value, args = #[w0, w1, w2] := by
    have hs : args.size = 3 := by simpa [Cond.value, given_1] using g1
    obtain ⟨L⟩ := args
    match L, hs with
    | [w0, w1, w2], _ => exact ⟨w0, w1, w2, rfl⟩
  have hw := fun d (hd : d ∈ tables_1) => atoms_spec (ws := Jvm.Cond.code x code maxLocals ret :: tables_1) hat d (List.mem_cons_of_mem _ hd)
  obtain ⟨i0, ei0⟩ := is_v g3
  obtain rfl : w0 = (.int i0) := Option.some.inj ei0
  obtain ⟨i1, ei1⟩ := isL_v g5
  obtain rfl : w1 = (.long i1) := Option.some.inj ei1
  obtain ⟨i2, ei2⟩ := is_v g6
  obtain rfl : w2 = (.int i2) := Option.some.inj ei2
  obtain ⟨n, o, h1, h2, h3, _, L, rfl, ⟨rfl, N⟩, hq⟩ := rm0 l s _ hw tables_1 i0 i1 i2 s.heap s.heap.size (Nat.le_refl _) p e ha hc hk s m _ below hf ((Spec.applies_iff_loose hf).mp happ).1 ⟨rfl, State.Warmed39.refl s, rfl⟩ trivial
  refine ⟨n, _, h1, h2, h3, hpost _ _ _ _ _ _ ⟨Cond.after_iff.mpr rfl, Cond.after_iff.mpr (eq_i res_at (Term.int_eval (1)) rfl), trivial⟩ ⟨hq.1, hq.2.1, (hq.2.2.sift fun y hy => Or.inr (N y hy)).mono (by decide) (by decide)⟩⟩
theorem main_1_1 : Claimed_1_1 := comes_1 fun _ _ _ _ _ _ h hF => ⟨h.1, hF⟩
theorem main_1_2 : Claimed_1_2 := comes_1 fun _ _ _ _ _ _ h hF => ⟨h.2.1, hF⟩
end Jvm.Pilot.@@N@@
namespace Jvm.Pilot.@@N@@
open Jvm Jvm.ClassFile Sem Op Lib Jvm.Free Jvm.Stand Jvm.Pilot.@@N@@.Jvm.D
/-! MADE BY PROGRAM (witnessworld.py) out of the Statement's table words and the real class files: 9 classes; the members and pool entries that the words name. The judged class is class 1, her method 2. -/
namespace start1
open Jvm.ClassFile
def u (s : String) : CpInfo := .utf8 (stringToUtf16 s)
/-- a pool by its gaps: so many unusable entries, then the entry; so many at the end -/
def gap : Nat → List CpInfo → List CpInfo
  | 0, r => r
  | n + 1, r => .unusable :: gap n r
def poolList (es : List (Nat × CpInfo)) (last : Nat) : List CpInfo := es.foldr (fun e r => gap e.1 (e.2 :: r)) (gap last [])
def pool (es : List (Nat × CpInfo)) (last : Nat) : Array CpInfo := ⟨poolList es last⟩
def fileOf (pool : Array CpInfo) (this : Nat) (attrs : Array Attribute := #[]) (ms : Array MethodInfo := #[]) (fl : Nat := 33) (sup : Nat := 0) (ifs : Array Nat := #[]) (fds : Array FieldInfo := #[]) : ClassFile where
  minorVersion := 0
  majorVersion := 65
  constantPool := pool
  accessFlags := fl
  thisClass := this
  superClass := sup
  interfaces := ifs
  fields := fds
  methods := ms
  attributes := attrs
def plain (name : String) (sup : Option ClassId) : Class where
  name := name
  kind := .ordinary
  loader := none
  accessFlags := 33
  super := sup
  interfaces := #[]
  cf := none
  fields := #[]
  methods := #[]
  instanceTypes := #[]
  staticTypes := #[]
  resolved := #[]
  callSites := []
  init := .initialized
  statics := none
  mirror := none

def pool0 : Array CpInfo := pool [(5, u "<init>"), (0, u "()V"), (1, .class_ 10), (1, u "java/lang/Object")] 113

def k0m0 : Method := { name := "<init>", desc := "()V", sig := { parameters := [], returnType := none }, accessFlags := 1, code := none }
/-- java/lang/Object -/
def k0 : Class := { plain "java/lang/Object" none with
  accessFlags := 33
  interfaces := #[]
  cf := some (fileOf pool0 8 #[] #[{ accessFlags := 1, nameIndex := 5, descriptorIndex := 6, attributes := #[] }] 33 0 #[] #[])
  fields := #[]
  methods := #[k0m0]
  instanceTypes := #[]
  staticTypes := #[]
  resolved := Array.replicate 124 none
  statics := none }

def pool1 : Array CpInfo := pool [(2, .class_ 4), (1, u "java/lang/Object"), (0, u "<init>"), (0, u "()V"), (0, .integer 2147483647), (0, .methodref 9 10), (0, .class_ 11), (0, .nameAndType 12 13), (0, u "com/example/pcr10/pcr10/ScratchBytes"), (0, u "putLong"), (0, u "([BIJ)V"), (0, .methodref 9 15), (0, .nameAndType 16 17), (0, u "longAt"), (0, u "([BI)J"), (0, .methodref 19 20), (0, .class_ 21), (0, .nameAndType 22 23), (0, u "com/example/pcr10/pcr10/ScratchBytesPutLongPinLaw"), (0, u "kept"), (0, u "([BIII)Z"), (3, u "law"), (0, u "(IJI)Z")] 4

def k1m0 : Method := { name := "<init>", desc := "()V", sig := { parameters := [], returnType := none }, accessFlags := 1, code := none }
def k1c1 : Code := { maxStack := 3, maxLocals := 4, code := method_2_code, exceptionTable := #[], attributes := #[] }
def k1m1 : Method := { name := "kept", desc := "([BIII)Z", sig := { parameters := [(.array .byte), .int, .int, .int], returnType := some .boolean }, accessFlags := 10, code := some k1c1 }
def k1c2 : Code := { maxStack := 4, maxLocals := 7, code := code, exceptionTable := #[], attributes := #[] }
def k1m2 : Method := { name := "law", desc := "(IJI)Z", sig := { parameters := [.int, .long, .int], returnType := some .boolean }, accessFlags := 9, code := some k1c2 }
/-- com/example/pcr10/pcr10/ScratchBytesPutLongPinLaw -/
def k1 : Class := { plain "com/example/pcr10/pcr10/ScratchBytesPutLongPinLaw" (some 0) with
  accessFlags := 49
  interfaces := #[]
  cf := some (fileOf pool1 19 #[] #[{ accessFlags := 1, nameIndex := 5, descriptorIndex := 6, attributes := #[] }, { accessFlags := 10, nameIndex := 22, descriptorIndex := 23, attributes := #[] }, { accessFlags := 9, nameIndex := 27, descriptorIndex := 28, attributes := #[] }] 49 2 #[] #[])
  fields := #[]
  methods := #[k1m0, k1m1, k1m2]
  instanceTypes := #[]
  staticTypes := #[]
  resolved := Array.replicate 33 none
  statics := none }

def pool2 : Array CpInfo := pool [(2, .class_ 4), (1, u "java/lang/Object"), (3, .class_ 10), (1, u "com/example/pcr10/pcr10/ScratchBytes"), (0, u "bytes"), (0, u "[B"), (2, u "next"), (0, u "I"), (2, u "putLong"), (0, u "([BIJ)V"), (10, u "longAt"), (0, u "([BI)J"), (0, .long 255)] 16

def k2c0 : Code := { maxStack := 6, maxLocals := 2, code := prog_24_method_10_code, exceptionTable := #[], attributes := #[] }
def k2m0 : Method := { name := "longAt", desc := "([BI)J", sig := { parameters := [(.array .byte), .int], returnType := some .long }, accessFlags := 8, code := some k2c0 }
def k2c1 : Code := { maxStack := 5, maxLocals := 4, code := prog_24_method_11_code, exceptionTable := #[], attributes := #[] }
def k2m1 : Method := { name := "putLong", desc := "([BIJ)V", sig := { parameters := [(.array .byte), .int, .long], returnType := none }, accessFlags := 8, code := some k2c1 }
/-- com/example/pcr10/pcr10/ScratchBytes -/
def k2 : Class := { plain "com/example/pcr10/pcr10/ScratchBytes" (some 0) with
  accessFlags := 48
  interfaces := #[]
  cf := some (fileOf pool2 8 #[] #[{ accessFlags := 8, nameIndex := 31, descriptorIndex := 32, attributes := #[] }, { accessFlags := 8, nameIndex := 19, descriptorIndex := 20, attributes := #[] }] 48 2 #[] #[{ accessFlags := 18, nameIndex := 11, descriptorIndex := 12, attributes := #[] }, { accessFlags := 2, nameIndex := 15, descriptorIndex := 16, attributes := #[] }])
  fields := #[{ name := "bytes", type := (.array .byte), accessFlags := 18, slot := 0, constantValue := 0 }, { name := "next", type := .int, accessFlags := 2, slot := 1, constantValue := 0 }]
  methods := #[k2m0, k2m1]
  instanceTypes := #[(.array .byte), .int]
  staticTypes := #[]
  resolved := Array.replicate 50 none
  statics := none }

def pool3 : Array CpInfo := pool [(1, u "java/lang/Cloneable"), (0, .class_ 1), (0, u "java/lang/Object"), (0, .class_ 3)] 3

/-- java/lang/Cloneable -/
def k3 : Class := { plain "java/lang/Cloneable" (some 0) with
  accessFlags := 1537
  interfaces := #[]
  cf := some (fileOf pool3 2 #[] #[] 1537 4 #[] #[])
  fields := #[]
  methods := #[]
  instanceTypes := #[]
  staticTypes := #[]
  resolved := Array.replicate 8 none
  statics := none }

def pool4 : Array CpInfo := pool [(1, u "java/io/Serializable"), (0, .class_ 1), (0, u "java/lang/Object"), (0, .class_ 3)] 3

/-- java/io/Serializable -/
def k4 : Class := { plain "java/io/Serializable" (some 0) with
  accessFlags := 1537
  interfaces := #[]
  cf := some (fileOf pool4 2 #[] #[] 1537 4 #[] #[])
  fields := #[]
  methods := #[]
  instanceTypes := #[]
  staticTypes := #[]
  resolved := Array.replicate 8 none
  statics := none }

/-- the primitive byte -/
def k5 : Class := { plain "byte" none with kind := .primitive 'B', accessFlags := 0x411 }
/-- [B -/
def k6 : Class := { plain "[B" (some 0) with kind := .array 5 .byte, interfaces := #[3, 4], accessFlags := 1041 }

/-- the primitive int -/
def k7 : Class := { plain "int" none with kind := .primitive 'I', accessFlags := 0x411 }
/-- [I -/
def k8 : Class := { plain "[I" (some 0) with kind := .array 7 .int, interfaces := #[3, 4], accessFlags := 1041 }

def heap : Heap := #[]
def classes : Array Class := #[k0, k1, k2, k3, k4, k5, k6, k7, k8]
def interned : List (Array UInt16 × Addr) := []
def slotsUsed : Nat := 0
def theMethod : MethodId := ⟨1, 2⟩
def args0 : Array Value := #[.int 5, .long 7, .int 5]
def aboutOver (below : List Frame) : State where
  vm := { classes := classes, interned := interned.toArray }
  heap := heap
  slotsUsed := slotsUsed
  threads := #[{ frames := .invoking theMethod args0 :: below }]
def below0 : List Frame := [.native { method := ⟨0, 0⟩, args := #[] }]
def about1 : State := aboutOver below0
def p0 : Program := .bare "" "" ""
def e0 : Env := launch0.env 0 0 0
theorem w_frames : about1.frames = Frame.invoking theMethod args0 :: below0 := rfl
set_option maxRecDepth 65536 in
theorem w_args : argsFit about1.vm theMethod args0 = true := by decide +kernel
set_option maxRecDepth 65536 in
theorem w_heap : heapFits about1 = true := by decide +kernel
set_option maxRecDepth 65536 in
theorem w_runnable : about1.curStatus? = some .runnable := by decide +kernel
set_option maxRecDepth 65536 in
theorem w_alone : about1.alone = true := by decide +kernel
set_option maxRecDepth 65536 in
theorem w_named : about1.methodNamed? x = some theMethod := by decide +kernel
set_option maxRecDepth 65536 in
theorem w_hears : about1.hears theMethod below0 = true := by decide +kernel
set_option maxRecDepth 65536 in
theorem w_ripe : about1.ripe theMethod args0 below0 = true := by decide +kernel
theorem w_running : about1.status = .running := rfl
set_option maxRecDepth 65536 in
theorem w_room : about1.hasRoom e0.platform room_1 = true :=
  launch0.hasRoom_least _ room_1 (by decide +kernel) (by decide +kernel) (by decide +kernel) (by decide +kernel) (by decide +kernel) (by decide +kernel)
theorem allAtoms_all (ts : List Jvm.Cond) (a : Array Jvm.Value) (st : Jvm.State) : (allAtoms ts).before a st = ts.all (fun c => c.before a st) := by
  induction ts with
  | nil => rfl
  | cons c t ih =>
    show (Jvm.Cond.and c (allAtoms t)).before a st = _
    rw [Jvm.Cond.before_and, ih, List.all_cons]
def words1 : List Jvm.Cond := Jvm.Cond.code x code maxLocals ret :: tables_1
/-- a 'code' word, met by the world's own term for the bytes: nothing is compared byte by byte -/
theorem code_word {y : MethodName} {bytes : ByteArray} {mx : Nat} {rt : Option FieldType} {a : Array Value} {s : State} {m : MethodId} {meth : Method} {c : Code} (h1 : s.methodNamed? y = some m) (h2 : s.vm.method? m = some meth) (h3 : meth.code = some c) (h4 : c.code = bytes)
    (h5 : (c.maxLocals == mx && c.exceptionTable.isEmpty && decide (c.maxStack ≤ mostOperands) && decide (meth.sig.returnType = rt) && !meth.locks && decide (parseMethodDescriptor y.desc = some meth.sig)) = true) : (Jvm.Cond.code y bytes mx rt).before a s = true := by
  simp only [Bool.and_eq_true, beq_iff_eq, Bool.not_eq_true', decide_eq_true_eq] at h5
  obtain ⟨⟨⟨⟨⟨g1, g2⟩, g3⟩, g4⟩, g5⟩, g6⟩ := h5
  simp [Cond.before, Cond.holds, Cond.value, h1, h2, h3, h4, g1, g2, g3, g4, g5, g6]
def isCode : Jvm.Cond → Bool
  | .code _ _ _ _ => true
  | _ => false
theorem all_split {L : List Jvm.Cond} {P : Jvm.Cond → Bool} (h1 : L.all (fun c => isCode c || P c) = true) (h2 : ∀ c ∈ L.filter isCode, P c = true) : L.all P = true := by
  refine List.all_eq_true.mpr fun c hc => ?_
  have h := List.all_eq_true.mp h1 c hc
  rcases Bool.eq_false_or_eq_true (isCode c) with hi | hi
  · exact h2 c (List.mem_filter.mpr ⟨hc, hi⟩)
  · simpa [hi] using h
set_option maxRecDepth 65536 in
theorem w_c0 : (Jvm.Cond.code x code maxLocals ret).before args0 about1 = true := code_word (m := ⟨1, 2⟩) (meth := k1m2) (c := k1c2) (by decide +kernel) rfl rfl rfl (by decide +kernel)
set_option maxRecDepth 65536 in
theorem w_c1 : (Jvm.Cond.code ({ cls := "com/example/pcr10/pcr10/ScratchBytes", name := "putLong", desc := "([BIJ)V" } : Jvm.MethodName) prog_24_method_11_code (4 : Nat) (Option.none : Option Jvm.ClassFile.FieldType)).before args0 about1 = true := code_word (m := ⟨2, 1⟩) (meth := k2m1) (c := k2c1) (by decide +kernel) rfl rfl rfl (by decide +kernel)
set_option maxRecDepth 65536 in
theorem w_c2 : (Jvm.Cond.code ({ cls := "com/example/pcr10/pcr10/ScratchBytes", name := "longAt", desc := "([BI)J" } : Jvm.MethodName) prog_24_method_10_code (2 : Nat) (Option.some Jvm.ClassFile.FieldType.long)).before args0 about1 = true := code_word (m := ⟨2, 0⟩) (meth := k2m0) (c := k2c0) (by decide +kernel) rfl rfl rfl (by decide +kernel)
set_option maxRecDepth 65536 in
theorem w_c3 : (Jvm.Cond.code ({ cls := "com/example/pcr10/pcr10/ScratchBytesPutLongPinLaw", name := "kept", desc := "([BIII)Z" } : Jvm.MethodName) method_2_code (4 : Nat) (Option.some Jvm.ClassFile.FieldType.boolean)).before args0 about1 = true := code_word (m := ⟨1, 1⟩) (meth := k1m1) (c := k1c1) (by decide +kernel) rfl rfl rfl (by decide +kernel)
def codes1 : List Jvm.Cond := [Jvm.Cond.code x code maxLocals ret, Jvm.Cond.code ({ cls := "com/example/pcr10/pcr10/ScratchBytes", name := "putLong", desc := "([BIJ)V" } : Jvm.MethodName) prog_24_method_11_code (4 : Nat) (Option.none : Option Jvm.ClassFile.FieldType), Jvm.Cond.code ({ cls := "com/example/pcr10/pcr10/ScratchBytes", name := "longAt", desc := "([BI)J" } : Jvm.MethodName) prog_24_method_10_code (2 : Nat) (Option.some Jvm.ClassFile.FieldType.long), Jvm.Cond.code ({ cls := "com/example/pcr10/pcr10/ScratchBytesPutLongPinLaw", name := "kept", desc := "([BIII)Z" } : Jvm.MethodName) method_2_code (4 : Nat) (Option.some Jvm.ClassFile.FieldType.boolean)]
set_option maxRecDepth 65536 in
theorem codes_eq : words1.filter isCode = codes1 := rfl
theorem w_codes : ∀ c ∈ words1.filter isCode, c.before args0 about1 = true := by
  rw [codes_eq]
  intro c hc
  simp only [codes1, List.mem_cons, List.not_mem_nil, or_false] at hc
  rcases hc with rfl | rfl | rfl | rfl
  · exact w_c0
  · exact w_c1
  · exact w_c2
  · exact w_c3
set_option maxRecDepth 65536 in
theorem w_t1 : words1.all (fun c => isCode c || c.before args0 about1) = true := by decide +kernel
theorem w_tables : (allAtoms (Jvm.Cond.code x code maxLocals ret :: tables_1)).before args0 about1 = true := by
  rw [allAtoms_all]
  show words1.all (fun c => c.before args0 about1) = true
  refine all_split ?_ w_codes
  rw [w_t1]
set_option maxRecDepth 65536 in
theorem w_case : (Jvm.Cond.and given_1 narrow_1).before args0 about1 = true := by decide +kernel
theorem w_applies : (headSpec (Jvm.Cond.code x code maxLocals ret :: tables_1) room_1).applies x e0.platform about1 = true :=
  (Spec.applies_iff w_frames).mpr ⟨w_running, w_runnable, w_alone, w_named, w_hears, w_ripe, w_room, w_tables⟩
theorem atStart : AtStart classFile x code maxLocals ret World_1 tables_1 room_1 Calls_1 rest_1 Pre_1 launch0 p0 e0 about1 theMethod args0 below0 :=
  ⟨lists_1, trivial, launch0.admits_env _ _ _, launch0.least_env, fairChoices_fair.cas, fairChoices_fair.clock, w_frames, w_args, w_heap, w_applies, trivial, trivial, w_case⟩
end start1
theorem witness_1 : WitnessClaimed_1 := ⟨start1.p0, start1.e0, start1.about1, start1.theMethod, start1.args0, start1.below0, start1.atStart⟩
end Jvm.Pilot.@@N@@
