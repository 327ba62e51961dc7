import JvmDerived
import JvmDerived.Pilot.@@N@@Statement
import JvmDerived.Pilot.@@N@@Code
set_option linter.unusedVariables false
set_option linter.unusedSimpArgs false
namespace Jvm.Pilot.@@N@@
open Jvm Jvm.ClassFile Sem Op Lib Jvm.Free Jvm.Stand Jvm.LawKit Jvm.RoadKit Bundle Jvm.Pilot.@@N@@.Jvm.D
/-! Own kit. own_Fin: from this frame the run comes to the method's end, and Q holds of what it leaves. -/
def own_Fin (p : Program) (e : Env) (below : List Frame) (s : State) (Q : Option Value → Heap → List Loc → Prop) (cl sl : Nat) (T : State) (f : JFrame) : Prop :=
  ∃ s₂ o, Steps p.tables e below (T.setTop f) s₂ ∧ s₂.status = .running ∧ Ended s₂ below o ∧ (∃ v L, o = .returned v ∧ Q v s₂.heap L ∧ FrameEnd s o s₂ L cl sl)
section OwnKit
variable {p : Program} {l : Launch} {e : Env} {R : Room} {s : State} {m : MethodId} {args : Array Value} {below : List Frame} {meth : Method} {c : Code} {T : State} {locs : List Loc} {cells slots : Nat} {Q : Option Value → Heap → List Loc → Prop} {cl sl : Nat} {Z : State} {a0 : Array Value} {h h' : Heap} {a b : Addr}
theorem own_step {T' : State} {f f' : JFrame} (k : ∀ t, Steps p.tables e below (T'.setTop f') t → Steps p.tables e below (T.setTop f) t) (r : own_Fin p e below s Q cl sl T' f') : own_Fin p e below s Q cl sl T f := by
  obtain ⟨s₂, o, h1, h2⟩ := r
  exact ⟨s₂, o, k _ h1, h2⟩
theorem own_stepT {T' : State} {f f' : JFrame} (k : Steps p.tables e below (T.setTop f) (T'.setTop f')) (r : own_Fin p e below s Q cl sl T' f') : own_Fin p e below s Q cl sl T f := by
  obtain ⟨s₂, o, h1, h2⟩ := r
  exact ⟨s₂, o, k.trans h1, h2⟩
theorem own_retZ (X : Stand p l e R s m args below meth c T locs cells slots) (hx : p.tables.exec = Jvm.exec) (hlocks : meth.locks = false) (hret : meth.sig.returnType = some .boolean) {pc : Nat} {Ls : Array Slot} {z z' : Int32} {rest : List Value} (hd : decode c.code pc = .ok (.ireturn, 1))
    (hn : nar .boolean z = z') (hc : cells ≤ cl) (hs : slots ≤ sl) (hT : T.heap = h) (hq : Q (some (.int z')) h locs) : own_Fin p e below s Q cl sl T (mkF m pc Ls (.int z :: rest)) := by
  subst hn hT
  obtain ⟨fs, hr, hrun, hended, hW, hsame⟩ := X.leave (v := some (.int (nar .boolean z))) (fun h => by rw [hret] at h; cases h)
  exact ⟨_, _, retN X hx hret (by simp) hd hr, hrun, hended, _, _, rfl, hq, ⟨_, rfl⟩, hW, hsame.mono hc hs⟩
theorem own_retI (X : Stand p l e R s m args below meth c T locs cells slots) (hx : p.tables.exec = Jvm.exec) (hlocks : meth.locks = false) (hret : meth.sig.returnType = some .int) {pc : Nat} {Ls : Array Slot} {z : Int32} {rest : List Value} (hd : decode c.code pc = .ok (.ireturn, 1))
    (hc : cells ≤ cl) (hs : slots ≤ sl) (hT : T.heap = h) (hq : Q (some (.int z)) h locs) : own_Fin p e below s Q cl sl T (mkF m pc Ls (.int z :: rest)) := by
  subst hT
  obtain ⟨fs, hr, hrun, hended, hW, hsame⟩ := X.leave (v := some (.int z)) (fun h => by rw [hret] at h; cases h)
  refine ⟨_, _, ?_, hrun, hended, _, _, rfl, hq, ⟨_, rfl⟩, hW, hsame.mono hc hs⟩
  have hm' : T.vm.method? m = some meth := X.method'
  have hn : narrow .int (.int z) = .int z := rfl
  show Steps p.tables e below (T.setTop { method := m, pc := pc, locals := Ls, stack := _ :: rest, locked := none }) _
  jvm_step X.here [X.here.top, hx, hd, hm', hret, hn]
  first | (intro acts; rw [hr _ acts rfl rfl rfl]) | rw [hr _ _ rfl rfl rfl]
  exact Steps.refl _
theorem own_retJ (X : Stand p l e R s m args below meth c T locs cells slots) (hx : p.tables.exec = Jvm.exec) (hlocks : meth.locks = false) (hret : meth.sig.returnType = some .long) {pc : Nat} {Ls : Array Slot} {z : Int64} (hd : decode c.code pc = .ok (.lreturn, 1))
    (hc : cells ≤ cl) (hs : slots ≤ sl) (hT : T.heap = h) (hq : Q (some (.long z)) h locs) : own_Fin p e below s Q cl sl T (mkF m pc Ls [.long z]) := by
  subst hT
  obtain ⟨fs, hr, hrun, hended, hW, hsame⟩ := X.leave (v := some (.long z)) (fun h => by rw [hret] at h; cases h)
  exact ⟨_, _, X.lreturnOut hx hret hd hr, hrun, hended, _, _, rfl, hq, ⟨_, rfl⟩, hW, hsame.mono hc hs⟩
theorem own_retV (X : Stand p l e R s m args below meth c T locs cells slots) (hx : p.tables.exec = Jvm.exec) (hlocks : meth.locks = false) (hret : meth.sig.returnType = none) {pc : Nat} {Ls : Array Slot} (hd : decode c.code pc = .ok (.return_, 1))
    (hc : cells ≤ cl) (hs : slots ≤ sl) (hT : T.heap = h) (hq : Q none h locs) : own_Fin p e below s Q cl sl T (mkF m pc Ls []) := by
  subst hT
  obtain ⟨fs, hr, hrun, hended, hW, hsame⟩ := X.leave (v := none) (fun _ => rfl)
  exact ⟨_, _, X.returnOut hx hret hd hr, hrun, hended, _, _, rfl, hq, ⟨_, rfl⟩, hW, hsame.mono hc hs⟩
theorem own_retR (X : Stand p l e R s m args below meth c T locs cells slots) (hx : p.tables.exec = Jvm.exec) (hlocks : meth.locks = false) {t : FieldType} (hret : meth.sig.returnType = some t) (ht : t.isReference = true) {pc : Nat} {Ls : Array Slot} {z : Value} (hz : z.isRef = true) (hd : decode c.code pc = .ok (.areturn, 1))
    (hc : cells ≤ cl) (hs : slots ≤ sl) (hT : T.heap = h) (hq : Q (some z) h locs) : own_Fin p e below s Q cl sl T (mkF m pc Ls [z]) := by
  subst hT
  obtain ⟨fs, hr, hrun, hended, hW, hsame⟩ := X.leave (v := some z) (fun h => by rw [hret] at h; cases h)
  refine ⟨_, _, ?_, hrun, hended, _, _, rfl, hq, ⟨_, rfl⟩, hW, hsame.mono hc hs⟩
  have hm' : T.vm.method? m = some meth := X.method'
  jvm_step X.here [X.here.top, hx, hd, hm', hret, ht, hz]
  first | (intro acts; rw [hr _ acts rfl rfl rfl]) | rw [hr _ _ rfl rfl rfl]
  exact Steps.refl _
/-! comparisons, said over Int -/
theorem own_cl {x y : Int32} {a b : Int} (ha : x.toInt = a) (hb : y.toInt = b) (h : a < b) : if_icmp.holds .lt x y = true ∧ if_icmp.holds .ge x y = false ∧ if_icmp.holds .gt y x = true ∧ if_icmp.holds .le y x = false := tlt (by rw [Int32.lt_iff_toInt_lt, ha, hb]; exact h)
theorem own_cn {x y : Int32} {a b : Int} (ha : x.toInt = a) (hb : y.toInt = b) (h : ¬ a < b) : if_icmp.holds .lt x y = false ∧ if_icmp.holds .ge x y = true ∧ if_icmp.holds .gt y x = false ∧ if_icmp.holds .le y x = true := flt (by rw [Int32.lt_iff_toInt_lt, ha, hb]; exact h)
theorem own_ce {x y : Int32} {a b : Int} (ha : x.toInt = a) (hb : y.toInt = b) (h : a = b) : if_icmp.holds .eq x y = true ∧ if_icmp.holds .ne x y = false := teq (by rw [← Int32.toInt_inj, ha, hb]; exact h)
theorem own_cu {x y : Int32} {a b : Int} (ha : x.toInt = a) (hb : y.toInt = b) (h : ¬ a = b) : if_icmp.holds .eq x y = false ∧ if_icmp.holds .ne x y = true := feq (by rw [← Int32.toInt_inj, ha, hb]; exact h)
theorem own_ll {x y : Int64} {a b : Int} (ha : x.toInt = a) (hb : y.toInt = b) (h : a < b) : ifCond.holds .lt (lcmpW x y) = true ∧ ifCond.holds .ge (lcmpW x y) = false ∧ ifCond.holds .gt (lcmpW y x) = true ∧ ifCond.holds .le (lcmpW y x) = false := by
  have q : x < y := by rw [Int64.lt_iff_toInt_lt, ha, hb]; exact h
  have h1 := tlt ((lw_lt x y).mpr q)
  have h2 := tlt ((lw_gt y x).mpr q)
  exact ⟨(if0 _ _).trans h1.1, (if0 _ _).trans h1.2.1, (if0 _ _).trans h2.2.2.1, (if0 _ _).trans h2.2.2.2⟩
theorem own_ln {x y : Int64} {a b : Int} (ha : x.toInt = a) (hb : y.toInt = b) (h : ¬ a < b) : ifCond.holds .lt (lcmpW x y) = false ∧ ifCond.holds .ge (lcmpW x y) = true ∧ ifCond.holds .gt (lcmpW y x) = false ∧ ifCond.holds .le (lcmpW y x) = true := by
  have q : ¬ x < y := by rw [Int64.lt_iff_toInt_lt, ha, hb]; exact h
  have h1 := flt (fun r => q ((lw_lt x y).mp r))
  have h2 := flt (fun r => q ((lw_gt y x).mp r))
  exact ⟨(if0 _ _).trans h1.1, (if0 _ _).trans h1.2.1, (if0 _ _).trans h2.2.2.1, (if0 _ _).trans h2.2.2.2⟩
theorem own_le {x y : Int64} {a b : Int} (ha : x.toInt = a) (hb : y.toInt = b) (h : a = b) : ifCond.holds .eq (lcmpW x y) = true ∧ ifCond.holds .ne (lcmpW x y) = false := by
  have q : x = y := by rw [← Int64.toInt_inj, ha, hb]; exact h
  have h1 := teq ((lw_eq x y).mpr q)
  exact ⟨(if0 _ _).trans h1.1, (if0 _ _).trans h1.2⟩
theorem own_lu {x y : Int64} {a b : Int} (ha : x.toInt = a) (hb : y.toInt = b) (h : ¬ a = b) : ifCond.holds .eq (lcmpW x y) = false ∧ ifCond.holds .ne (lcmpW x y) = true := by
  have q : ¬ x = y := by rw [← Int64.toInt_inj, ha, hb]; exact h
  have h1 := feq (fun r => q ((lw_eq x y).mp r))
  exact ⟨(if0 _ _).trans h1.1, (if0 _ _).trans h1.2⟩
/-! a boolean as an int -/
abbrev own_B (r : Int32) (P : Prop) : Prop := (r.toInt = 1 ∧ P) ∨ (r.toInt = 0 ∧ ¬ P)
theorem own_B1 {P : Prop} (h : P) : own_B 1 P := Or.inl ⟨rfl, h⟩
theorem own_B0 {P : Prop} (h : ¬ P) : own_B 0 P := Or.inr ⟨rfl, h⟩
theorem own_B.lit {r : Int32} {P : Prop} (H : own_B r P) : (r = 1 ∧ P) ∨ (r = 0 ∧ ¬ P) := by
  rcases H with ⟨q, h⟩ | ⟨q, h⟩
  · exact Or.inl ⟨Int32.toInt_inj.mp q, h⟩
  · exact Or.inr ⟨Int32.toInt_inj.mp q, h⟩
/-! arrays: their length and what each place holds -/
def own_A (Z : State) (h : Heap) (a : Addr) (ty : FieldType) (n : Nat) (f : Nat → Value) : Prop := ∃ c : Cell, Arr Z h a c ty ∧ c.slots.size = n ∧ ∀ i, i < n → c.slots[i]? = some (f i)
def own_AI (Z : State) (h : Heap) (a : Addr) (ty : FieldType) (n : Nat) (f : Nat → Int32) : Prop := own_A Z h a ty n (fun i => .int (f i))
def own_AJ (Z : State) (h : Heap) (a : Addr) (n : Nat) (f : Nat → Int64) : Prop := own_A Z h a .long n (fun i => .long (f i))
variable {ty : FieldType} {n : Nat} {fv : Nat → Value} {fi : Nat → Int32} {fj : Nat → Int64}
theorem own_A.lt (F : own_A Z h a ty n fv) : a < h.size := by obtain ⟨c, A, -⟩ := F; exact A.lt
theorem own_A.ext (F : own_A Z h a ty n fv) (E : Ext h h') : own_A Z h' a ty n fv := by obtain ⟨c, A, r⟩ := F; exact ⟨c, A.ext E, r⟩
theorem own_A.other {sl : Nat} {v : Value} (F : own_A Z h a ty n fv) (W : Wr h h' b sl v) (q : a ≠ b) : own_A Z h' a ty n fv := by obtain ⟨c, A, r⟩ := F; exact ⟨c, A.other W q, r⟩
theorem own_A.keep {ws : List Addr} (F : own_A Z h a ty n fv) (K : Keep h h' ws) (q : a ∉ ws) : own_A Z h' a ty n fv := by obtain ⟨c, A, r⟩ := F; exact ⟨c, ⟨K.2.1 a c A.1 q, A.2⟩, r⟩
theorem own_A.congr {gv : Nat → Value} (F : own_A Z h a ty n fv) (q : ∀ i, i < n → fv i = gv i) : own_A Z h a ty n gv := by obtain ⟨c, A, r, t⟩ := F; exact ⟨c, A, r, fun i hi => by rw [t i hi, q i hi]⟩
theorem own_A.set {j : Nat} {v : Value} (F : own_A Z h a ty n fv) (W : Wr h h' a j v) : own_A Z h' a ty n (fun i => if i = j then v else fv i) := by
  obtain ⟨c, A, r, t⟩ := F
  have W0 := W
  obtain ⟨c2, h1, -, h3, -⟩ := W0
  have ec : c2 = c := Option.some.inj (h1.symm.trans A.1)
  subst ec
  refine ⟨_, A.same W, by rw [sz_set]; exact r, fun i hi => ?_⟩
  by_cases q : i = j
  · subst q; simp [Cell.setSlot, h3]
  · simp only [q, if_false]; rw [← t i hi]; simp only [Cell.setSlot]; exact Array.getElem?_setIfInBounds_ne fun z => q z.symm
theorem own_A.new {k : ClassId} {z : Int32} (A : Arr Z h a (newA k ty z) ty) (q : z.toNatClampNeg = n) : own_A Z h a ty n (fun _ => defaultValue ty) := by
  subst q
  exact ⟨_, A, sz_new _ _ _, fun i hi => by simp [newA, hi]⟩
theorem own_AI.lt (F : own_AI Z h a ty n fi) : a < h.size := own_A.lt F
theorem own_AI.ext (F : own_AI Z h a ty n fi) (E : Ext h h') : own_AI Z h' a ty n fi := own_A.ext F E
theorem own_AI.other {sl : Nat} {v : Value} (F : own_AI Z h a ty n fi) (W : Wr h h' b sl v) (q : a ≠ b) : own_AI Z h' a ty n fi := own_A.other F W q
theorem own_AI.keep {ws : List Addr} (F : own_AI Z h a ty n fi) (K : Keep h h' ws) (q : a ∉ ws) : own_AI Z h' a ty n fi := own_A.keep F K q
theorem own_AI.congr {gi : Nat → Int32} (F : own_AI Z h a ty n fi) (q : ∀ i, i < n → fi i = gi i) : own_AI Z h a ty n gi := own_A.congr F fun i hi => by rw [q i hi]
theorem own_AI.set {j : Nat} {x : Int32} (F : own_AI Z h a ty n fi) (W : Wr h h' a j (.int x)) : own_AI Z h' a ty n (fun i => if i = j then x else fi i) := (own_A.set F W).congr fun i _ => by by_cases q : i = j <;> simp [q]
theorem own_AI.newI {k : ClassId} {z : Int32} (A : Arr Z h a (newA k .int z) .int) (q : z.toNatClampNeg = n) : own_AI Z h a .int n (fun _ => 0) := own_A.new A q
theorem own_AI.newB {k : ClassId} {z : Int32} (A : Arr Z h a (newA k .byte z) .byte) (q : z.toNatClampNeg = n) : own_AI Z h a .byte n (fun _ => 0) := own_A.new A q
theorem own_AJ.lt (F : own_AJ Z h a n fj) : a < h.size := own_A.lt F
theorem own_AJ.ext (F : own_AJ Z h a n fj) (E : Ext h h') : own_AJ Z h' a n fj := own_A.ext F E
theorem own_AJ.other {sl : Nat} {v : Value} (F : own_AJ Z h a n fj) (W : Wr h h' b sl v) (q : a ≠ b) : own_AJ Z h' a n fj := own_A.other F W q
theorem own_AJ.keep {ws : List Addr} (F : own_AJ Z h a n fj) (K : Keep h h' ws) (q : a ∉ ws) : own_AJ Z h' a n fj := own_A.keep F K q
theorem own_AJ.congr {gj : Nat → Int64} (F : own_AJ Z h a n fj) (q : ∀ i, i < n → fj i = gj i) : own_AJ Z h a n gj := own_A.congr F fun i hi => by rw [q i hi]
theorem own_AJ.set {j : Nat} {x : Int64} (F : own_AJ Z h a n fj) (W : Wr h h' a j (.long x)) : own_AJ Z h' a n (fun i => if i = j then x else fj i) := (own_A.set F W).congr fun i _ => by by_cases q : i = j <;> simp [q]
theorem own_AJ.new {k : ClassId} {z : Int32} (A : Arr Z h a (newA k .long z) .long) (q : z.toNatClampNeg = n) : own_AJ Z h a n (fun _ => 0) := own_A.new A q
theorem own_in {j : Int32} {k n : Nat} (hj : j.toInt = (k : Int)) (hk : k < n) : j.toNatClampNeg = k ∧ ¬ (j < 0 ∨ n ≤ j.toNatClampNeg) := by
  have q : j.toNatClampNeg = k := by simp only [Int32.toNatClampNeg, hj]; omega
  refine ⟨q, fun z => ?_⟩
  rcases z with z | z
  · rw [Int32.lt_iff_toInt_lt, hj] at z
    have : (0 : Int32).toInt = 0 := rfl
    omega
  · omega
theorem own_iaload (X : Stand p l e R s m args below meth c T locs cells slots) (hx : p.tables.exec = Jvm.exec) (hZ : Z.Warmed39 s.vm) (eT : T.heap = h) (F : own_AI Z h a .int n fi) {j : Int32} {k : Nat} (hj : j.toInt = (k : Int)) (hk : k < n) {v : Int32} (hv : fi k = v) {pc pc' : Nat} {Ls : Array Slot} {rest : List Value}
    (hd : decode c.code pc = .ok (.iaload, 1)) (hp : pc + 1 = pc') (r : own_Fin p e below s Q cl sl T (mkF m pc' Ls (.int v :: rest))) : own_Fin p e below s Q cl sl T (mkF m pc Ls (.int j :: .ref a :: rest)) := by
  obtain ⟨cc, A, h1, h2⟩ := F
  obtain ⟨q1, q2⟩ := own_in hj hk
  subst hp hv
  exact own_step (fun t k' => X.iaload hx (j := j) (v := .int (fi k)) (by rw [eT]; exact A.1) (State.isArrayOf_alike hZ.alike A.2.1) A.2.2 (by rw [h1]; exact q2) (by rw [q1]; exact h2 k hk) (g := mkF m pc Ls (.int j :: .ref a :: rest)) rfl rfl hd _ k') r
theorem own_baload (X : Stand p l e R s m args below meth c T locs cells slots) (hx : p.tables.exec = Jvm.exec) (hZ : Z.Warmed39 s.vm) (eT : T.heap = h) (F : own_AI Z h a .byte n fi) {j : Int32} {k : Nat} (hj : j.toInt = (k : Int)) (hk : k < n) {v : Int32} (hv : fi k = v) {pc pc' : Nat} {Ls : Array Slot} {rest : List Value}
    (hd : decode c.code pc = .ok (.baload, 1)) (hp : pc + 1 = pc') (r : own_Fin p e below s Q cl sl T (mkF m pc' Ls (.int v :: rest))) : own_Fin p e below s Q cl sl T (mkF m pc Ls (.int j :: .ref a :: rest)) := by
  obtain ⟨cc, A, h1, h2⟩ := F
  obtain ⟨q1, q2⟩ := own_in hj hk
  subst hp hv
  exact own_step (fun t k' => X.baloadBytes hx (j := j) (v := .int (fi k)) (by rw [eT]; exact A.1) (State.isArrayOf_alike hZ.alike A.2.1) A.2.2 (by rw [h1]; exact q2) (by rw [q1]; exact h2 k hk) (g := mkF m pc Ls (.int j :: .ref a :: rest)) rfl rfl hd _ k') r
theorem own_laload (X : Stand p l e R s m args below meth c T locs cells slots) (hx : p.tables.exec = Jvm.exec) (hZ : Z.Warmed39 s.vm) (eT : T.heap = h) (F : own_AJ Z h a n fj) {j : Int32} {k : Nat} (hj : j.toInt = (k : Int)) (hk : k < n) {v : Int64} (hv : fj k = v) {pc pc' : Nat} {Ls : Array Slot} {rest : List Value}
    (hd : decode c.code pc = .ok (.laload, 1)) (hp : pc + 1 = pc') (r : own_Fin p e below s Q cl sl T (mkF m pc' Ls (.long v :: rest))) : own_Fin p e below s Q cl sl T (mkF m pc Ls (.int j :: .ref a :: rest)) := by
  obtain ⟨cc, A, h1, h2⟩ := F
  obtain ⟨q1, q2⟩ := own_in hj hk
  subst hp hv
  exact own_step (fun t k' => X.laload hx (j := j) (v := .long (fj k)) (by rw [eT]; exact A.1) (State.isArrayOf_alike hZ.alike A.2.1) A.2.2 (by rw [h1]; exact q2) (by rw [q1]; exact h2 k hk) (g := mkF m pc Ls (.int j :: .ref a :: rest)) rfl rfl hd _ k') r
theorem own_arrlen (X : Stand p l e R s m args below meth c T locs cells slots) (hx : p.tables.exec = Jvm.exec) (hZ : Z.Warmed39 s.vm) (eT : T.heap = h) (F : own_A Z h a ty n fv) {z : Int32} (hz : n.toInt32 = z) {pc pc' : Nat} {Ls : Array Slot} {rest : List Value}
    (hd : decode c.code pc = .ok (.arraylength, 1)) (hp : pc + 1 = pc') (r : own_Fin p e below s Q cl sl T (mkF m pc' Ls (.int z :: rest))) : own_Fin p e below s Q cl sl T (mkF m pc Ls (.ref a :: rest)) := by
  obtain ⟨cc, A, h1, h2⟩ := F
  subst hp hz
  exact own_step (fun t k' => X.arraylength hx (by rw [eT]; exact A.1) (State.isArrayOf_alike hZ.alike A.2.1) (g := mkF m pc Ls (.ref a :: rest)) rfl rfl hd _ (by rw [h1]; exact k')) r
theorem own_iastore (X : Stand p l e R s m args below meth c T locs cells slots) (hx : p.tables.exec = Jvm.exec) (hZ : Z.Warmed39 s.vm) (eT : T.heap = h) (F : own_AI Z h a .int n fi) {j : Int32} {k : Nat} (hj : j.toInt = (k : Int)) (hk : k < n) {x : Int32} {pc pc' : Nat} {Ls : Array Slot} {rest : List Value}
    (hd : decode c.code pc = .ok (.iastore, 1)) (hp : pc + 1 = pc') :
    ∃ T' h', Stand p l e R s m args below meth c T' (locs ++ [⟨a, k⟩]) cells slots ∧ T'.heap = h' ∧ Wr h h' a k (.int x) ∧ own_AI Z h' a .int n (fun i => if i = k then x else fi i) ∧ ∀ t, Steps p.tables e below (T'.setTop (mkF m pc' Ls rest)) t → Steps p.tables e below (T.setTop (mkF m pc Ls (.int x :: .int j :: .ref a :: rest))) t := by
  obtain ⟨q1, q2⟩ := own_in hj hk
  have F' := F
  obtain ⟨cc, A, h1, h2⟩ := F
  subst hp q1
  obtain ⟨T', h', X', e', W', st⟩ := stI X hx hZ eT A (j := j) (x := x) (by rw [h1]; exact q2) (g := mkF m pc Ls (.int x :: .int j :: .ref a :: rest)) rfl rfl hd
  exact ⟨T', h', X', e', W', F'.set W', st⟩
theorem own_bastore (X : Stand p l e R s m args below meth c T locs cells slots) (hx : p.tables.exec = Jvm.exec) (hZ : Z.Warmed39 s.vm) (eT : T.heap = h) (F : own_AI Z h a .byte n fi) {j : Int32} {k : Nat} (hj : j.toInt = (k : Int)) (hk : k < n) {x y : Int32} (hn : nar .byte x = y) {pc pc' : Nat} {Ls : Array Slot} {rest : List Value}
    (hd : decode c.code pc = .ok (.bastore, 1)) (hp : pc + 1 = pc') :
    ∃ T' h', Stand p l e R s m args below meth c T' (locs ++ [⟨a, k⟩]) cells slots ∧ T'.heap = h' ∧ Wr h h' a k (.int y) ∧ own_AI Z h' a .byte n (fun i => if i = k then y else fi i) ∧ ∀ t, Steps p.tables e below (T'.setTop (mkF m pc' Ls rest)) t → Steps p.tables e below (T.setTop (mkF m pc Ls (.int x :: .int j :: .ref a :: rest))) t := by
  obtain ⟨q1, q2⟩ := own_in hj hk
  have F' := F
  obtain ⟨cc, A, h1, h2⟩ := F
  subst hp q1 hn
  obtain ⟨T', h', X', e', W', st⟩ := stB X hx hZ eT A (j := j) (x := x) (by rw [h1]; exact q2) (g := mkF m pc Ls (.int x :: .int j :: .ref a :: rest)) rfl rfl hd
  exact ⟨T', h', X', e', W', F'.set W', st⟩
theorem own_lastore (X : Stand p l e R s m args below meth c T locs cells slots) (hx : p.tables.exec = Jvm.exec) (hZ : Z.Warmed39 s.vm) (eT : T.heap = h) (F : own_AJ Z h a n fj) {j : Int32} {k : Nat} (hj : j.toInt = (k : Int)) (hk : k < n) {x : Int64} {pc pc' : Nat} {Ls : Array Slot} {rest : List Value}
    (hd : decode c.code pc = .ok (.lastore, 1)) (hp : pc + 1 = pc') :
    ∃ T' h', Stand p l e R s m args below meth c T' (locs ++ [⟨a, k⟩]) cells slots ∧ T'.heap = h' ∧ Wr h h' a k (.long x) ∧ own_AJ Z h' a n (fun i => if i = k then x else fj i) ∧ ∀ t, Steps p.tables e below (T'.setTop (mkF m pc' Ls rest)) t → Steps p.tables e below (T.setTop (mkF m pc Ls (.long x :: .int j :: .ref a :: rest))) t := by
  obtain ⟨q1, q2⟩ := own_in hj hk
  have F' := F
  obtain ⟨cc, A, h1, h2⟩ := F
  subst hp q1
  obtain ⟨T', h', X', e', W', st⟩ := stJ X hx hZ eT A (j := j) (x := x) (by rw [h1]; exact q2) (g := mkF m pc Ls (.long x :: .int j :: .ref a :: rest)) rfl rfl hd
  exact ⟨T', h', X', e', W', F'.set W', st⟩
theorem own_nar8 (x : Int32) : nar .byte x.toInt8.toInt32 = x.toInt8.toInt32 := by
  show (x.toInt8.toInt32).toInt8.toInt32 = x.toInt8.toInt32
  simp
end OwnKit
/-- z is the first place from 20 on that holds 0, five at the most -/
def own_FZ (f : Nat → Int32) (z : Int32) : Prop := (z.toInt = 0 ∧ (f 20).toInt = 0) ∨ (z.toInt = 1 ∧ ¬ (f 20).toInt = 0 ∧ (f 21).toInt = 0) ∨ (z.toInt = 2 ∧ ¬ (f 20).toInt = 0 ∧ ¬ (f 21).toInt = 0 ∧ (f 22).toInt = 0) ∨ (z.toInt = 3 ∧ ¬ (f 20).toInt = 0 ∧ ¬ (f 21).toInt = 0 ∧ ¬ (f 22).toInt = 0 ∧ (f 23).toInt = 0) ∨ (z.toInt = 4 ∧ ¬ (f 20).toInt = 0 ∧ ¬ (f 21).toInt = 0 ∧ ¬ (f 22).toInt = 0 ∧ ¬ (f 23).toInt = 0 ∧ (f 24).toInt = 0) ∨ (z.toInt = 5 ∧ ¬ (f 20).toInt = 0 ∧ ¬ (f 21).toInt = 0 ∧ ¬ (f 22).toInt = 0 ∧ ¬ (f 23).toInt = 0 ∧ ¬ (f 24).toInt = 0)
theorem own_FZ_eq (f : Nat → Int32) (z w : Int32) (h : own_FZ f z) (k : own_FZ f w) : z.toInt = w.toInt := by
  unfold own_FZ at h k
  rcases h with h | h | h | h | h | h <;> rcases k with k | k | k | k | k | k <;> omega
def own_rg (z : Int32) (i : Nat) : Int32 := if i = 3 then z else if i = 2 then 20 else if i = 1 then 20 else 0
theorem own_four {i : Nat} (h : i < 4) : i = 0 ∨ i = 1 ∨ i = 2 ∨ i = 3 := by omega
theorem d1_0 : decode prog_35_method_6_code 0 = .ok (.iconst 0, 1) := by decide +kernel
theorem d1_1 : decode prog_35_method_6_code 1 = .ok (.istore_n 2, 1) := by decide +kernel
theorem d1_2 : decode prog_35_method_6_code 2 = .ok (.iload_n 2, 1) := by decide +kernel
theorem d1_3 : decode prog_35_method_6_code 3 = .ok (.sipush 256, 3) := by decide +kernel
theorem d1_6 : decode prog_35_method_6_code 6 = .ok (.if_icmp .ge 18, 3) := by decide +kernel
theorem d1_9 : decode prog_35_method_6_code 9 = .ok (.aload_n 0, 1) := by decide +kernel
theorem d1_10 : decode prog_35_method_6_code 10 = .ok (.bipush 20, 2) := by decide +kernel
theorem d1_12 : decode prog_35_method_6_code 12 = .ok (.iload_n 2, 1) := by decide +kernel
theorem d1_13 : decode prog_35_method_6_code 13 = .ok (.iadd, 1) := by decide +kernel
theorem d1_14 : decode prog_35_method_6_code 14 = .ok (.baload, 1) := by decide +kernel
theorem d1_15 : decode prog_35_method_6_code 15 = .ok (.ifCond .eq 9, 3) := by decide +kernel
theorem d1_18 : decode prog_35_method_6_code 18 = .ok (.iinc 2 1, 3) := by decide +kernel
theorem d1_21 : decode prog_35_method_6_code 21 = .ok (.goto (-19), 3) := by decide +kernel
theorem d1_24 : decode prog_35_method_6_code 24 = .ok (.aload_n 1, 1) := by decide +kernel
theorem d1_25 : decode prog_35_method_6_code 25 = .ok (.iconst 0, 1) := by decide +kernel
theorem d1_26 : decode prog_35_method_6_code 26 = .ok (.iconst 0, 1) := by decide +kernel
theorem d1_27 : decode prog_35_method_6_code 27 = .ok (.iastore, 1) := by decide +kernel
theorem d1_28 : decode prog_35_method_6_code 28 = .ok (.aload_n 1, 1) := by decide +kernel
theorem d1_29 : decode prog_35_method_6_code 29 = .ok (.iconst 1, 1) := by decide +kernel
theorem d1_30 : decode prog_35_method_6_code 30 = .ok (.bipush 20, 2) := by decide +kernel
theorem d1_32 : decode prog_35_method_6_code 32 = .ok (.iastore, 1) := by decide +kernel
theorem d1_33 : decode prog_35_method_6_code 33 = .ok (.aload_n 1, 1) := by decide +kernel
theorem d1_34 : decode prog_35_method_6_code 34 = .ok (.iconst 2, 1) := by decide +kernel
theorem d1_35 : decode prog_35_method_6_code 35 = .ok (.bipush 20, 2) := by decide +kernel
theorem d1_37 : decode prog_35_method_6_code 37 = .ok (.iastore, 1) := by decide +kernel
theorem d1_38 : decode prog_35_method_6_code 38 = .ok (.aload_n 1, 1) := by decide +kernel
theorem d1_39 : decode prog_35_method_6_code 39 = .ok (.iconst 3, 1) := by decide +kernel
theorem d1_40 : decode prog_35_method_6_code 40 = .ok (.iload_n 2, 1) := by decide +kernel
theorem d1_41 : decode prog_35_method_6_code 41 = .ok (.iastore, 1) := by decide +kernel
theorem d1_42 : decode prog_35_method_6_code 42 = .ok (.return_, 1) := by decide +kernel
theorem own_pn_1 : plainName "com/example/pcr10/pcr10/TemplateFormat" = true := by first | (simp [plainName, overriddenIn]; done) | decide +kernel
theorem own_ef_1 (m : MethodId) (a1 : Addr) (a2 : Addr) : entryFrame m #[(.ref a1), (.ref a2)] 3 = mkF m 0 #[.val (.ref a1), .val (.ref a2), .unset] [] := by first | (simp [entryFrame, mkF, argsToLocals, Value.category]; done) | rfl
abbrev own_R1 : Room := { frames := 0, cells := 0, slots := 0, locals := 0 }
def own_Q1 (Z : State) (a1 : Addr) (a2 : Addr) (f1 : Nat → Int32) (f2 : Nat → Int32) (h0 : Heap) (n0 : Nat) (v : Option Value) (h : Heap) (L : List Loc) : Prop := v = none ∧ Fr n0 L ∧ Keep h0 h [a2] ∧ ∃ z : Int32, own_FZ f1 z ∧ own_AI Z h a2 .int 4 (own_rg z)
set_option maxRecDepth 65536 in
set_option maxHeartbeats 40000000 in
theorem rm1 (l : Launch) (Z : State) (a0 : Array Value) (hw : ∀ d ∈ tables_1, d.before a0 Z = true) (ws : List Jvm.Cond) (a1 : Addr) (a2 : Addr) (f1 : Nat → Int32) (f2 : Nat → Int32) (h0 : Heap) (n0 : Nat) (Z0 : n0 ≤ h0.size) (V_a1 : own_AI Z h0 a1 .byte 276 f1) (V_a2 : own_AI Z h0 a2 .int 4 f2) (g_a2 : n0 ≤ a2) (hne : a1 ≠ a2) (hz : ¬ (f1 24).toInt = 0 → (f1 25).toInt = 0) :
    MetFree l (⟨"com/example/pcr10/pcr10/TemplateFormat", "legacyFieldRanges", "([B[I)V"⟩ : MethodName) (head1 (Jvm.Cond.code (⟨"com/example/pcr10/pcr10/TemplateFormat", "legacyFieldRanges", "([B[I)V"⟩ : MethodName) prog_35_method_6_code 3 none :: ws) own_R1) (fun a U => a = #[(.ref a1), (.ref a2)] ∧ Z.Warmed39 U.vm ∧ U.heap = h0) (fun _ _ _ _ _ => True) (fun _ U o U' => ∃ v L, o = .returned v ∧ own_Q1 Z a1 a2 f1 f2 h0 n0 v U'.heap L ∧ FrameEnd U o U' L own_R1.cells own_R1.slots) := by
  refine MetFree.of_bodySF (plainFor_of_name own_pn_1) hisR ?_
  intro p e s m args below meth c s₁ Bd hml0 hP hK
  obtain ⟨rfl, hZ, hh⟩ := hP
  have hx := Bd.exec
  have hby := Bd.bytes
  have hlk := BodyLoose.notSynchronized Bd
  have hml : c.maxLocals = 3 := hml0
  have hown : s.vm.findClass "com/example/pcr10/pcr10/TemplateFormat" = some m.cls := (findClass_of_methodNamed Bd.named : s.vm.findClass (⟨"com/example/pcr10/pcr10/TemplateFormat", "legacyFieldRanges", "([B[I)V"⟩ : MethodName).cls = some m.cls)
  have hnm := (name_of_methodNamed Bd.named Bd.method).1
  have X0 : Stand p l e own_R1 s m #[(.ref a1), (.ref a2)] below meth c s₁ [] 0 0 := Stand.of_body Bd
  have e0 : s₁.heap = h0 := by rw [← hh, Bd.state]; rfl
  have Nf := Fr.nil n0
  have Zs := Z0
  have K : Keep h0 h0 [a2] := Keep.refl _ _
  show own_Fin p e below s (own_Q1 Z a1 a2 f1 f2 h0 n0) 0 0 s₁ (entryFrame m #[(.ref a1), (.ref a2)] 3)
  rw [own_ef_1 m a1 a2]
  show own_Fin _ _ _ _ _ _ _ _ (mkF m 0 #[.val (.ref a1), .val (.ref a2), .unset] [])
  refine own_step (fun t k => XS.iconst X0.here hx rfl (hb hby d1_0) k) ?_
  show own_Fin _ _ _ _ _ _ _ _ (mkF m 1 #[.val (.ref a1), .val (.ref a2), .unset] [(.int (0 : Int32))])
  refine own_step (fun t k => XS.istoreN X0.here hx rfl (hb hby d1_1) rfl (l' := #[.val (.ref a1), .val (.ref a2), .val (.int (0 : Int32))]) rfl k) ?_
  show own_Fin _ _ _ _ _ _ _ _ (mkF m 2 #[.val (.ref a1), .val (.ref a2), .val (.int (0 : Int32))] [])
  refine own_step (fun t k => XS.iloadN X0.here hx rfl (hb hby d1_2) rfl k) ?_
  show own_Fin _ _ _ _ _ _ _ _ (mkF m 3 #[.val (.ref a1), .val (.ref a2), .val (.int (0 : Int32))] [(.int (0 : Int32))])
  refine own_step (fun t k => XS.sipush X0.here hx rfl (hb hby d1_3) k) ?_
  show own_Fin _ _ _ _ _ _ _ _ (mkF m 6 #[.val (.ref a1), .val (.ref a2), .val (.int (0 : Int32))] [(.int (256 : Int32)), (.int (0 : Int32))])
  refine own_step (fun t k => XS.icmpNo X0.here hx rfl (hb hby d1_6) rfl (by decide) k) ?_
  show own_Fin _ _ _ _ _ _ _ _ (mkF m 9 #[.val (.ref a1), .val (.ref a2), .val (.int (0 : Int32))] [])
  refine own_step (fun t k => XS.aloadN X0.here hx rfl (hb hby d1_9) rfl rfl k) ?_
  show own_Fin _ _ _ _ _ _ _ _ (mkF m 10 #[.val (.ref a1), .val (.ref a2), .val (.int (0 : Int32))] [(.ref a1)])
  refine own_step (fun t k => XS.bipush X0.here hx rfl (hb hby d1_10) k) ?_
  show own_Fin _ _ _ _ _ _ _ _ (mkF m 12 #[.val (.ref a1), .val (.ref a2), .val (.int (0 : Int32))] [(.int (20 : Int32)), (.ref a1)])
  refine own_step (fun t k => XS.iloadN X0.here hx rfl (hb hby d1_12) rfl k) ?_
  show own_Fin _ _ _ _ _ _ _ _ (mkF m 13 #[.val (.ref a1), .val (.ref a2), .val (.int (0 : Int32))] [(.int (0 : Int32)), (.int (20 : Int32)), (.ref a1)])
  refine own_step (fun t k => XS.iadd X0.here hx rfl (hb hby d1_13) rfl k) ?_
  show own_Fin _ _ _ _ _ _ _ _ (mkF m 14 #[.val (.ref a1), .val (.ref a2), .val (.int (0 : Int32))] [(.int (20 : Int32)), (.ref a1)])
  refine own_baload X0 hx hZ e0 V_a1 (k := 20) rfl (by decide) (v := (f1 20)) rfl (hb hby d1_14) rfl ?_
  show own_Fin _ _ _ _ _ _ _ _ (mkF m 15 #[.val (.ref a1), .val (.ref a2), .val (.int (0 : Int32))] [(.int (f1 20))])
  by_cases hc1 : ((f1 20)).toInt = 0
  · skip
    refine own_step (fun t k => XS.ifYes X0.here hx rfl (pc0 := 15) (pc' := 24) rfl (hb hby d1_15) rfl ((if0 _ _).trans (own_ce (x := (f1 20)) (y := (0 : Int32)) rfl rfl hc1).1) (by decide) (by decide) k) ?_
    show own_Fin _ _ _ _ _ _ _ _ (mkF m 24 #[.val (.ref a1), .val (.ref a2), .val (.int (0 : Int32))] [])
    refine own_step (fun t k => XS.aloadN X0.here hx rfl (hb hby d1_24) rfl rfl k) ?_
    show own_Fin _ _ _ _ _ _ _ _ (mkF m 25 #[.val (.ref a1), .val (.ref a2), .val (.int (0 : Int32))] [(.ref a2)])
    refine own_step (fun t k => XS.iconst X0.here hx rfl (hb hby d1_25) k) ?_
    show own_Fin _ _ _ _ _ _ _ _ (mkF m 26 #[.val (.ref a1), .val (.ref a2), .val (.int (0 : Int32))] [(.int (0 : Int32)), (.ref a2)])
    refine own_step (fun t k => XS.iconst X0.here hx rfl (hb hby d1_26) k) ?_
    show own_Fin _ _ _ _ _ _ _ _ (mkF m 27 #[.val (.ref a1), .val (.ref a2), .val (.int (0 : Int32))] [(.int (0 : Int32)), (.int (0 : Int32)), (.ref a2)])
    obtain ⟨T2, h2, X2, e2, W2, B2, st2⟩ := own_iastore X0 hx hZ e0 V_a2 (j := (0 : Int32)) (k := 0) rfl (by decide) (x := (0 : Int32)) (pc := 27) (Ls := #[.val (.ref a1), .val (.ref a2), .val (.int (0 : Int32))]) (rest := []) (hb hby d1_27) rfl
    refine own_step st2 ?_
    replace V_a1 := V_a1.other W2 hne
    replace Zs : n0 ≤ h2.size := by rw [W2.size]; exact Zs
    replace K := K.wr W2 (Or.inl (by simp))
    replace V_a2 := B2
    replace Nf := Fr.snoc X2 Nf g_a2
    show own_Fin _ _ _ _ _ _ _ _ (mkF m 28 #[.val (.ref a1), .val (.ref a2), .val (.int (0 : Int32))] [])
    refine own_step (fun t k => XS.aloadN X2.here hx rfl (hb hby d1_28) rfl rfl k) ?_
    show own_Fin _ _ _ _ _ _ _ _ (mkF m 29 #[.val (.ref a1), .val (.ref a2), .val (.int (0 : Int32))] [(.ref a2)])
    refine own_step (fun t k => XS.iconst X2.here hx rfl (hb hby d1_29) k) ?_
    show own_Fin _ _ _ _ _ _ _ _ (mkF m 30 #[.val (.ref a1), .val (.ref a2), .val (.int (0 : Int32))] [(.int (1 : Int32)), (.ref a2)])
    refine own_step (fun t k => XS.bipush X2.here hx rfl (hb hby d1_30) k) ?_
    show own_Fin _ _ _ _ _ _ _ _ (mkF m 32 #[.val (.ref a1), .val (.ref a2), .val (.int (0 : Int32))] [(.int (20 : Int32)), (.int (1 : Int32)), (.ref a2)])
    obtain ⟨T3, h3, X3, e3, W3, B3, st3⟩ := own_iastore X2 hx hZ e2 V_a2 (j := (1 : Int32)) (k := 1) rfl (by decide) (x := (20 : Int32)) (pc := 32) (Ls := #[.val (.ref a1), .val (.ref a2), .val (.int (0 : Int32))]) (rest := []) (hb hby d1_32) rfl
    refine own_step st3 ?_
    replace V_a1 := V_a1.other W3 hne
    replace Zs : n0 ≤ h3.size := by rw [W3.size]; exact Zs
    replace K := K.wr W3 (Or.inl (by simp))
    replace V_a2 := B3
    replace Nf := Fr.snoc X3 Nf g_a2
    show own_Fin _ _ _ _ _ _ _ _ (mkF m 33 #[.val (.ref a1), .val (.ref a2), .val (.int (0 : Int32))] [])
    refine own_step (fun t k => XS.aloadN X3.here hx rfl (hb hby d1_33) rfl rfl k) ?_
    show own_Fin _ _ _ _ _ _ _ _ (mkF m 34 #[.val (.ref a1), .val (.ref a2), .val (.int (0 : Int32))] [(.ref a2)])
    refine own_step (fun t k => XS.iconst X3.here hx rfl (hb hby d1_34) k) ?_
    show own_Fin _ _ _ _ _ _ _ _ (mkF m 35 #[.val (.ref a1), .val (.ref a2), .val (.int (0 : Int32))] [(.int (2 : Int32)), (.ref a2)])
    refine own_step (fun t k => XS.bipush X3.here hx rfl (hb hby d1_35) k) ?_
    show own_Fin _ _ _ _ _ _ _ _ (mkF m 37 #[.val (.ref a1), .val (.ref a2), .val (.int (0 : Int32))] [(.int (20 : Int32)), (.int (2 : Int32)), (.ref a2)])
    obtain ⟨T4, h4, X4, e4, W4, B4, st4⟩ := own_iastore X3 hx hZ e3 V_a2 (j := (2 : Int32)) (k := 2) rfl (by decide) (x := (20 : Int32)) (pc := 37) (Ls := #[.val (.ref a1), .val (.ref a2), .val (.int (0 : Int32))]) (rest := []) (hb hby d1_37) rfl
    refine own_step st4 ?_
    replace V_a1 := V_a1.other W4 hne
    replace Zs : n0 ≤ h4.size := by rw [W4.size]; exact Zs
    replace K := K.wr W4 (Or.inl (by simp))
    replace V_a2 := B4
    replace Nf := Fr.snoc X4 Nf g_a2
    show own_Fin _ _ _ _ _ _ _ _ (mkF m 38 #[.val (.ref a1), .val (.ref a2), .val (.int (0 : Int32))] [])
    refine own_step (fun t k => XS.aloadN X4.here hx rfl (hb hby d1_38) rfl rfl k) ?_
    show own_Fin _ _ _ _ _ _ _ _ (mkF m 39 #[.val (.ref a1), .val (.ref a2), .val (.int (0 : Int32))] [(.ref a2)])
    refine own_step (fun t k => XS.iconst X4.here hx rfl (hb hby d1_39) k) ?_
    show own_Fin _ _ _ _ _ _ _ _ (mkF m 40 #[.val (.ref a1), .val (.ref a2), .val (.int (0 : Int32))] [(.int (3 : Int32)), (.ref a2)])
    refine own_step (fun t k => XS.iloadN X4.here hx rfl (hb hby d1_40) rfl k) ?_
    show own_Fin _ _ _ _ _ _ _ _ (mkF m 41 #[.val (.ref a1), .val (.ref a2), .val (.int (0 : Int32))] [(.int (0 : Int32)), (.int (3 : Int32)), (.ref a2)])
    obtain ⟨T5, h5, X5, e5, W5, B5, st5⟩ := own_iastore X4 hx hZ e4 V_a2 (j := (3 : Int32)) (k := 3) rfl (by decide) (x := (0 : Int32)) (pc := 41) (Ls := #[.val (.ref a1), .val (.ref a2), .val (.int (0 : Int32))]) (rest := []) (hb hby d1_41) rfl
    refine own_step st5 ?_
    replace V_a1 := V_a1.other W5 hne
    replace Zs : n0 ≤ h5.size := by rw [W5.size]; exact Zs
    replace K := K.wr W5 (Or.inl (by simp))
    replace V_a2 := B5
    replace Nf := Fr.snoc X5 Nf g_a2
    show own_Fin _ _ _ _ _ _ _ _ (mkF m 42 #[.val (.ref a1), .val (.ref a2), .val (.int (0 : Int32))] [])
    refine own_retV X5 hx hlk Bd.returns (hb hby d1_42) (by decide) (by decide) e5 ?_
    exact ⟨rfl, Nf, K, (0 : Int32), Or.inl ⟨rfl, by assumption⟩, V_a2.congr (by intro i hi; rcases own_four hi with rfl | rfl | rfl | rfl <;> rfl)⟩
  · skip
    refine own_step (fun t k => XS.ifNo X0.here hx rfl (hb hby d1_15) rfl ((if0 _ _).trans (own_cu (x := (f1 20)) (y := (0 : Int32)) rfl rfl hc1).1) k) ?_
    show own_Fin _ _ _ _ _ _ _ _ (mkF m 18 #[.val (.ref a1), .val (.ref a2), .val (.int (0 : Int32))] [])
    refine own_step (fun t k => XS.iinc X0.here hx rfl (hb hby d1_18) rfl (l' := #[.val (.ref a1), .val (.ref a2), .val (.int (1 : Int32))]) rfl k) ?_
    show own_Fin _ _ _ _ _ _ _ _ (mkF m 21 #[.val (.ref a1), .val (.ref a2), .val (.int (1 : Int32))] [])
    refine own_step (fun t k => XS.goto X0.here hx rfl (pc0 := 21) (pc' := 2) rfl (hb hby d1_21) (by decide) (by decide) k) ?_
    show own_Fin _ _ _ _ _ _ _ _ (mkF m 2 #[.val (.ref a1), .val (.ref a2), .val (.int (1 : Int32))] [])
    refine own_step (fun t k => XS.iloadN X0.here hx rfl (hb hby d1_2) rfl k) ?_
    show own_Fin _ _ _ _ _ _ _ _ (mkF m 3 #[.val (.ref a1), .val (.ref a2), .val (.int (1 : Int32))] [(.int (1 : Int32))])
    refine own_step (fun t k => XS.sipush X0.here hx rfl (hb hby d1_3) k) ?_
    show own_Fin _ _ _ _ _ _ _ _ (mkF m 6 #[.val (.ref a1), .val (.ref a2), .val (.int (1 : Int32))] [(.int (256 : Int32)), (.int (1 : Int32))])
    refine own_step (fun t k => XS.icmpNo X0.here hx rfl (hb hby d1_6) rfl (by decide) k) ?_
    show own_Fin _ _ _ _ _ _ _ _ (mkF m 9 #[.val (.ref a1), .val (.ref a2), .val (.int (1 : Int32))] [])
    refine own_step (fun t k => XS.aloadN X0.here hx rfl (hb hby d1_9) rfl rfl k) ?_
    show own_Fin _ _ _ _ _ _ _ _ (mkF m 10 #[.val (.ref a1), .val (.ref a2), .val (.int (1 : Int32))] [(.ref a1)])
    refine own_step (fun t k => XS.bipush X0.here hx rfl (hb hby d1_10) k) ?_
    show own_Fin _ _ _ _ _ _ _ _ (mkF m 12 #[.val (.ref a1), .val (.ref a2), .val (.int (1 : Int32))] [(.int (20 : Int32)), (.ref a1)])
    refine own_step (fun t k => XS.iloadN X0.here hx rfl (hb hby d1_12) rfl k) ?_
    show own_Fin _ _ _ _ _ _ _ _ (mkF m 13 #[.val (.ref a1), .val (.ref a2), .val (.int (1 : Int32))] [(.int (1 : Int32)), (.int (20 : Int32)), (.ref a1)])
    refine own_step (fun t k => XS.iadd X0.here hx rfl (hb hby d1_13) rfl k) ?_
    show own_Fin _ _ _ _ _ _ _ _ (mkF m 14 #[.val (.ref a1), .val (.ref a2), .val (.int (1 : Int32))] [(.int (21 : Int32)), (.ref a1)])
    refine own_baload X0 hx hZ e0 V_a1 (k := 21) rfl (by decide) (v := (f1 21)) rfl (hb hby d1_14) rfl ?_
    show own_Fin _ _ _ _ _ _ _ _ (mkF m 15 #[.val (.ref a1), .val (.ref a2), .val (.int (1 : Int32))] [(.int (f1 21))])
    by_cases hc6 : ((f1 21)).toInt = 0
    · skip
      refine own_step (fun t k => XS.ifYes X0.here hx rfl (pc0 := 15) (pc' := 24) rfl (hb hby d1_15) rfl ((if0 _ _).trans (own_ce (x := (f1 21)) (y := (0 : Int32)) rfl rfl hc6).1) (by decide) (by decide) k) ?_
      show own_Fin _ _ _ _ _ _ _ _ (mkF m 24 #[.val (.ref a1), .val (.ref a2), .val (.int (1 : Int32))] [])
      refine own_step (fun t k => XS.aloadN X0.here hx rfl (hb hby d1_24) rfl rfl k) ?_
      show own_Fin _ _ _ _ _ _ _ _ (mkF m 25 #[.val (.ref a1), .val (.ref a2), .val (.int (1 : Int32))] [(.ref a2)])
      refine own_step (fun t k => XS.iconst X0.here hx rfl (hb hby d1_25) k) ?_
      show own_Fin _ _ _ _ _ _ _ _ (mkF m 26 #[.val (.ref a1), .val (.ref a2), .val (.int (1 : Int32))] [(.int (0 : Int32)), (.ref a2)])
      refine own_step (fun t k => XS.iconst X0.here hx rfl (hb hby d1_26) k) ?_
      show own_Fin _ _ _ _ _ _ _ _ (mkF m 27 #[.val (.ref a1), .val (.ref a2), .val (.int (1 : Int32))] [(.int (0 : Int32)), (.int (0 : Int32)), (.ref a2)])
      obtain ⟨T7, h7, X7, e7, W7, B7, st7⟩ := own_iastore X0 hx hZ e0 V_a2 (j := (0 : Int32)) (k := 0) rfl (by decide) (x := (0 : Int32)) (pc := 27) (Ls := #[.val (.ref a1), .val (.ref a2), .val (.int (1 : Int32))]) (rest := []) (hb hby d1_27) rfl
      refine own_step st7 ?_
      replace V_a1 := V_a1.other W7 hne
      replace Zs : n0 ≤ h7.size := by rw [W7.size]; exact Zs
      replace K := K.wr W7 (Or.inl (by simp))
      replace V_a2 := B7
      replace Nf := Fr.snoc X7 Nf g_a2
      show own_Fin _ _ _ _ _ _ _ _ (mkF m 28 #[.val (.ref a1), .val (.ref a2), .val (.int (1 : Int32))] [])
      refine own_step (fun t k => XS.aloadN X7.here hx rfl (hb hby d1_28) rfl rfl k) ?_
      show own_Fin _ _ _ _ _ _ _ _ (mkF m 29 #[.val (.ref a1), .val (.ref a2), .val (.int (1 : Int32))] [(.ref a2)])
      refine own_step (fun t k => XS.iconst X7.here hx rfl (hb hby d1_29) k) ?_
      show own_Fin _ _ _ _ _ _ _ _ (mkF m 30 #[.val (.ref a1), .val (.ref a2), .val (.int (1 : Int32))] [(.int (1 : Int32)), (.ref a2)])
      refine own_step (fun t k => XS.bipush X7.here hx rfl (hb hby d1_30) k) ?_
      show own_Fin _ _ _ _ _ _ _ _ (mkF m 32 #[.val (.ref a1), .val (.ref a2), .val (.int (1 : Int32))] [(.int (20 : Int32)), (.int (1 : Int32)), (.ref a2)])
      obtain ⟨T8, h8, X8, e8, W8, B8, st8⟩ := own_iastore X7 hx hZ e7 V_a2 (j := (1 : Int32)) (k := 1) rfl (by decide) (x := (20 : Int32)) (pc := 32) (Ls := #[.val (.ref a1), .val (.ref a2), .val (.int (1 : Int32))]) (rest := []) (hb hby d1_32) rfl
      refine own_step st8 ?_
      replace V_a1 := V_a1.other W8 hne
      replace Zs : n0 ≤ h8.size := by rw [W8.size]; exact Zs
      replace K := K.wr W8 (Or.inl (by simp))
      replace V_a2 := B8
      replace Nf := Fr.snoc X8 Nf g_a2
      show own_Fin _ _ _ _ _ _ _ _ (mkF m 33 #[.val (.ref a1), .val (.ref a2), .val (.int (1 : Int32))] [])
      refine own_step (fun t k => XS.aloadN X8.here hx rfl (hb hby d1_33) rfl rfl k) ?_
      show own_Fin _ _ _ _ _ _ _ _ (mkF m 34 #[.val (.ref a1), .val (.ref a2), .val (.int (1 : Int32))] [(.ref a2)])
      refine own_step (fun t k => XS.iconst X8.here hx rfl (hb hby d1_34) k) ?_
      show own_Fin _ _ _ _ _ _ _ _ (mkF m 35 #[.val (.ref a1), .val (.ref a2), .val (.int (1 : Int32))] [(.int (2 : Int32)), (.ref a2)])
      refine own_step (fun t k => XS.bipush X8.here hx rfl (hb hby d1_35) k) ?_
      show own_Fin _ _ _ _ _ _ _ _ (mkF m 37 #[.val (.ref a1), .val (.ref a2), .val (.int (1 : Int32))] [(.int (20 : Int32)), (.int (2 : Int32)), (.ref a2)])
      obtain ⟨T9, h9, X9, e9, W9, B9, st9⟩ := own_iastore X8 hx hZ e8 V_a2 (j := (2 : Int32)) (k := 2) rfl (by decide) (x := (20 : Int32)) (pc := 37) (Ls := #[.val (.ref a1), .val (.ref a2), .val (.int (1 : Int32))]) (rest := []) (hb hby d1_37) rfl
      refine own_step st9 ?_
      replace V_a1 := V_a1.other W9 hne
      replace Zs : n0 ≤ h9.size := by rw [W9.size]; exact Zs
      replace K := K.wr W9 (Or.inl (by simp))
      replace V_a2 := B9
      replace Nf := Fr.snoc X9 Nf g_a2
      show own_Fin _ _ _ _ _ _ _ _ (mkF m 38 #[.val (.ref a1), .val (.ref a2), .val (.int (1 : Int32))] [])
      refine own_step (fun t k => XS.aloadN X9.here hx rfl (hb hby d1_38) rfl rfl k) ?_
      show own_Fin _ _ _ _ _ _ _ _ (mkF m 39 #[.val (.ref a1), .val (.ref a2), .val (.int (1 : Int32))] [(.ref a2)])
      refine own_step (fun t k => XS.iconst X9.here hx rfl (hb hby d1_39) k) ?_
      show own_Fin _ _ _ _ _ _ _ _ (mkF m 40 #[.val (.ref a1), .val (.ref a2), .val (.int (1 : Int32))] [(.int (3 : Int32)), (.ref a2)])
      refine own_step (fun t k => XS.iloadN X9.here hx rfl (hb hby d1_40) rfl k) ?_
      show own_Fin _ _ _ _ _ _ _ _ (mkF m 41 #[.val (.ref a1), .val (.ref a2), .val (.int (1 : Int32))] [(.int (1 : Int32)), (.int (3 : Int32)), (.ref a2)])
      obtain ⟨T10, h10, X10, e10, W10, B10, st10⟩ := own_iastore X9 hx hZ e9 V_a2 (j := (3 : Int32)) (k := 3) rfl (by decide) (x := (1 : Int32)) (pc := 41) (Ls := #[.val (.ref a1), .val (.ref a2), .val (.int (1 : Int32))]) (rest := []) (hb hby d1_41) rfl
      refine own_step st10 ?_
      replace V_a1 := V_a1.other W10 hne
      replace Zs : n0 ≤ h10.size := by rw [W10.size]; exact Zs
      replace K := K.wr W10 (Or.inl (by simp))
      replace V_a2 := B10
      replace Nf := Fr.snoc X10 Nf g_a2
      show own_Fin _ _ _ _ _ _ _ _ (mkF m 42 #[.val (.ref a1), .val (.ref a2), .val (.int (1 : Int32))] [])
      refine own_retV X10 hx hlk Bd.returns (hb hby d1_42) (by decide) (by decide) e10 ?_
      exact ⟨rfl, Nf, K, (1 : Int32), Or.inr (Or.inl ⟨rfl, by assumption, by assumption⟩), V_a2.congr (by intro i hi; rcases own_four hi with rfl | rfl | rfl | rfl <;> rfl)⟩
    · skip
      refine own_step (fun t k => XS.ifNo X0.here hx rfl (hb hby d1_15) rfl ((if0 _ _).trans (own_cu (x := (f1 21)) (y := (0 : Int32)) rfl rfl hc6).1) k) ?_
      show own_Fin _ _ _ _ _ _ _ _ (mkF m 18 #[.val (.ref a1), .val (.ref a2), .val (.int (1 : Int32))] [])
      refine own_step (fun t k => XS.iinc X0.here hx rfl (hb hby d1_18) rfl (l' := #[.val (.ref a1), .val (.ref a2), .val (.int (2 : Int32))]) rfl k) ?_
      show own_Fin _ _ _ _ _ _ _ _ (mkF m 21 #[.val (.ref a1), .val (.ref a2), .val (.int (2 : Int32))] [])
      refine own_step (fun t k => XS.goto X0.here hx rfl (pc0 := 21) (pc' := 2) rfl (hb hby d1_21) (by decide) (by decide) k) ?_
      show own_Fin _ _ _ _ _ _ _ _ (mkF m 2 #[.val (.ref a1), .val (.ref a2), .val (.int (2 : Int32))] [])
      refine own_step (fun t k => XS.iloadN X0.here hx rfl (hb hby d1_2) rfl k) ?_
      show own_Fin _ _ _ _ _ _ _ _ (mkF m 3 #[.val (.ref a1), .val (.ref a2), .val (.int (2 : Int32))] [(.int (2 : Int32))])
      refine own_step (fun t k => XS.sipush X0.here hx rfl (hb hby d1_3) k) ?_
      show own_Fin _ _ _ _ _ _ _ _ (mkF m 6 #[.val (.ref a1), .val (.ref a2), .val (.int (2 : Int32))] [(.int (256 : Int32)), (.int (2 : Int32))])
      refine own_step (fun t k => XS.icmpNo X0.here hx rfl (hb hby d1_6) rfl (by decide) k) ?_
      show own_Fin _ _ _ _ _ _ _ _ (mkF m 9 #[.val (.ref a1), .val (.ref a2), .val (.int (2 : Int32))] [])
      refine own_step (fun t k => XS.aloadN X0.here hx rfl (hb hby d1_9) rfl rfl k) ?_
      show own_Fin _ _ _ _ _ _ _ _ (mkF m 10 #[.val (.ref a1), .val (.ref a2), .val (.int (2 : Int32))] [(.ref a1)])
      refine own_step (fun t k => XS.bipush X0.here hx rfl (hb hby d1_10) k) ?_
      show own_Fin _ _ _ _ _ _ _ _ (mkF m 12 #[.val (.ref a1), .val (.ref a2), .val (.int (2 : Int32))] [(.int (20 : Int32)), (.ref a1)])
      refine own_step (fun t k => XS.iloadN X0.here hx rfl (hb hby d1_12) rfl k) ?_
      show own_Fin _ _ _ _ _ _ _ _ (mkF m 13 #[.val (.ref a1), .val (.ref a2), .val (.int (2 : Int32))] [(.int (2 : Int32)), (.int (20 : Int32)), (.ref a1)])
      refine own_step (fun t k => XS.iadd X0.here hx rfl (hb hby d1_13) rfl k) ?_
      show own_Fin _ _ _ _ _ _ _ _ (mkF m 14 #[.val (.ref a1), .val (.ref a2), .val (.int (2 : Int32))] [(.int (22 : Int32)), (.ref a1)])
      refine own_baload X0 hx hZ e0 V_a1 (k := 22) rfl (by decide) (v := (f1 22)) rfl (hb hby d1_14) rfl ?_
      show own_Fin _ _ _ _ _ _ _ _ (mkF m 15 #[.val (.ref a1), .val (.ref a2), .val (.int (2 : Int32))] [(.int (f1 22))])
      by_cases hc11 : ((f1 22)).toInt = 0
      · skip
        refine own_step (fun t k => XS.ifYes X0.here hx rfl (pc0 := 15) (pc' := 24) rfl (hb hby d1_15) rfl ((if0 _ _).trans (own_ce (x := (f1 22)) (y := (0 : Int32)) rfl rfl hc11).1) (by decide) (by decide) k) ?_
        show own_Fin _ _ _ _ _ _ _ _ (mkF m 24 #[.val (.ref a1), .val (.ref a2), .val (.int (2 : Int32))] [])
        refine own_step (fun t k => XS.aloadN X0.here hx rfl (hb hby d1_24) rfl rfl k) ?_
        show own_Fin _ _ _ _ _ _ _ _ (mkF m 25 #[.val (.ref a1), .val (.ref a2), .val (.int (2 : Int32))] [(.ref a2)])
        refine own_step (fun t k => XS.iconst X0.here hx rfl (hb hby d1_25) k) ?_
        show own_Fin _ _ _ _ _ _ _ _ (mkF m 26 #[.val (.ref a1), .val (.ref a2), .val (.int (2 : Int32))] [(.int (0 : Int32)), (.ref a2)])
        refine own_step (fun t k => XS.iconst X0.here hx rfl (hb hby d1_26) k) ?_
        show own_Fin _ _ _ _ _ _ _ _ (mkF m 27 #[.val (.ref a1), .val (.ref a2), .val (.int (2 : Int32))] [(.int (0 : Int32)), (.int (0 : Int32)), (.ref a2)])
        obtain ⟨T12, h12, X12, e12, W12, B12, st12⟩ := own_iastore X0 hx hZ e0 V_a2 (j := (0 : Int32)) (k := 0) rfl (by decide) (x := (0 : Int32)) (pc := 27) (Ls := #[.val (.ref a1), .val (.ref a2), .val (.int (2 : Int32))]) (rest := []) (hb hby d1_27) rfl
        refine own_step st12 ?_
        replace V_a1 := V_a1.other W12 hne
        replace Zs : n0 ≤ h12.size := by rw [W12.size]; exact Zs
        replace K := K.wr W12 (Or.inl (by simp))
        replace V_a2 := B12
        replace Nf := Fr.snoc X12 Nf g_a2
        show own_Fin _ _ _ _ _ _ _ _ (mkF m 28 #[.val (.ref a1), .val (.ref a2), .val (.int (2 : Int32))] [])
        refine own_step (fun t k => XS.aloadN X12.here hx rfl (hb hby d1_28) rfl rfl k) ?_
        show own_Fin _ _ _ _ _ _ _ _ (mkF m 29 #[.val (.ref a1), .val (.ref a2), .val (.int (2 : Int32))] [(.ref a2)])
        refine own_step (fun t k => XS.iconst X12.here hx rfl (hb hby d1_29) k) ?_
        show own_Fin _ _ _ _ _ _ _ _ (mkF m 30 #[.val (.ref a1), .val (.ref a2), .val (.int (2 : Int32))] [(.int (1 : Int32)), (.ref a2)])
        refine own_step (fun t k => XS.bipush X12.here hx rfl (hb hby d1_30) k) ?_
        show own_Fin _ _ _ _ _ _ _ _ (mkF m 32 #[.val (.ref a1), .val (.ref a2), .val (.int (2 : Int32))] [(.int (20 : Int32)), (.int (1 : Int32)), (.ref a2)])
        obtain ⟨T13, h13, X13, e13, W13, B13, st13⟩ := own_iastore X12 hx hZ e12 V_a2 (j := (1 : Int32)) (k := 1) rfl (by decide) (x := (20 : Int32)) (pc := 32) (Ls := #[.val (.ref a1), .val (.ref a2), .val (.int (2 : Int32))]) (rest := []) (hb hby d1_32) rfl
        refine own_step st13 ?_
        replace V_a1 := V_a1.other W13 hne
        replace Zs : n0 ≤ h13.size := by rw [W13.size]; exact Zs
        replace K := K.wr W13 (Or.inl (by simp))
        replace V_a2 := B13
        replace Nf := Fr.snoc X13 Nf g_a2
        show own_Fin _ _ _ _ _ _ _ _ (mkF m 33 #[.val (.ref a1), .val (.ref a2), .val (.int (2 : Int32))] [])
        refine own_step (fun t k => XS.aloadN X13.here hx rfl (hb hby d1_33) rfl rfl k) ?_
        show own_Fin _ _ _ _ _ _ _ _ (mkF m 34 #[.val (.ref a1), .val (.ref a2), .val (.int (2 : Int32))] [(.ref a2)])
        refine own_step (fun t k => XS.iconst X13.here hx rfl (hb hby d1_34) k) ?_
        show own_Fin _ _ _ _ _ _ _ _ (mkF m 35 #[.val (.ref a1), .val (.ref a2), .val (.int (2 : Int32))] [(.int (2 : Int32)), (.ref a2)])
        refine own_step (fun t k => XS.bipush X13.here hx rfl (hb hby d1_35) k) ?_
        show own_Fin _ _ _ _ _ _ _ _ (mkF m 37 #[.val (.ref a1), .val (.ref a2), .val (.int (2 : Int32))] [(.int (20 : Int32)), (.int (2 : Int32)), (.ref a2)])
        obtain ⟨T14, h14, X14, e14, W14, B14, st14⟩ := own_iastore X13 hx hZ e13 V_a2 (j := (2 : Int32)) (k := 2) rfl (by decide) (x := (20 : Int32)) (pc := 37) (Ls := #[.val (.ref a1), .val (.ref a2), .val (.int (2 : Int32))]) (rest := []) (hb hby d1_37) rfl
        refine own_step st14 ?_
        replace V_a1 := V_a1.other W14 hne
        replace Zs : n0 ≤ h14.size := by rw [W14.size]; exact Zs
        replace K := K.wr W14 (Or.inl (by simp))
        replace V_a2 := B14
        replace Nf := Fr.snoc X14 Nf g_a2
        show own_Fin _ _ _ _ _ _ _ _ (mkF m 38 #[.val (.ref a1), .val (.ref a2), .val (.int (2 : Int32))] [])
        refine own_step (fun t k => XS.aloadN X14.here hx rfl (hb hby d1_38) rfl rfl k) ?_
        show own_Fin _ _ _ _ _ _ _ _ (mkF m 39 #[.val (.ref a1), .val (.ref a2), .val (.int (2 : Int32))] [(.ref a2)])
        refine own_step (fun t k => XS.iconst X14.here hx rfl (hb hby d1_39) k) ?_
        show own_Fin _ _ _ _ _ _ _ _ (mkF m 40 #[.val (.ref a1), .val (.ref a2), .val (.int (2 : Int32))] [(.int (3 : Int32)), (.ref a2)])
        refine own_step (fun t k => XS.iloadN X14.here hx rfl (hb hby d1_40) rfl k) ?_
        show own_Fin _ _ _ _ _ _ _ _ (mkF m 41 #[.val (.ref a1), .val (.ref a2), .val (.int (2 : Int32))] [(.int (2 : Int32)), (.int (3 : Int32)), (.ref a2)])
        obtain ⟨T15, h15, X15, e15, W15, B15, st15⟩ := own_iastore X14 hx hZ e14 V_a2 (j := (3 : Int32)) (k := 3) rfl (by decide) (x := (2 : Int32)) (pc := 41) (Ls := #[.val (.ref a1), .val (.ref a2), .val (.int (2 : Int32))]) (rest := []) (hb hby d1_41) rfl
        refine own_step st15 ?_
        replace V_a1 := V_a1.other W15 hne
        replace Zs : n0 ≤ h15.size := by rw [W15.size]; exact Zs
        replace K := K.wr W15 (Or.inl (by simp))
        replace V_a2 := B15
        replace Nf := Fr.snoc X15 Nf g_a2
        show own_Fin _ _ _ _ _ _ _ _ (mkF m 42 #[.val (.ref a1), .val (.ref a2), .val (.int (2 : Int32))] [])
        refine own_retV X15 hx hlk Bd.returns (hb hby d1_42) (by decide) (by decide) e15 ?_
        exact ⟨rfl, Nf, K, (2 : Int32), Or.inr (Or.inr (Or.inl ⟨rfl, by assumption, by assumption, by assumption⟩)), V_a2.congr (by intro i hi; rcases own_four hi with rfl | rfl | rfl | rfl <;> rfl)⟩
      · skip
        refine own_step (fun t k => XS.ifNo X0.here hx rfl (hb hby d1_15) rfl ((if0 _ _).trans (own_cu (x := (f1 22)) (y := (0 : Int32)) rfl rfl hc11).1) k) ?_
        show own_Fin _ _ _ _ _ _ _ _ (mkF m 18 #[.val (.ref a1), .val (.ref a2), .val (.int (2 : Int32))] [])
        refine own_step (fun t k => XS.iinc X0.here hx rfl (hb hby d1_18) rfl (l' := #[.val (.ref a1), .val (.ref a2), .val (.int (3 : Int32))]) rfl k) ?_
        show own_Fin _ _ _ _ _ _ _ _ (mkF m 21 #[.val (.ref a1), .val (.ref a2), .val (.int (3 : Int32))] [])
        refine own_step (fun t k => XS.goto X0.here hx rfl (pc0 := 21) (pc' := 2) rfl (hb hby d1_21) (by decide) (by decide) k) ?_
        show own_Fin _ _ _ _ _ _ _ _ (mkF m 2 #[.val (.ref a1), .val (.ref a2), .val (.int (3 : Int32))] [])
        refine own_step (fun t k => XS.iloadN X0.here hx rfl (hb hby d1_2) rfl k) ?_
        show own_Fin _ _ _ _ _ _ _ _ (mkF m 3 #[.val (.ref a1), .val (.ref a2), .val (.int (3 : Int32))] [(.int (3 : Int32))])
        refine own_step (fun t k => XS.sipush X0.here hx rfl (hb hby d1_3) k) ?_
        show own_Fin _ _ _ _ _ _ _ _ (mkF m 6 #[.val (.ref a1), .val (.ref a2), .val (.int (3 : Int32))] [(.int (256 : Int32)), (.int (3 : Int32))])
        refine own_step (fun t k => XS.icmpNo X0.here hx rfl (hb hby d1_6) rfl (by decide) k) ?_
        show own_Fin _ _ _ _ _ _ _ _ (mkF m 9 #[.val (.ref a1), .val (.ref a2), .val (.int (3 : Int32))] [])
        refine own_step (fun t k => XS.aloadN X0.here hx rfl (hb hby d1_9) rfl rfl k) ?_
        show own_Fin _ _ _ _ _ _ _ _ (mkF m 10 #[.val (.ref a1), .val (.ref a2), .val (.int (3 : Int32))] [(.ref a1)])
        refine own_step (fun t k => XS.bipush X0.here hx rfl (hb hby d1_10) k) ?_
        show own_Fin _ _ _ _ _ _ _ _ (mkF m 12 #[.val (.ref a1), .val (.ref a2), .val (.int (3 : Int32))] [(.int (20 : Int32)), (.ref a1)])
        refine own_step (fun t k => XS.iloadN X0.here hx rfl (hb hby d1_12) rfl k) ?_
        show own_Fin _ _ _ _ _ _ _ _ (mkF m 13 #[.val (.ref a1), .val (.ref a2), .val (.int (3 : Int32))] [(.int (3 : Int32)), (.int (20 : Int32)), (.ref a1)])
        refine own_step (fun t k => XS.iadd X0.here hx rfl (hb hby d1_13) rfl k) ?_
        show own_Fin _ _ _ _ _ _ _ _ (mkF m 14 #[.val (.ref a1), .val (.ref a2), .val (.int (3 : Int32))] [(.int (23 : Int32)), (.ref a1)])
        refine own_baload X0 hx hZ e0 V_a1 (k := 23) rfl (by decide) (v := (f1 23)) rfl (hb hby d1_14) rfl ?_
        show own_Fin _ _ _ _ _ _ _ _ (mkF m 15 #[.val (.ref a1), .val (.ref a2), .val (.int (3 : Int32))] [(.int (f1 23))])
        by_cases hc16 : ((f1 23)).toInt = 0
        · skip
          refine own_step (fun t k => XS.ifYes X0.here hx rfl (pc0 := 15) (pc' := 24) rfl (hb hby d1_15) rfl ((if0 _ _).trans (own_ce (x := (f1 23)) (y := (0 : Int32)) rfl rfl hc16).1) (by decide) (by decide) k) ?_
          show own_Fin _ _ _ _ _ _ _ _ (mkF m 24 #[.val (.ref a1), .val (.ref a2), .val (.int (3 : Int32))] [])
          refine own_step (fun t k => XS.aloadN X0.here hx rfl (hb hby d1_24) rfl rfl k) ?_
          show own_Fin _ _ _ _ _ _ _ _ (mkF m 25 #[.val (.ref a1), .val (.ref a2), .val (.int (3 : Int32))] [(.ref a2)])
          refine own_step (fun t k => XS.iconst X0.here hx rfl (hb hby d1_25) k) ?_
          show own_Fin _ _ _ _ _ _ _ _ (mkF m 26 #[.val (.ref a1), .val (.ref a2), .val (.int (3 : Int32))] [(.int (0 : Int32)), (.ref a2)])
          refine own_step (fun t k => XS.iconst X0.here hx rfl (hb hby d1_26) k) ?_
          show own_Fin _ _ _ _ _ _ _ _ (mkF m 27 #[.val (.ref a1), .val (.ref a2), .val (.int (3 : Int32))] [(.int (0 : Int32)), (.int (0 : Int32)), (.ref a2)])
          obtain ⟨T17, h17, X17, e17, W17, B17, st17⟩ := own_iastore X0 hx hZ e0 V_a2 (j := (0 : Int32)) (k := 0) rfl (by decide) (x := (0 : Int32)) (pc := 27) (Ls := #[.val (.ref a1), .val (.ref a2), .val (.int (3 : Int32))]) (rest := []) (hb hby d1_27) rfl
          refine own_step st17 ?_
          replace V_a1 := V_a1.other W17 hne
          replace Zs : n0 ≤ h17.size := by rw [W17.size]; exact Zs
          replace K := K.wr W17 (Or.inl (by simp))
          replace V_a2 := B17
          replace Nf := Fr.snoc X17 Nf g_a2
          show own_Fin _ _ _ _ _ _ _ _ (mkF m 28 #[.val (.ref a1), .val (.ref a2), .val (.int (3 : Int32))] [])
          refine own_step (fun t k => XS.aloadN X17.here hx rfl (hb hby d1_28) rfl rfl k) ?_
          show own_Fin _ _ _ _ _ _ _ _ (mkF m 29 #[.val (.ref a1), .val (.ref a2), .val (.int (3 : Int32))] [(.ref a2)])
          refine own_step (fun t k => XS.iconst X17.here hx rfl (hb hby d1_29) k) ?_
          show own_Fin _ _ _ _ _ _ _ _ (mkF m 30 #[.val (.ref a1), .val (.ref a2), .val (.int (3 : Int32))] [(.int (1 : Int32)), (.ref a2)])
          refine own_step (fun t k => XS.bipush X17.here hx rfl (hb hby d1_30) k) ?_
          show own_Fin _ _ _ _ _ _ _ _ (mkF m 32 #[.val (.ref a1), .val (.ref a2), .val (.int (3 : Int32))] [(.int (20 : Int32)), (.int (1 : Int32)), (.ref a2)])
          obtain ⟨T18, h18, X18, e18, W18, B18, st18⟩ := own_iastore X17 hx hZ e17 V_a2 (j := (1 : Int32)) (k := 1) rfl (by decide) (x := (20 : Int32)) (pc := 32) (Ls := #[.val (.ref a1), .val (.ref a2), .val (.int (3 : Int32))]) (rest := []) (hb hby d1_32) rfl
          refine own_step st18 ?_
          replace V_a1 := V_a1.other W18 hne
          replace Zs : n0 ≤ h18.size := by rw [W18.size]; exact Zs
          replace K := K.wr W18 (Or.inl (by simp))
          replace V_a2 := B18
          replace Nf := Fr.snoc X18 Nf g_a2
          show own_Fin _ _ _ _ _ _ _ _ (mkF m 33 #[.val (.ref a1), .val (.ref a2), .val (.int (3 : Int32))] [])
          refine own_step (fun t k => XS.aloadN X18.here hx rfl (hb hby d1_33) rfl rfl k) ?_
          show own_Fin _ _ _ _ _ _ _ _ (mkF m 34 #[.val (.ref a1), .val (.ref a2), .val (.int (3 : Int32))] [(.ref a2)])
          refine own_step (fun t k => XS.iconst X18.here hx rfl (hb hby d1_34) k) ?_
          show own_Fin _ _ _ _ _ _ _ _ (mkF m 35 #[.val (.ref a1), .val (.ref a2), .val (.int (3 : Int32))] [(.int (2 : Int32)), (.ref a2)])
          refine own_step (fun t k => XS.bipush X18.here hx rfl (hb hby d1_35) k) ?_
          show own_Fin _ _ _ _ _ _ _ _ (mkF m 37 #[.val (.ref a1), .val (.ref a2), .val (.int (3 : Int32))] [(.int (20 : Int32)), (.int (2 : Int32)), (.ref a2)])
          obtain ⟨T19, h19, X19, e19, W19, B19, st19⟩ := own_iastore X18 hx hZ e18 V_a2 (j := (2 : Int32)) (k := 2) rfl (by decide) (x := (20 : Int32)) (pc := 37) (Ls := #[.val (.ref a1), .val (.ref a2), .val (.int (3 : Int32))]) (rest := []) (hb hby d1_37) rfl
          refine own_step st19 ?_
          replace V_a1 := V_a1.other W19 hne
          replace Zs : n0 ≤ h19.size := by rw [W19.size]; exact Zs
          replace K := K.wr W19 (Or.inl (by simp))
          replace V_a2 := B19
          replace Nf := Fr.snoc X19 Nf g_a2
          show own_Fin _ _ _ _ _ _ _ _ (mkF m 38 #[.val (.ref a1), .val (.ref a2), .val (.int (3 : Int32))] [])
          refine own_step (fun t k => XS.aloadN X19.here hx rfl (hb hby d1_38) rfl rfl k) ?_
          show own_Fin _ _ _ _ _ _ _ _ (mkF m 39 #[.val (.ref a1), .val (.ref a2), .val (.int (3 : Int32))] [(.ref a2)])
          refine own_step (fun t k => XS.iconst X19.here hx rfl (hb hby d1_39) k) ?_
          show own_Fin _ _ _ _ _ _ _ _ (mkF m 40 #[.val (.ref a1), .val (.ref a2), .val (.int (3 : Int32))] [(.int (3 : Int32)), (.ref a2)])
          refine own_step (fun t k => XS.iloadN X19.here hx rfl (hb hby d1_40) rfl k) ?_
          show own_Fin _ _ _ _ _ _ _ _ (mkF m 41 #[.val (.ref a1), .val (.ref a2), .val (.int (3 : Int32))] [(.int (3 : Int32)), (.int (3 : Int32)), (.ref a2)])
          obtain ⟨T20, h20, X20, e20, W20, B20, st20⟩ := own_iastore X19 hx hZ e19 V_a2 (j := (3 : Int32)) (k := 3) rfl (by decide) (x := (3 : Int32)) (pc := 41) (Ls := #[.val (.ref a1), .val (.ref a2), .val (.int (3 : Int32))]) (rest := []) (hb hby d1_41) rfl
          refine own_step st20 ?_
          replace V_a1 := V_a1.other W20 hne
          replace Zs : n0 ≤ h20.size := by rw [W20.size]; exact Zs
          replace K := K.wr W20 (Or.inl (by simp))
          replace V_a2 := B20
          replace Nf := Fr.snoc X20 Nf g_a2
          show own_Fin _ _ _ _ _ _ _ _ (mkF m 42 #[.val (.ref a1), .val (.ref a2), .val (.int (3 : Int32))] [])
          refine own_retV X20 hx hlk Bd.returns (hb hby d1_42) (by decide) (by decide) e20 ?_
          exact ⟨rfl, Nf, K, (3 : Int32), Or.inr (Or.inr (Or.inr (Or.inl ⟨rfl, by assumption, by assumption, by assumption, by assumption⟩))), V_a2.congr (by intro i hi; rcases own_four hi with rfl | rfl | rfl | rfl <;> rfl)⟩
        · skip
          refine own_step (fun t k => XS.ifNo X0.here hx rfl (hb hby d1_15) rfl ((if0 _ _).trans (own_cu (x := (f1 23)) (y := (0 : Int32)) rfl rfl hc16).1) k) ?_
          show own_Fin _ _ _ _ _ _ _ _ (mkF m 18 #[.val (.ref a1), .val (.ref a2), .val (.int (3 : Int32))] [])
          refine own_step (fun t k => XS.iinc X0.here hx rfl (hb hby d1_18) rfl (l' := #[.val (.ref a1), .val (.ref a2), .val (.int (4 : Int32))]) rfl k) ?_
          show own_Fin _ _ _ _ _ _ _ _ (mkF m 21 #[.val (.ref a1), .val (.ref a2), .val (.int (4 : Int32))] [])
          refine own_step (fun t k => XS.goto X0.here hx rfl (pc0 := 21) (pc' := 2) rfl (hb hby d1_21) (by decide) (by decide) k) ?_
          show own_Fin _ _ _ _ _ _ _ _ (mkF m 2 #[.val (.ref a1), .val (.ref a2), .val (.int (4 : Int32))] [])
          refine own_step (fun t k => XS.iloadN X0.here hx rfl (hb hby d1_2) rfl k) ?_
          show own_Fin _ _ _ _ _ _ _ _ (mkF m 3 #[.val (.ref a1), .val (.ref a2), .val (.int (4 : Int32))] [(.int (4 : Int32))])
          refine own_step (fun t k => XS.sipush X0.here hx rfl (hb hby d1_3) k) ?_
          show own_Fin _ _ _ _ _ _ _ _ (mkF m 6 #[.val (.ref a1), .val (.ref a2), .val (.int (4 : Int32))] [(.int (256 : Int32)), (.int (4 : Int32))])
          refine own_step (fun t k => XS.icmpNo X0.here hx rfl (hb hby d1_6) rfl (by decide) k) ?_
          show own_Fin _ _ _ _ _ _ _ _ (mkF m 9 #[.val (.ref a1), .val (.ref a2), .val (.int (4 : Int32))] [])
          refine own_step (fun t k => XS.aloadN X0.here hx rfl (hb hby d1_9) rfl rfl k) ?_
          show own_Fin _ _ _ _ _ _ _ _ (mkF m 10 #[.val (.ref a1), .val (.ref a2), .val (.int (4 : Int32))] [(.ref a1)])
          refine own_step (fun t k => XS.bipush X0.here hx rfl (hb hby d1_10) k) ?_
          show own_Fin _ _ _ _ _ _ _ _ (mkF m 12 #[.val (.ref a1), .val (.ref a2), .val (.int (4 : Int32))] [(.int (20 : Int32)), (.ref a1)])
          refine own_step (fun t k => XS.iloadN X0.here hx rfl (hb hby d1_12) rfl k) ?_
          show own_Fin _ _ _ _ _ _ _ _ (mkF m 13 #[.val (.ref a1), .val (.ref a2), .val (.int (4 : Int32))] [(.int (4 : Int32)), (.int (20 : Int32)), (.ref a1)])
          refine own_step (fun t k => XS.iadd X0.here hx rfl (hb hby d1_13) rfl k) ?_
          show own_Fin _ _ _ _ _ _ _ _ (mkF m 14 #[.val (.ref a1), .val (.ref a2), .val (.int (4 : Int32))] [(.int (24 : Int32)), (.ref a1)])
          refine own_baload X0 hx hZ e0 V_a1 (k := 24) rfl (by decide) (v := (f1 24)) rfl (hb hby d1_14) rfl ?_
          show own_Fin _ _ _ _ _ _ _ _ (mkF m 15 #[.val (.ref a1), .val (.ref a2), .val (.int (4 : Int32))] [(.int (f1 24))])
          by_cases hc21 : ((f1 24)).toInt = 0
          · skip
            refine own_step (fun t k => XS.ifYes X0.here hx rfl (pc0 := 15) (pc' := 24) rfl (hb hby d1_15) rfl ((if0 _ _).trans (own_ce (x := (f1 24)) (y := (0 : Int32)) rfl rfl hc21).1) (by decide) (by decide) k) ?_
            show own_Fin _ _ _ _ _ _ _ _ (mkF m 24 #[.val (.ref a1), .val (.ref a2), .val (.int (4 : Int32))] [])
            refine own_step (fun t k => XS.aloadN X0.here hx rfl (hb hby d1_24) rfl rfl k) ?_
            show own_Fin _ _ _ _ _ _ _ _ (mkF m 25 #[.val (.ref a1), .val (.ref a2), .val (.int (4 : Int32))] [(.ref a2)])
            refine own_step (fun t k => XS.iconst X0.here hx rfl (hb hby d1_25) k) ?_
            show own_Fin _ _ _ _ _ _ _ _ (mkF m 26 #[.val (.ref a1), .val (.ref a2), .val (.int (4 : Int32))] [(.int (0 : Int32)), (.ref a2)])
            refine own_step (fun t k => XS.iconst X0.here hx rfl (hb hby d1_26) k) ?_
            show own_Fin _ _ _ _ _ _ _ _ (mkF m 27 #[.val (.ref a1), .val (.ref a2), .val (.int (4 : Int32))] [(.int (0 : Int32)), (.int (0 : Int32)), (.ref a2)])
            obtain ⟨T22, h22, X22, e22, W22, B22, st22⟩ := own_iastore X0 hx hZ e0 V_a2 (j := (0 : Int32)) (k := 0) rfl (by decide) (x := (0 : Int32)) (pc := 27) (Ls := #[.val (.ref a1), .val (.ref a2), .val (.int (4 : Int32))]) (rest := []) (hb hby d1_27) rfl
            refine own_step st22 ?_
            replace V_a1 := V_a1.other W22 hne
            replace Zs : n0 ≤ h22.size := by rw [W22.size]; exact Zs
            replace K := K.wr W22 (Or.inl (by simp))
            replace V_a2 := B22
            replace Nf := Fr.snoc X22 Nf g_a2
            show own_Fin _ _ _ _ _ _ _ _ (mkF m 28 #[.val (.ref a1), .val (.ref a2), .val (.int (4 : Int32))] [])
            refine own_step (fun t k => XS.aloadN X22.here hx rfl (hb hby d1_28) rfl rfl k) ?_
            show own_Fin _ _ _ _ _ _ _ _ (mkF m 29 #[.val (.ref a1), .val (.ref a2), .val (.int (4 : Int32))] [(.ref a2)])
            refine own_step (fun t k => XS.iconst X22.here hx rfl (hb hby d1_29) k) ?_
            show own_Fin _ _ _ _ _ _ _ _ (mkF m 30 #[.val (.ref a1), .val (.ref a2), .val (.int (4 : Int32))] [(.int (1 : Int32)), (.ref a2)])
            refine own_step (fun t k => XS.bipush X22.here hx rfl (hb hby d1_30) k) ?_
            show own_Fin _ _ _ _ _ _ _ _ (mkF m 32 #[.val (.ref a1), .val (.ref a2), .val (.int (4 : Int32))] [(.int (20 : Int32)), (.int (1 : Int32)), (.ref a2)])
            obtain ⟨T23, h23, X23, e23, W23, B23, st23⟩ := own_iastore X22 hx hZ e22 V_a2 (j := (1 : Int32)) (k := 1) rfl (by decide) (x := (20 : Int32)) (pc := 32) (Ls := #[.val (.ref a1), .val (.ref a2), .val (.int (4 : Int32))]) (rest := []) (hb hby d1_32) rfl
            refine own_step st23 ?_
            replace V_a1 := V_a1.other W23 hne
            replace Zs : n0 ≤ h23.size := by rw [W23.size]; exact Zs
            replace K := K.wr W23 (Or.inl (by simp))
            replace V_a2 := B23
            replace Nf := Fr.snoc X23 Nf g_a2
            show own_Fin _ _ _ _ _ _ _ _ (mkF m 33 #[.val (.ref a1), .val (.ref a2), .val (.int (4 : Int32))] [])
            refine own_step (fun t k => XS.aloadN X23.here hx rfl (hb hby d1_33) rfl rfl k) ?_
            show own_Fin _ _ _ _ _ _ _ _ (mkF m 34 #[.val (.ref a1), .val (.ref a2), .val (.int (4 : Int32))] [(.ref a2)])
            refine own_step (fun t k => XS.iconst X23.here hx rfl (hb hby d1_34) k) ?_
            show own_Fin _ _ _ _ _ _ _ _ (mkF m 35 #[.val (.ref a1), .val (.ref a2), .val (.int (4 : Int32))] [(.int (2 : Int32)), (.ref a2)])
            refine own_step (fun t k => XS.bipush X23.here hx rfl (hb hby d1_35) k) ?_
            show own_Fin _ _ _ _ _ _ _ _ (mkF m 37 #[.val (.ref a1), .val (.ref a2), .val (.int (4 : Int32))] [(.int (20 : Int32)), (.int (2 : Int32)), (.ref a2)])
            obtain ⟨T24, h24, X24, e24, W24, B24, st24⟩ := own_iastore X23 hx hZ e23 V_a2 (j := (2 : Int32)) (k := 2) rfl (by decide) (x := (20 : Int32)) (pc := 37) (Ls := #[.val (.ref a1), .val (.ref a2), .val (.int (4 : Int32))]) (rest := []) (hb hby d1_37) rfl
            refine own_step st24 ?_
            replace V_a1 := V_a1.other W24 hne
            replace Zs : n0 ≤ h24.size := by rw [W24.size]; exact Zs
            replace K := K.wr W24 (Or.inl (by simp))
            replace V_a2 := B24
            replace Nf := Fr.snoc X24 Nf g_a2
            show own_Fin _ _ _ _ _ _ _ _ (mkF m 38 #[.val (.ref a1), .val (.ref a2), .val (.int (4 : Int32))] [])
            refine own_step (fun t k => XS.aloadN X24.here hx rfl (hb hby d1_38) rfl rfl k) ?_
            show own_Fin _ _ _ _ _ _ _ _ (mkF m 39 #[.val (.ref a1), .val (.ref a2), .val (.int (4 : Int32))] [(.ref a2)])
            refine own_step (fun t k => XS.iconst X24.here hx rfl (hb hby d1_39) k) ?_
            show own_Fin _ _ _ _ _ _ _ _ (mkF m 40 #[.val (.ref a1), .val (.ref a2), .val (.int (4 : Int32))] [(.int (3 : Int32)), (.ref a2)])
            refine own_step (fun t k => XS.iloadN X24.here hx rfl (hb hby d1_40) rfl k) ?_
            show own_Fin _ _ _ _ _ _ _ _ (mkF m 41 #[.val (.ref a1), .val (.ref a2), .val (.int (4 : Int32))] [(.int (4 : Int32)), (.int (3 : Int32)), (.ref a2)])
            obtain ⟨T25, h25, X25, e25, W25, B25, st25⟩ := own_iastore X24 hx hZ e24 V_a2 (j := (3 : Int32)) (k := 3) rfl (by decide) (x := (4 : Int32)) (pc := 41) (Ls := #[.val (.ref a1), .val (.ref a2), .val (.int (4 : Int32))]) (rest := []) (hb hby d1_41) rfl
            refine own_step st25 ?_
            replace V_a1 := V_a1.other W25 hne
            replace Zs : n0 ≤ h25.size := by rw [W25.size]; exact Zs
            replace K := K.wr W25 (Or.inl (by simp))
            replace V_a2 := B25
            replace Nf := Fr.snoc X25 Nf g_a2
            show own_Fin _ _ _ _ _ _ _ _ (mkF m 42 #[.val (.ref a1), .val (.ref a2), .val (.int (4 : Int32))] [])
            refine own_retV X25 hx hlk Bd.returns (hb hby d1_42) (by decide) (by decide) e25 ?_
            exact ⟨rfl, Nf, K, (4 : Int32), Or.inr (Or.inr (Or.inr (Or.inr (Or.inl ⟨rfl, by assumption, by assumption, by assumption, by assumption, by assumption⟩)))), V_a2.congr (by intro i hi; rcases own_four hi with rfl | rfl | rfl | rfl <;> rfl)⟩
          · skip
            refine own_step (fun t k => XS.ifNo X0.here hx rfl (hb hby d1_15) rfl ((if0 _ _).trans (own_cu (x := (f1 24)) (y := (0 : Int32)) rfl rfl hc21).1) k) ?_
            show own_Fin _ _ _ _ _ _ _ _ (mkF m 18 #[.val (.ref a1), .val (.ref a2), .val (.int (4 : Int32))] [])
            refine own_step (fun t k => XS.iinc X0.here hx rfl (hb hby d1_18) rfl (l' := #[.val (.ref a1), .val (.ref a2), .val (.int (5 : Int32))]) rfl k) ?_
            show own_Fin _ _ _ _ _ _ _ _ (mkF m 21 #[.val (.ref a1), .val (.ref a2), .val (.int (5 : Int32))] [])
            refine own_step (fun t k => XS.goto X0.here hx rfl (pc0 := 21) (pc' := 2) rfl (hb hby d1_21) (by decide) (by decide) k) ?_
            show own_Fin _ _ _ _ _ _ _ _ (mkF m 2 #[.val (.ref a1), .val (.ref a2), .val (.int (5 : Int32))] [])
            refine own_step (fun t k => XS.iloadN X0.here hx rfl (hb hby d1_2) rfl k) ?_
            show own_Fin _ _ _ _ _ _ _ _ (mkF m 3 #[.val (.ref a1), .val (.ref a2), .val (.int (5 : Int32))] [(.int (5 : Int32))])
            refine own_step (fun t k => XS.sipush X0.here hx rfl (hb hby d1_3) k) ?_
            show own_Fin _ _ _ _ _ _ _ _ (mkF m 6 #[.val (.ref a1), .val (.ref a2), .val (.int (5 : Int32))] [(.int (256 : Int32)), (.int (5 : Int32))])
            refine own_step (fun t k => XS.icmpNo X0.here hx rfl (hb hby d1_6) rfl (by decide) k) ?_
            show own_Fin _ _ _ _ _ _ _ _ (mkF m 9 #[.val (.ref a1), .val (.ref a2), .val (.int (5 : Int32))] [])
            refine own_step (fun t k => XS.aloadN X0.here hx rfl (hb hby d1_9) rfl rfl k) ?_
            show own_Fin _ _ _ _ _ _ _ _ (mkF m 10 #[.val (.ref a1), .val (.ref a2), .val (.int (5 : Int32))] [(.ref a1)])
            refine own_step (fun t k => XS.bipush X0.here hx rfl (hb hby d1_10) k) ?_
            show own_Fin _ _ _ _ _ _ _ _ (mkF m 12 #[.val (.ref a1), .val (.ref a2), .val (.int (5 : Int32))] [(.int (20 : Int32)), (.ref a1)])
            refine own_step (fun t k => XS.iloadN X0.here hx rfl (hb hby d1_12) rfl k) ?_
            show own_Fin _ _ _ _ _ _ _ _ (mkF m 13 #[.val (.ref a1), .val (.ref a2), .val (.int (5 : Int32))] [(.int (5 : Int32)), (.int (20 : Int32)), (.ref a1)])
            refine own_step (fun t k => XS.iadd X0.here hx rfl (hb hby d1_13) rfl k) ?_
            show own_Fin _ _ _ _ _ _ _ _ (mkF m 14 #[.val (.ref a1), .val (.ref a2), .val (.int (5 : Int32))] [(.int (25 : Int32)), (.ref a1)])
            refine own_baload X0 hx hZ e0 V_a1 (k := 25) rfl (by decide) (v := (f1 25)) rfl (hb hby d1_14) rfl ?_
            show own_Fin _ _ _ _ _ _ _ _ (mkF m 15 #[.val (.ref a1), .val (.ref a2), .val (.int (5 : Int32))] [(.int (f1 25))])
            have hc26 : ((f1 25)).toInt = 0 := hz (by assumption)
            refine own_step (fun t k => XS.ifYes X0.here hx rfl (pc0 := 15) (pc' := 24) rfl (hb hby d1_15) rfl ((if0 _ _).trans (own_ce (x := (f1 25)) (y := (0 : Int32)) rfl rfl hc26).1) (by decide) (by decide) k) ?_
            show own_Fin _ _ _ _ _ _ _ _ (mkF m 24 #[.val (.ref a1), .val (.ref a2), .val (.int (5 : Int32))] [])
            refine own_step (fun t k => XS.aloadN X0.here hx rfl (hb hby d1_24) rfl rfl k) ?_
            show own_Fin _ _ _ _ _ _ _ _ (mkF m 25 #[.val (.ref a1), .val (.ref a2), .val (.int (5 : Int32))] [(.ref a2)])
            refine own_step (fun t k => XS.iconst X0.here hx rfl (hb hby d1_25) k) ?_
            show own_Fin _ _ _ _ _ _ _ _ (mkF m 26 #[.val (.ref a1), .val (.ref a2), .val (.int (5 : Int32))] [(.int (0 : Int32)), (.ref a2)])
            refine own_step (fun t k => XS.iconst X0.here hx rfl (hb hby d1_26) k) ?_
            show own_Fin _ _ _ _ _ _ _ _ (mkF m 27 #[.val (.ref a1), .val (.ref a2), .val (.int (5 : Int32))] [(.int (0 : Int32)), (.int (0 : Int32)), (.ref a2)])
            obtain ⟨T27, h27, X27, e27, W27, B27, st27⟩ := own_iastore X0 hx hZ e0 V_a2 (j := (0 : Int32)) (k := 0) rfl (by decide) (x := (0 : Int32)) (pc := 27) (Ls := #[.val (.ref a1), .val (.ref a2), .val (.int (5 : Int32))]) (rest := []) (hb hby d1_27) rfl
            refine own_step st27 ?_
            replace V_a1 := V_a1.other W27 hne
            replace Zs : n0 ≤ h27.size := by rw [W27.size]; exact Zs
            replace K := K.wr W27 (Or.inl (by simp))
            replace V_a2 := B27
            replace Nf := Fr.snoc X27 Nf g_a2
            show own_Fin _ _ _ _ _ _ _ _ (mkF m 28 #[.val (.ref a1), .val (.ref a2), .val (.int (5 : Int32))] [])
            refine own_step (fun t k => XS.aloadN X27.here hx rfl (hb hby d1_28) rfl rfl k) ?_
            show own_Fin _ _ _ _ _ _ _ _ (mkF m 29 #[.val (.ref a1), .val (.ref a2), .val (.int (5 : Int32))] [(.ref a2)])
            refine own_step (fun t k => XS.iconst X27.here hx rfl (hb hby d1_29) k) ?_
            show own_Fin _ _ _ _ _ _ _ _ (mkF m 30 #[.val (.ref a1), .val (.ref a2), .val (.int (5 : Int32))] [(.int (1 : Int32)), (.ref a2)])
            refine own_step (fun t k => XS.bipush X27.here hx rfl (hb hby d1_30) k) ?_
            show own_Fin _ _ _ _ _ _ _ _ (mkF m 32 #[.val (.ref a1), .val (.ref a2), .val (.int (5 : Int32))] [(.int (20 : Int32)), (.int (1 : Int32)), (.ref a2)])
            obtain ⟨T28, h28, X28, e28, W28, B28, st28⟩ := own_iastore X27 hx hZ e27 V_a2 (j := (1 : Int32)) (k := 1) rfl (by decide) (x := (20 : Int32)) (pc := 32) (Ls := #[.val (.ref a1), .val (.ref a2), .val (.int (5 : Int32))]) (rest := []) (hb hby d1_32) rfl
            refine own_step st28 ?_
            replace V_a1 := V_a1.other W28 hne
            replace Zs : n0 ≤ h28.size := by rw [W28.size]; exact Zs
            replace K := K.wr W28 (Or.inl (by simp))
            replace V_a2 := B28
            replace Nf := Fr.snoc X28 Nf g_a2
            show own_Fin _ _ _ _ _ _ _ _ (mkF m 33 #[.val (.ref a1), .val (.ref a2), .val (.int (5 : Int32))] [])
            refine own_step (fun t k => XS.aloadN X28.here hx rfl (hb hby d1_33) rfl rfl k) ?_
            show own_Fin _ _ _ _ _ _ _ _ (mkF m 34 #[.val (.ref a1), .val (.ref a2), .val (.int (5 : Int32))] [(.ref a2)])
            refine own_step (fun t k => XS.iconst X28.here hx rfl (hb hby d1_34) k) ?_
            show own_Fin _ _ _ _ _ _ _ _ (mkF m 35 #[.val (.ref a1), .val (.ref a2), .val (.int (5 : Int32))] [(.int (2 : Int32)), (.ref a2)])
            refine own_step (fun t k => XS.bipush X28.here hx rfl (hb hby d1_35) k) ?_
            show own_Fin _ _ _ _ _ _ _ _ (mkF m 37 #[.val (.ref a1), .val (.ref a2), .val (.int (5 : Int32))] [(.int (20 : Int32)), (.int (2 : Int32)), (.ref a2)])
            obtain ⟨T29, h29, X29, e29, W29, B29, st29⟩ := own_iastore X28 hx hZ e28 V_a2 (j := (2 : Int32)) (k := 2) rfl (by decide) (x := (20 : Int32)) (pc := 37) (Ls := #[.val (.ref a1), .val (.ref a2), .val (.int (5 : Int32))]) (rest := []) (hb hby d1_37) rfl
            refine own_step st29 ?_
            replace V_a1 := V_a1.other W29 hne
            replace Zs : n0 ≤ h29.size := by rw [W29.size]; exact Zs
            replace K := K.wr W29 (Or.inl (by simp))
            replace V_a2 := B29
            replace Nf := Fr.snoc X29 Nf g_a2
            show own_Fin _ _ _ _ _ _ _ _ (mkF m 38 #[.val (.ref a1), .val (.ref a2), .val (.int (5 : Int32))] [])
            refine own_step (fun t k => XS.aloadN X29.here hx rfl (hb hby d1_38) rfl rfl k) ?_
            show own_Fin _ _ _ _ _ _ _ _ (mkF m 39 #[.val (.ref a1), .val (.ref a2), .val (.int (5 : Int32))] [(.ref a2)])
            refine own_step (fun t k => XS.iconst X29.here hx rfl (hb hby d1_39) k) ?_
            show own_Fin _ _ _ _ _ _ _ _ (mkF m 40 #[.val (.ref a1), .val (.ref a2), .val (.int (5 : Int32))] [(.int (3 : Int32)), (.ref a2)])
            refine own_step (fun t k => XS.iloadN X29.here hx rfl (hb hby d1_40) rfl k) ?_
            show own_Fin _ _ _ _ _ _ _ _ (mkF m 41 #[.val (.ref a1), .val (.ref a2), .val (.int (5 : Int32))] [(.int (5 : Int32)), (.int (3 : Int32)), (.ref a2)])
            obtain ⟨T30, h30, X30, e30, W30, B30, st30⟩ := own_iastore X29 hx hZ e29 V_a2 (j := (3 : Int32)) (k := 3) rfl (by decide) (x := (5 : Int32)) (pc := 41) (Ls := #[.val (.ref a1), .val (.ref a2), .val (.int (5 : Int32))]) (rest := []) (hb hby d1_41) rfl
            refine own_step st30 ?_
            replace V_a1 := V_a1.other W30 hne
            replace Zs : n0 ≤ h30.size := by rw [W30.size]; exact Zs
            replace K := K.wr W30 (Or.inl (by simp))
            replace V_a2 := B30
            replace Nf := Fr.snoc X30 Nf g_a2
            show own_Fin _ _ _ _ _ _ _ _ (mkF m 42 #[.val (.ref a1), .val (.ref a2), .val (.int (5 : Int32))] [])
            refine own_retV X30 hx hlk Bd.returns (hb hby d1_42) (by decide) (by decide) e30 ?_
            exact ⟨rfl, Nf, K, (5 : Int32), Or.inr (Or.inr (Or.inr (Or.inr (Or.inr (⟨rfl, by assumption, by assumption, by assumption, by assumption, by assumption⟩))))), V_a2.congr (by intro i hi; rcases own_four hi with rfl | rfl | rfl | rfl <;> rfl)⟩
theorem d2_0 : decode method_3_code 0 = .ok (.aload_n 0, 1) := by decide +kernel
theorem d2_1 : decode method_3_code 1 = .ok (.bipush 20, 2) := by decide +kernel
theorem d2_3 : decode method_3_code 3 = .ok (.baload, 1) := by decide +kernel
theorem d2_4 : decode method_3_code 4 = .ok (.ifCond .ne 5, 3) := by decide +kernel
theorem d2_7 : decode method_3_code 7 = .ok (.iconst 0, 1) := by decide +kernel
theorem d2_8 : decode method_3_code 8 = .ok (.ireturn, 1) := by decide +kernel
theorem d2_9 : decode method_3_code 9 = .ok (.aload_n 0, 1) := by decide +kernel
theorem d2_10 : decode method_3_code 10 = .ok (.bipush 21, 2) := by decide +kernel
theorem d2_12 : decode method_3_code 12 = .ok (.baload, 1) := by decide +kernel
theorem d2_13 : decode method_3_code 13 = .ok (.ifCond .ne 5, 3) := by decide +kernel
theorem d2_16 : decode method_3_code 16 = .ok (.iconst 1, 1) := by decide +kernel
theorem d2_17 : decode method_3_code 17 = .ok (.ireturn, 1) := by decide +kernel
theorem d2_18 : decode method_3_code 18 = .ok (.aload_n 0, 1) := by decide +kernel
theorem d2_19 : decode method_3_code 19 = .ok (.bipush 22, 2) := by decide +kernel
theorem d2_21 : decode method_3_code 21 = .ok (.baload, 1) := by decide +kernel
theorem d2_22 : decode method_3_code 22 = .ok (.ifCond .ne 5, 3) := by decide +kernel
theorem d2_25 : decode method_3_code 25 = .ok (.iconst 2, 1) := by decide +kernel
theorem d2_26 : decode method_3_code 26 = .ok (.ireturn, 1) := by decide +kernel
theorem d2_27 : decode method_3_code 27 = .ok (.aload_n 0, 1) := by decide +kernel
theorem d2_28 : decode method_3_code 28 = .ok (.bipush 23, 2) := by decide +kernel
theorem d2_30 : decode method_3_code 30 = .ok (.baload, 1) := by decide +kernel
theorem d2_31 : decode method_3_code 31 = .ok (.ifCond .ne 5, 3) := by decide +kernel
theorem d2_34 : decode method_3_code 34 = .ok (.iconst 3, 1) := by decide +kernel
theorem d2_35 : decode method_3_code 35 = .ok (.ireturn, 1) := by decide +kernel
theorem d2_36 : decode method_3_code 36 = .ok (.aload_n 0, 1) := by decide +kernel
theorem d2_37 : decode method_3_code 37 = .ok (.bipush 24, 2) := by decide +kernel
theorem d2_39 : decode method_3_code 39 = .ok (.baload, 1) := by decide +kernel
theorem d2_40 : decode method_3_code 40 = .ok (.ifCond .ne 5, 3) := by decide +kernel
theorem d2_43 : decode method_3_code 43 = .ok (.iconst 4, 1) := by decide +kernel
theorem d2_44 : decode method_3_code 44 = .ok (.ireturn, 1) := by decide +kernel
theorem d2_45 : decode method_3_code 45 = .ok (.iconst 5, 1) := by decide +kernel
theorem d2_46 : decode method_3_code 46 = .ok (.ireturn, 1) := by decide +kernel
theorem own_pn_2 : plainName "com/example/pcr10/pcr10/TemplateFormatLegacyFieldRangesPinLaw" = true := by first | (simp [plainName, overriddenIn]; done) | decide +kernel
theorem own_ef_2 (m : MethodId) (a1 : Addr) : entryFrame m #[(.ref a1)] 1 = mkF m 0 #[.val (.ref a1)] [] := by first | (simp [entryFrame, mkF, argsToLocals, Value.category]; done) | rfl
abbrev own_R2 : Room := { frames := 0, cells := 0, slots := 0, locals := 0 }
def own_Q2 (Z : State) (a1 : Addr) (f1 : Nat → Int32) (h0 : Heap) (n0 : Nat) (v : Option Value) (h : Heap) (L : List Loc) : Prop := ∃ r : Int32, v = some (.int r) ∧ own_FZ f1 r ∧ Fr n0 L ∧ h = h0
set_option maxRecDepth 65536 in
set_option maxHeartbeats 40000000 in
theorem rm2 (l : Launch) (Z : State) (a0 : Array Value) (hw : ∀ d ∈ tables_1, d.before a0 Z = true) (ws : List Jvm.Cond) (a1 : Addr) (f1 : Nat → Int32) (h0 : Heap) (n0 : Nat) (Z0 : n0 ≤ h0.size) (V_a1 : own_AI Z h0 a1 .byte 276 f1) :
    MetFree l (⟨"com/example/pcr10/pcr10/TemplateFormatLegacyFieldRangesPinLaw", "firstZero", "([B)I"⟩ : MethodName) (head1 (Jvm.Cond.code (⟨"com/example/pcr10/pcr10/TemplateFormatLegacyFieldRangesPinLaw", "firstZero", "([B)I"⟩ : MethodName) method_3_code 1 (some .int) :: ws) own_R2) (fun a U => a = #[(.ref a1)] ∧ Z.Warmed39 U.vm ∧ U.heap = h0) (fun _ _ _ _ _ => True) (fun _ U o U' => ∃ v L, o = .returned v ∧ own_Q2 Z a1 f1 h0 n0 v U'.heap L ∧ FrameEnd U o U' L own_R2.cells own_R2.slots) := by
  refine MetFree.of_bodySF (plainFor_of_name own_pn_2) hisR ?_
  intro p e s m args below meth c s₁ Bd hml0 hP hK
  obtain ⟨rfl, hZ, hh⟩ := hP
  have hx := Bd.exec
  have hby := Bd.bytes
  have hlk := BodyLoose.notSynchronized Bd
  have hml : c.maxLocals = 1 := hml0
  have hown : s.vm.findClass "com/example/pcr10/pcr10/TemplateFormatLegacyFieldRangesPinLaw" = some m.cls := (findClass_of_methodNamed Bd.named : s.vm.findClass (⟨"com/example/pcr10/pcr10/TemplateFormatLegacyFieldRangesPinLaw", "firstZero", "([B)I"⟩ : MethodName).cls = some m.cls)
  have hnm := (name_of_methodNamed Bd.named Bd.method).1
  have X0 : Stand p l e own_R2 s m #[(.ref a1)] below meth c s₁ [] 0 0 := Stand.of_body Bd
  have e0 : s₁.heap = h0 := by rw [← hh, Bd.state]; rfl
  have Nf := Fr.nil n0
  have Zs := Z0
  show own_Fin p e below s (own_Q2 Z a1 f1 h0 n0) 0 0 s₁ (entryFrame m #[(.ref a1)] 1)
  rw [own_ef_2 m a1]
  show own_Fin _ _ _ _ _ _ _ _ (mkF m 0 #[.val (.ref a1)] [])
  refine own_step (fun t k => XS.aloadN X0.here hx rfl (hb hby d2_0) rfl rfl k) ?_
  show own_Fin _ _ _ _ _ _ _ _ (mkF m 1 #[.val (.ref a1)] [(.ref a1)])
  refine own_step (fun t k => XS.bipush X0.here hx rfl (hb hby d2_1) k) ?_
  show own_Fin _ _ _ _ _ _ _ _ (mkF m 3 #[.val (.ref a1)] [(.int (20 : Int32)), (.ref a1)])
  refine own_baload X0 hx hZ e0 V_a1 (k := 20) rfl (by decide) (v := (f1 20)) rfl (hb hby d2_3) rfl ?_
  show own_Fin _ _ _ _ _ _ _ _ (mkF m 4 #[.val (.ref a1)] [(.int (f1 20))])
  by_cases hc1 : ((f1 20)).toInt = 0
  · skip
    refine own_step (fun t k => XS.ifNo X0.here hx rfl (hb hby d2_4) rfl ((if0 _ _).trans (own_ce (x := (f1 20)) (y := (0 : Int32)) rfl rfl hc1).2) k) ?_
    show own_Fin _ _ _ _ _ _ _ _ (mkF m 7 #[.val (.ref a1)] [])
    refine own_step (fun t k => XS.iconst X0.here hx rfl (hb hby d2_7) k) ?_
    show own_Fin _ _ _ _ _ _ _ _ (mkF m 8 #[.val (.ref a1)] [(.int (0 : Int32))])
    refine own_retI X0 hx hlk Bd.returns (hb hby d2_8) (by decide) (by decide) e0 ?_
    exact ⟨(0 : Int32), rfl, Or.inl ⟨rfl, by assumption⟩, Nf, rfl⟩
  · skip
    refine own_step (fun t k => XS.ifYes X0.here hx rfl (pc0 := 4) (pc' := 9) rfl (hb hby d2_4) rfl ((if0 _ _).trans (own_cu (x := (f1 20)) (y := (0 : Int32)) rfl rfl hc1).2) (by decide) (by decide) k) ?_
    show own_Fin _ _ _ _ _ _ _ _ (mkF m 9 #[.val (.ref a1)] [])
    refine own_step (fun t k => XS.aloadN X0.here hx rfl (hb hby d2_9) rfl rfl k) ?_
    show own_Fin _ _ _ _ _ _ _ _ (mkF m 10 #[.val (.ref a1)] [(.ref a1)])
    refine own_step (fun t k => XS.bipush X0.here hx rfl (hb hby d2_10) k) ?_
    show own_Fin _ _ _ _ _ _ _ _ (mkF m 12 #[.val (.ref a1)] [(.int (21 : Int32)), (.ref a1)])
    refine own_baload X0 hx hZ e0 V_a1 (k := 21) rfl (by decide) (v := (f1 21)) rfl (hb hby d2_12) rfl ?_
    show own_Fin _ _ _ _ _ _ _ _ (mkF m 13 #[.val (.ref a1)] [(.int (f1 21))])
    by_cases hc2 : ((f1 21)).toInt = 0
    · skip
      refine own_step (fun t k => XS.ifNo X0.here hx rfl (hb hby d2_13) rfl ((if0 _ _).trans (own_ce (x := (f1 21)) (y := (0 : Int32)) rfl rfl hc2).2) k) ?_
      show own_Fin _ _ _ _ _ _ _ _ (mkF m 16 #[.val (.ref a1)] [])
      refine own_step (fun t k => XS.iconst X0.here hx rfl (hb hby d2_16) k) ?_
      show own_Fin _ _ _ _ _ _ _ _ (mkF m 17 #[.val (.ref a1)] [(.int (1 : Int32))])
      refine own_retI X0 hx hlk Bd.returns (hb hby d2_17) (by decide) (by decide) e0 ?_
      exact ⟨(1 : Int32), rfl, Or.inr (Or.inl ⟨rfl, by assumption, by assumption⟩), Nf, rfl⟩
    · skip
      refine own_step (fun t k => XS.ifYes X0.here hx rfl (pc0 := 13) (pc' := 18) rfl (hb hby d2_13) rfl ((if0 _ _).trans (own_cu (x := (f1 21)) (y := (0 : Int32)) rfl rfl hc2).2) (by decide) (by decide) k) ?_
      show own_Fin _ _ _ _ _ _ _ _ (mkF m 18 #[.val (.ref a1)] [])
      refine own_step (fun t k => XS.aloadN X0.here hx rfl (hb hby d2_18) rfl rfl k) ?_
      show own_Fin _ _ _ _ _ _ _ _ (mkF m 19 #[.val (.ref a1)] [(.ref a1)])
      refine own_step (fun t k => XS.bipush X0.here hx rfl (hb hby d2_19) k) ?_
      show own_Fin _ _ _ _ _ _ _ _ (mkF m 21 #[.val (.ref a1)] [(.int (22 : Int32)), (.ref a1)])
      refine own_baload X0 hx hZ e0 V_a1 (k := 22) rfl (by decide) (v := (f1 22)) rfl (hb hby d2_21) rfl ?_
      show own_Fin _ _ _ _ _ _ _ _ (mkF m 22 #[.val (.ref a1)] [(.int (f1 22))])
      by_cases hc3 : ((f1 22)).toInt = 0
      · skip
        refine own_step (fun t k => XS.ifNo X0.here hx rfl (hb hby d2_22) rfl ((if0 _ _).trans (own_ce (x := (f1 22)) (y := (0 : Int32)) rfl rfl hc3).2) k) ?_
        show own_Fin _ _ _ _ _ _ _ _ (mkF m 25 #[.val (.ref a1)] [])
        refine own_step (fun t k => XS.iconst X0.here hx rfl (hb hby d2_25) k) ?_
        show own_Fin _ _ _ _ _ _ _ _ (mkF m 26 #[.val (.ref a1)] [(.int (2 : Int32))])
        refine own_retI X0 hx hlk Bd.returns (hb hby d2_26) (by decide) (by decide) e0 ?_
        exact ⟨(2 : Int32), rfl, Or.inr (Or.inr (Or.inl ⟨rfl, by assumption, by assumption, by assumption⟩)), Nf, rfl⟩
      · skip
        refine own_step (fun t k => XS.ifYes X0.here hx rfl (pc0 := 22) (pc' := 27) rfl (hb hby d2_22) rfl ((if0 _ _).trans (own_cu (x := (f1 22)) (y := (0 : Int32)) rfl rfl hc3).2) (by decide) (by decide) k) ?_
        show own_Fin _ _ _ _ _ _ _ _ (mkF m 27 #[.val (.ref a1)] [])
        refine own_step (fun t k => XS.aloadN X0.here hx rfl (hb hby d2_27) rfl rfl k) ?_
        show own_Fin _ _ _ _ _ _ _ _ (mkF m 28 #[.val (.ref a1)] [(.ref a1)])
        refine own_step (fun t k => XS.bipush X0.here hx rfl (hb hby d2_28) k) ?_
        show own_Fin _ _ _ _ _ _ _ _ (mkF m 30 #[.val (.ref a1)] [(.int (23 : Int32)), (.ref a1)])
        refine own_baload X0 hx hZ e0 V_a1 (k := 23) rfl (by decide) (v := (f1 23)) rfl (hb hby d2_30) rfl ?_
        show own_Fin _ _ _ _ _ _ _ _ (mkF m 31 #[.val (.ref a1)] [(.int (f1 23))])
        by_cases hc4 : ((f1 23)).toInt = 0
        · skip
          refine own_step (fun t k => XS.ifNo X0.here hx rfl (hb hby d2_31) rfl ((if0 _ _).trans (own_ce (x := (f1 23)) (y := (0 : Int32)) rfl rfl hc4).2) k) ?_
          show own_Fin _ _ _ _ _ _ _ _ (mkF m 34 #[.val (.ref a1)] [])
          refine own_step (fun t k => XS.iconst X0.here hx rfl (hb hby d2_34) k) ?_
          show own_Fin _ _ _ _ _ _ _ _ (mkF m 35 #[.val (.ref a1)] [(.int (3 : Int32))])
          refine own_retI X0 hx hlk Bd.returns (hb hby d2_35) (by decide) (by decide) e0 ?_
          exact ⟨(3 : Int32), rfl, Or.inr (Or.inr (Or.inr (Or.inl ⟨rfl, by assumption, by assumption, by assumption, by assumption⟩))), Nf, rfl⟩
        · skip
          refine own_step (fun t k => XS.ifYes X0.here hx rfl (pc0 := 31) (pc' := 36) rfl (hb hby d2_31) rfl ((if0 _ _).trans (own_cu (x := (f1 23)) (y := (0 : Int32)) rfl rfl hc4).2) (by decide) (by decide) k) ?_
          show own_Fin _ _ _ _ _ _ _ _ (mkF m 36 #[.val (.ref a1)] [])
          refine own_step (fun t k => XS.aloadN X0.here hx rfl (hb hby d2_36) rfl rfl k) ?_
          show own_Fin _ _ _ _ _ _ _ _ (mkF m 37 #[.val (.ref a1)] [(.ref a1)])
          refine own_step (fun t k => XS.bipush X0.here hx rfl (hb hby d2_37) k) ?_
          show own_Fin _ _ _ _ _ _ _ _ (mkF m 39 #[.val (.ref a1)] [(.int (24 : Int32)), (.ref a1)])
          refine own_baload X0 hx hZ e0 V_a1 (k := 24) rfl (by decide) (v := (f1 24)) rfl (hb hby d2_39) rfl ?_
          show own_Fin _ _ _ _ _ _ _ _ (mkF m 40 #[.val (.ref a1)] [(.int (f1 24))])
          by_cases hc5 : ((f1 24)).toInt = 0
          · skip
            refine own_step (fun t k => XS.ifNo X0.here hx rfl (hb hby d2_40) rfl ((if0 _ _).trans (own_ce (x := (f1 24)) (y := (0 : Int32)) rfl rfl hc5).2) k) ?_
            show own_Fin _ _ _ _ _ _ _ _ (mkF m 43 #[.val (.ref a1)] [])
            refine own_step (fun t k => XS.iconst X0.here hx rfl (hb hby d2_43) k) ?_
            show own_Fin _ _ _ _ _ _ _ _ (mkF m 44 #[.val (.ref a1)] [(.int (4 : Int32))])
            refine own_retI X0 hx hlk Bd.returns (hb hby d2_44) (by decide) (by decide) e0 ?_
            exact ⟨(4 : Int32), rfl, Or.inr (Or.inr (Or.inr (Or.inr (Or.inl ⟨rfl, by assumption, by assumption, by assumption, by assumption, by assumption⟩)))), Nf, rfl⟩
          · skip
            refine own_step (fun t k => XS.ifYes X0.here hx rfl (pc0 := 40) (pc' := 45) rfl (hb hby d2_40) rfl ((if0 _ _).trans (own_cu (x := (f1 24)) (y := (0 : Int32)) rfl rfl hc5).2) (by decide) (by decide) k) ?_
            show own_Fin _ _ _ _ _ _ _ _ (mkF m 45 #[.val (.ref a1)] [])
            refine own_step (fun t k => XS.iconst X0.here hx rfl (hb hby d2_45) k) ?_
            show own_Fin _ _ _ _ _ _ _ _ (mkF m 46 #[.val (.ref a1)] [(.int (5 : Int32))])
            refine own_retI X0 hx hlk Bd.returns (hb hby d2_46) (by decide) (by decide) e0 ?_
            exact ⟨(5 : Int32), rfl, Or.inr (Or.inr (Or.inr (Or.inr (Or.inr (⟨rfl, by assumption, by assumption, by assumption, by assumption, by assumption⟩))))), Nf, rfl⟩
theorem own_pd_0 : parseMethodDescriptor "([B[I)V" = some ⟨[(.array .byte), (.array .int)], none⟩ := by decide +kernel
theorem own_pd_1 : parseMethodDescriptor "([B)I" = some ⟨[(.array .byte)], some .int⟩ := by decide +kernel
theorem own_pn_0 : plainName "com/example/pcr10/pcr10/TemplateFormatLegacyFieldRangesPinLaw" = true := by first | (simp [plainName, overriddenIn]; done) | decide +kernel
theorem own_ef_0 (m : MethodId) (p1 : Int32) (p2 : Int32) (p3 : Int32) (p4 : Int32) (p5 : Int32) : entryFrame m #[(.int p1), (.int p2), (.int p3), (.int p4), (.int p5)] maxLocals = mkF m 0 #[.val (.int p1), .val (.int p2), .val (.int p3), .val (.int p4), .val (.int p5), .unset, .unset, .unset] [] := by first | (simp [entryFrame, mkF, argsToLocals, Value.category, maxLocals]; done) | rfl
def own_Q0 (Z : State) (p1 : Int32) (p2 : Int32) (p3 : Int32) (p4 : Int32) (p5 : Int32) (h0 : Heap) (n0 : Nat) (v : Option Value) (h : Heap) (L : List Loc) : Prop := v = some (.int 1) ∧ Fr n0 L
set_option maxRecDepth 65536 in
set_option maxHeartbeats 40000000 in
theorem rm0 (l : Launch) (Z : State) (a0 : Array Value) (hw : ∀ d ∈ tables_1, d.before a0 Z = true) (ws : List Jvm.Cond) (p1 : Int32) (p2 : Int32) (p3 : Int32) (p4 : Int32) (p5 : Int32) (h0 : Heap) (n0 : Nat) (Z0 : n0 ≤ h0.size) :
    MetFree l x (head1 (Jvm.Cond.code x code maxLocals ret :: ws) room_1) (fun a U => a = #[(.int p1), (.int p2), (.int p3), (.int p4), (.int p5)] ∧ Z.Warmed39 U.vm ∧ U.heap = h0) (fun _ _ _ _ _ => True) (fun _ U o U' => ∃ v L, o = .returned v ∧ own_Q0 Z p1 p2 p3 p4 p5 h0 n0 v U'.heap L ∧ FrameEnd U o U' L 16 640) := by
  refine MetFree.of_bodySF (plainFor_of_name own_pn_0) hisR ?_
  intro p e s m args below meth c s₁ Bd hml0 hP hK
  obtain ⟨rfl, hZ, hh⟩ := hP
  have hx := Bd.exec
  have hby := Bd.bytes
  have hlk := BodyLoose.notSynchronized Bd
  have hml : c.maxLocals = 8 := hml0
  have hown : s.vm.findClass "com/example/pcr10/pcr10/TemplateFormatLegacyFieldRangesPinLaw" = some m.cls := (findClass_of_methodNamed Bd.named : s.vm.findClass x.cls = some m.cls)
  have hnm := (name_of_methodNamed Bd.named Bd.method).1
  have X0 : Stand p l e room_1 s m #[(.int p1), (.int p2), (.int p3), (.int p4), (.int p5)] below meth c s₁ [] 0 0 := Stand.of_body Bd
  have e0 : s₁.heap = h0 := by rw [← hh, Bd.state]; rfl
  have Nf := Fr.nil n0
  have Zs := Z0
  show own_Fin p e below s (own_Q0 Z p1 p2 p3 p4 p5 h0 n0) 16 640 s₁ (entryFrame m #[(.int p1), (.int p2), (.int p3), (.int p4), (.int p5)] maxLocals)
  rw [own_ef_0 m p1 p2 p3 p4 p5]
  show own_Fin _ _ _ _ _ _ _ _ (mkF m 0 #[.val (.int p1), .val (.int p2), .val (.int p3), .val (.int p4), .val (.int p5), .unset, .unset, .unset] [])
  refine own_step (fun t k => XS.sipush X0.here hx rfl (hb hby at_0) k) ?_
  show own_Fin _ _ _ _ _ _ _ _ (mkF m 3 #[.val (.int p1), .val (.int p2), .val (.int p3), .val (.int p4), .val (.int p5), .unset, .unset, .unset] [(.int (276 : Int32))])
  obtain ⟨T1, h1, k1, X1, e1, E1, A1, st1⟩ := newP X0 hx hZ (hw _ (List.mem_of_getElem? (i := 0) rfl)) e0 (g := (mkF m 3 #[.val (.int p1), .val (.int p2), .val (.int p3), .val (.int p4), .val (.int p5), .unset, .unset, .unset] [(.int (276 : Int32))])) rfl (hb hby at_3) rfl (by decide) (cap := 276) (by decide) (by decide) (by decide) (by decide)
  obtain ⟨b1, g1⟩ : ∃ z, z = h0.size := ⟨_, rfl⟩
  rw [← g1] at A1 st1
  refine own_step st1 ?_
  have g_b1 : n0 ≤ b1 := Nat.le_trans Zs (Nat.le_of_eq g1.symm)
  replace Zs := Nat.le_trans Zs E1.1
  have V_b1 := own_AI.newB (n := 276) A1 (by decide)
  show own_Fin _ _ _ _ _ _ _ _ (mkF m 5 #[.val (.int p1), .val (.int p2), .val (.int p3), .val (.int p4), .val (.int p5), .unset, .unset, .unset] [(.ref b1)])
  refine own_step (fun t k => XS.astore X1.here hx rfl (hb hby at_5) rfl rfl (l' := #[.val (.int p1), .val (.int p2), .val (.int p3), .val (.int p4), .val (.int p5), .val (.ref b1), .unset, .unset]) rfl k) ?_
  show own_Fin _ _ _ _ _ _ _ _ (mkF m 7 #[.val (.int p1), .val (.int p2), .val (.int p3), .val (.int p4), .val (.int p5), .val (.ref b1), .unset, .unset] [])
  refine own_step (fun t k => XS.aload X1.here hx rfl (hb hby at_7) rfl rfl k) ?_
  show own_Fin _ _ _ _ _ _ _ _ (mkF m 9 #[.val (.int p1), .val (.int p2), .val (.int p3), .val (.int p4), .val (.int p5), .val (.ref b1), .unset, .unset] [(.ref b1)])
  refine own_step (fun t k => XS.iconst X1.here hx rfl (hb hby at_9) k) ?_
  show own_Fin _ _ _ _ _ _ _ _ (mkF m 10 #[.val (.int p1), .val (.int p2), .val (.int p3), .val (.int p4), .val (.int p5), .val (.ref b1), .unset, .unset] [(.int (0 : Int32)), (.ref b1)])
  refine own_step (fun t k => XS.iloadN X1.here hx rfl (hb hby at_10) rfl k) ?_
  show own_Fin _ _ _ _ _ _ _ _ (mkF m 11 #[.val (.int p1), .val (.int p2), .val (.int p3), .val (.int p4), .val (.int p5), .val (.ref b1), .unset, .unset] [(.int p2), (.int (0 : Int32)), (.ref b1)])
  refine own_step (fun t k => XS.i2b X1.here hx rfl (hb hby at_11) rfl k) ?_
  show own_Fin _ _ _ _ _ _ _ _ (mkF m 12 #[.val (.int p1), .val (.int p2), .val (.int p3), .val (.int p4), .val (.int p5), .val (.ref b1), .unset, .unset] [(.int (p2.toInt8.toInt32)), (.int (0 : Int32)), (.ref b1)])
  obtain ⟨T2, h2, X2, e2, W2, B2, st2⟩ := own_bastore X1 hx hZ e1 V_b1 (j := (0 : Int32)) (k := 0) rfl (by decide) (own_nar8 _) (x := (p2.toInt8.toInt32)) (pc := 12) (Ls := #[.val (.int p1), .val (.int p2), .val (.int p3), .val (.int p4), .val (.int p5), .val (.ref b1), .unset, .unset]) (rest := []) (hb hby at_12) rfl
  refine own_step st2 ?_
  replace Zs : n0 ≤ h2.size := by rw [W2.size]; exact Zs
  replace V_b1 := B2
  replace Nf := Fr.snoc X2 Nf g_b1
  show own_Fin _ _ _ _ _ _ _ _ (mkF m 13 #[.val (.int p1), .val (.int p2), .val (.int p3), .val (.int p4), .val (.int p5), .val (.ref b1), .unset, .unset] [])
  refine own_step (fun t k => XS.aload X2.here hx rfl (hb hby at_13) rfl rfl k) ?_
  show own_Fin _ _ _ _ _ _ _ _ (mkF m 15 #[.val (.int p1), .val (.int p2), .val (.int p3), .val (.int p4), .val (.int p5), .val (.ref b1), .unset, .unset] [(.ref b1)])
  refine own_step (fun t k => XS.bipush X2.here hx rfl (hb hby at_15) k) ?_
  show own_Fin _ _ _ _ _ _ _ _ (mkF m 17 #[.val (.int p1), .val (.int p2), .val (.int p3), .val (.int p4), .val (.int p5), .val (.ref b1), .unset, .unset] [(.int (19 : Int32)), (.ref b1)])
  refine own_step (fun t k => XS.iloadN X2.here hx rfl (hb hby at_17) rfl k) ?_
  show own_Fin _ _ _ _ _ _ _ _ (mkF m 18 #[.val (.int p1), .val (.int p2), .val (.int p3), .val (.int p4), .val (.int p5), .val (.ref b1), .unset, .unset] [(.int p2), (.int (19 : Int32)), (.ref b1)])
  refine own_step (fun t k => XS.bipush X2.here hx rfl (hb hby at_18) k) ?_
  show own_Fin _ _ _ _ _ _ _ _ (mkF m 20 #[.val (.int p1), .val (.int p2), .val (.int p3), .val (.int p4), .val (.int p5), .val (.ref b1), .unset, .unset] [(.int (8 : Int32)), (.int p2), (.int (19 : Int32)), (.ref b1)])
  refine own_step (fun t k => XS.ishr X2.here hx rfl (hb hby at_20) rfl k) ?_
  show own_Fin _ _ _ _ _ _ _ _ (mkF m 21 #[.val (.int p1), .val (.int p2), .val (.int p3), .val (.int p4), .val (.int p5), .val (.ref b1), .unset, .unset] [(.int (p2 >>> ((8 : Int32) &&& 31))), (.int (19 : Int32)), (.ref b1)])
  refine own_step (fun t k => XS.i2b X2.here hx rfl (hb hby at_21) rfl k) ?_
  show own_Fin _ _ _ _ _ _ _ _ (mkF m 22 #[.val (.int p1), .val (.int p2), .val (.int p3), .val (.int p4), .val (.int p5), .val (.ref b1), .unset, .unset] [(.int ((p2 >>> ((8 : Int32) &&& 31)).toInt8.toInt32)), (.int (19 : Int32)), (.ref b1)])
  obtain ⟨T3, h3, X3, e3, W3, B3, st3⟩ := own_bastore X2 hx hZ e2 V_b1 (j := (19 : Int32)) (k := 19) rfl (by decide) (own_nar8 _) (x := ((p2 >>> ((8 : Int32) &&& 31)).toInt8.toInt32)) (pc := 22) (Ls := #[.val (.int p1), .val (.int p2), .val (.int p3), .val (.int p4), .val (.int p5), .val (.ref b1), .unset, .unset]) (rest := []) (hb hby at_22) rfl
  refine own_step st3 ?_
  replace Zs : n0 ≤ h3.size := by rw [W3.size]; exact Zs
  replace V_b1 := B3
  replace Nf := Fr.snoc X3 Nf g_b1
  show own_Fin _ _ _ _ _ _ _ _ (mkF m 23 #[.val (.int p1), .val (.int p2), .val (.int p3), .val (.int p4), .val (.int p5), .val (.ref b1), .unset, .unset] [])
  refine own_step (fun t k => XS.aload X3.here hx rfl (hb hby at_23) rfl rfl k) ?_
  show own_Fin _ _ _ _ _ _ _ _ (mkF m 25 #[.val (.int p1), .val (.int p2), .val (.int p3), .val (.int p4), .val (.int p5), .val (.ref b1), .unset, .unset] [(.ref b1)])
  refine own_step (fun t k => XS.bipush X3.here hx rfl (hb hby at_25) k) ?_
  show own_Fin _ _ _ _ _ _ _ _ (mkF m 27 #[.val (.int p1), .val (.int p2), .val (.int p3), .val (.int p4), .val (.int p5), .val (.ref b1), .unset, .unset] [(.int (20 : Int32)), (.ref b1)])
  refine own_step (fun t k => XS.iloadN X3.here hx rfl (hb hby at_27) rfl k) ?_
  show own_Fin _ _ _ _ _ _ _ _ (mkF m 28 #[.val (.int p1), .val (.int p2), .val (.int p3), .val (.int p4), .val (.int p5), .val (.ref b1), .unset, .unset] [(.int p1), (.int (20 : Int32)), (.ref b1)])
  refine own_step (fun t k => XS.i2b X3.here hx rfl (hb hby at_28) rfl k) ?_
  show own_Fin _ _ _ _ _ _ _ _ (mkF m 29 #[.val (.int p1), .val (.int p2), .val (.int p3), .val (.int p4), .val (.int p5), .val (.ref b1), .unset, .unset] [(.int (p1.toInt8.toInt32)), (.int (20 : Int32)), (.ref b1)])
  obtain ⟨T4, h4, X4, e4, W4, B4, st4⟩ := own_bastore X3 hx hZ e3 V_b1 (j := (20 : Int32)) (k := 20) rfl (by decide) (own_nar8 _) (x := (p1.toInt8.toInt32)) (pc := 29) (Ls := #[.val (.int p1), .val (.int p2), .val (.int p3), .val (.int p4), .val (.int p5), .val (.ref b1), .unset, .unset]) (rest := []) (hb hby at_29) rfl
  refine own_step st4 ?_
  replace Zs : n0 ≤ h4.size := by rw [W4.size]; exact Zs
  replace V_b1 := B4
  replace Nf := Fr.snoc X4 Nf g_b1
  show own_Fin _ _ _ _ _ _ _ _ (mkF m 30 #[.val (.int p1), .val (.int p2), .val (.int p3), .val (.int p4), .val (.int p5), .val (.ref b1), .unset, .unset] [])
  refine own_step (fun t k => XS.aload X4.here hx rfl (hb hby at_30) rfl rfl k) ?_
  show own_Fin _ _ _ _ _ _ _ _ (mkF m 32 #[.val (.int p1), .val (.int p2), .val (.int p3), .val (.int p4), .val (.int p5), .val (.ref b1), .unset, .unset] [(.ref b1)])
  refine own_step (fun t k => XS.bipush X4.here hx rfl (hb hby at_32) k) ?_
  show own_Fin _ _ _ _ _ _ _ _ (mkF m 34 #[.val (.int p1), .val (.int p2), .val (.int p3), .val (.int p4), .val (.int p5), .val (.ref b1), .unset, .unset] [(.int (21 : Int32)), (.ref b1)])
  refine own_step (fun t k => XS.iloadN X4.here hx rfl (hb hby at_34) rfl k) ?_
  show own_Fin _ _ _ _ _ _ _ _ (mkF m 35 #[.val (.int p1), .val (.int p2), .val (.int p3), .val (.int p4), .val (.int p5), .val (.ref b1), .unset, .unset] [(.int p1), (.int (21 : Int32)), (.ref b1)])
  refine own_step (fun t k => XS.bipush X4.here hx rfl (hb hby at_35) k) ?_
  show own_Fin _ _ _ _ _ _ _ _ (mkF m 37 #[.val (.int p1), .val (.int p2), .val (.int p3), .val (.int p4), .val (.int p5), .val (.ref b1), .unset, .unset] [(.int (8 : Int32)), (.int p1), (.int (21 : Int32)), (.ref b1)])
  refine own_step (fun t k => XS.ishr X4.here hx rfl (hb hby at_37) rfl k) ?_
  show own_Fin _ _ _ _ _ _ _ _ (mkF m 38 #[.val (.int p1), .val (.int p2), .val (.int p3), .val (.int p4), .val (.int p5), .val (.ref b1), .unset, .unset] [(.int (p1 >>> ((8 : Int32) &&& 31))), (.int (21 : Int32)), (.ref b1)])
  refine own_step (fun t k => XS.i2b X4.here hx rfl (hb hby at_38) rfl k) ?_
  show own_Fin _ _ _ _ _ _ _ _ (mkF m 39 #[.val (.int p1), .val (.int p2), .val (.int p3), .val (.int p4), .val (.int p5), .val (.ref b1), .unset, .unset] [(.int ((p1 >>> ((8 : Int32) &&& 31)).toInt8.toInt32)), (.int (21 : Int32)), (.ref b1)])
  obtain ⟨T5, h5, X5, e5, W5, B5, st5⟩ := own_bastore X4 hx hZ e4 V_b1 (j := (21 : Int32)) (k := 21) rfl (by decide) (own_nar8 _) (x := ((p1 >>> ((8 : Int32) &&& 31)).toInt8.toInt32)) (pc := 39) (Ls := #[.val (.int p1), .val (.int p2), .val (.int p3), .val (.int p4), .val (.int p5), .val (.ref b1), .unset, .unset]) (rest := []) (hb hby at_39) rfl
  refine own_step st5 ?_
  replace Zs : n0 ≤ h5.size := by rw [W5.size]; exact Zs
  replace V_b1 := B5
  replace Nf := Fr.snoc X5 Nf g_b1
  show own_Fin _ _ _ _ _ _ _ _ (mkF m 40 #[.val (.int p1), .val (.int p2), .val (.int p3), .val (.int p4), .val (.int p5), .val (.ref b1), .unset, .unset] [])
  refine own_step (fun t k => XS.aload X5.here hx rfl (hb hby at_40) rfl rfl k) ?_
  show own_Fin _ _ _ _ _ _ _ _ (mkF m 42 #[.val (.int p1), .val (.int p2), .val (.int p3), .val (.int p4), .val (.int p5), .val (.ref b1), .unset, .unset] [(.ref b1)])
  refine own_step (fun t k => XS.bipush X5.here hx rfl (hb hby at_42) k) ?_
  show own_Fin _ _ _ _ _ _ _ _ (mkF m 44 #[.val (.int p1), .val (.int p2), .val (.int p3), .val (.int p4), .val (.int p5), .val (.ref b1), .unset, .unset] [(.int (22 : Int32)), (.ref b1)])
  refine own_step (fun t k => XS.iloadN X5.here hx rfl (hb hby at_44) rfl k) ?_
  show own_Fin _ _ _ _ _ _ _ _ (mkF m 45 #[.val (.int p1), .val (.int p2), .val (.int p3), .val (.int p4), .val (.int p5), .val (.ref b1), .unset, .unset] [(.int p1), (.int (22 : Int32)), (.ref b1)])
  refine own_step (fun t k => XS.bipush X5.here hx rfl (hb hby at_45) k) ?_
  show own_Fin _ _ _ _ _ _ _ _ (mkF m 47 #[.val (.int p1), .val (.int p2), .val (.int p3), .val (.int p4), .val (.int p5), .val (.ref b1), .unset, .unset] [(.int (16 : Int32)), (.int p1), (.int (22 : Int32)), (.ref b1)])
  refine own_step (fun t k => XS.ishr X5.here hx rfl (hb hby at_47) rfl k) ?_
  show own_Fin _ _ _ _ _ _ _ _ (mkF m 48 #[.val (.int p1), .val (.int p2), .val (.int p3), .val (.int p4), .val (.int p5), .val (.ref b1), .unset, .unset] [(.int (p1 >>> ((16 : Int32) &&& 31))), (.int (22 : Int32)), (.ref b1)])
  refine own_step (fun t k => XS.i2b X5.here hx rfl (hb hby at_48) rfl k) ?_
  show own_Fin _ _ _ _ _ _ _ _ (mkF m 49 #[.val (.int p1), .val (.int p2), .val (.int p3), .val (.int p4), .val (.int p5), .val (.ref b1), .unset, .unset] [(.int ((p1 >>> ((16 : Int32) &&& 31)).toInt8.toInt32)), (.int (22 : Int32)), (.ref b1)])
  obtain ⟨T6, h6, X6, e6, W6, B6, st6⟩ := own_bastore X5 hx hZ e5 V_b1 (j := (22 : Int32)) (k := 22) rfl (by decide) (own_nar8 _) (x := ((p1 >>> ((16 : Int32) &&& 31)).toInt8.toInt32)) (pc := 49) (Ls := #[.val (.int p1), .val (.int p2), .val (.int p3), .val (.int p4), .val (.int p5), .val (.ref b1), .unset, .unset]) (rest := []) (hb hby at_49) rfl
  refine own_step st6 ?_
  replace Zs : n0 ≤ h6.size := by rw [W6.size]; exact Zs
  replace V_b1 := B6
  replace Nf := Fr.snoc X6 Nf g_b1
  show own_Fin _ _ _ _ _ _ _ _ (mkF m 50 #[.val (.int p1), .val (.int p2), .val (.int p3), .val (.int p4), .val (.int p5), .val (.ref b1), .unset, .unset] [])
  refine own_step (fun t k => XS.aload X6.here hx rfl (hb hby at_50) rfl rfl k) ?_
  show own_Fin _ _ _ _ _ _ _ _ (mkF m 52 #[.val (.int p1), .val (.int p2), .val (.int p3), .val (.int p4), .val (.int p5), .val (.ref b1), .unset, .unset] [(.ref b1)])
  refine own_step (fun t k => XS.bipush X6.here hx rfl (hb hby at_52) k) ?_
  show own_Fin _ _ _ _ _ _ _ _ (mkF m 54 #[.val (.int p1), .val (.int p2), .val (.int p3), .val (.int p4), .val (.int p5), .val (.ref b1), .unset, .unset] [(.int (23 : Int32)), (.ref b1)])
  refine own_step (fun t k => XS.iloadN X6.here hx rfl (hb hby at_54) rfl k) ?_
  show own_Fin _ _ _ _ _ _ _ _ (mkF m 55 #[.val (.int p1), .val (.int p2), .val (.int p3), .val (.int p4), .val (.int p5), .val (.ref b1), .unset, .unset] [(.int p1), (.int (23 : Int32)), (.ref b1)])
  refine own_step (fun t k => XS.bipush X6.here hx rfl (hb hby at_55) k) ?_
  show own_Fin _ _ _ _ _ _ _ _ (mkF m 57 #[.val (.int p1), .val (.int p2), .val (.int p3), .val (.int p4), .val (.int p5), .val (.ref b1), .unset, .unset] [(.int (24 : Int32)), (.int p1), (.int (23 : Int32)), (.ref b1)])
  refine own_step (fun t k => XS.iushr X6.here hx rfl (hb hby at_57) rfl k) ?_
  show own_Fin _ _ _ _ _ _ _ _ (mkF m 58 #[.val (.int p1), .val (.int p2), .val (.int p3), .val (.int p4), .val (.int p5), .val (.ref b1), .unset, .unset] [(.int ((p1.toUInt32 >>> ((24 : Int32) &&& 31).toUInt32).toInt32)), (.int (23 : Int32)), (.ref b1)])
  refine own_step (fun t k => XS.i2b X6.here hx rfl (hb hby at_58) rfl k) ?_
  show own_Fin _ _ _ _ _ _ _ _ (mkF m 59 #[.val (.int p1), .val (.int p2), .val (.int p3), .val (.int p4), .val (.int p5), .val (.ref b1), .unset, .unset] [(.int (((p1.toUInt32 >>> ((24 : Int32) &&& 31).toUInt32).toInt32).toInt8.toInt32)), (.int (23 : Int32)), (.ref b1)])
  obtain ⟨T7, h7, X7, e7, W7, B7, st7⟩ := own_bastore X6 hx hZ e6 V_b1 (j := (23 : Int32)) (k := 23) rfl (by decide) (own_nar8 _) (x := (((p1.toUInt32 >>> ((24 : Int32) &&& 31).toUInt32).toInt32).toInt8.toInt32)) (pc := 59) (Ls := #[.val (.int p1), .val (.int p2), .val (.int p3), .val (.int p4), .val (.int p5), .val (.ref b1), .unset, .unset]) (rest := []) (hb hby at_59) rfl
  refine own_step st7 ?_
  replace Zs : n0 ≤ h7.size := by rw [W7.size]; exact Zs
  replace V_b1 := B7
  replace Nf := Fr.snoc X7 Nf g_b1
  show own_Fin _ _ _ _ _ _ _ _ (mkF m 60 #[.val (.int p1), .val (.int p2), .val (.int p3), .val (.int p4), .val (.int p5), .val (.ref b1), .unset, .unset] [])
  obtain ⟨gE, V_b1, hgE_24, hgE_25⟩ : ∃ f, own_AI Z h7 b1 .byte 276 f ∧ f 24 = (0 : Int32) ∧ f 25 = (0 : Int32) := ⟨_, V_b1, rfl, rfl⟩
  refine own_step (fun t k => XS.aload X7.here hx rfl (hb hby at_60) rfl rfl k) ?_
  show own_Fin _ _ _ _ _ _ _ _ (mkF m 62 #[.val (.int p1), .val (.int p2), .val (.int p3), .val (.int p4), .val (.int p5), .val (.ref b1), .unset, .unset] [(.ref b1)])
  refine own_step (fun t k => XS.bipush X7.here hx rfl (hb hby at_62) k) ?_
  show own_Fin _ _ _ _ _ _ _ _ (mkF m 64 #[.val (.int p1), .val (.int p2), .val (.int p3), .val (.int p4), .val (.int p5), .val (.ref b1), .unset, .unset] [(.int (20 : Int32)), (.ref b1)])
  refine own_step (fun t k => XS.iloadN X7.here hx rfl (hb hby at_64) rfl k) ?_
  show own_Fin _ _ _ _ _ _ _ _ (mkF m 65 #[.val (.int p1), .val (.int p2), .val (.int p3), .val (.int p4), .val (.int p5), .val (.ref b1), .unset, .unset] [(.int p3), (.int (20 : Int32)), (.ref b1)])
  refine own_step (fun t k => XS.sipush X7.here hx rfl (hb hby at_65) k) ?_
  show own_Fin _ _ _ _ _ _ _ _ (mkF m 68 #[.val (.int p1), .val (.int p2), .val (.int p3), .val (.int p4), .val (.int p5), .val (.ref b1), .unset, .unset] [(.int (255 : Int32)), (.int p3), (.int (20 : Int32)), (.ref b1)])
  refine own_step (fun t k => XS.iand X7.here hx rfl (hb hby at_68) rfl k) ?_
  show own_Fin _ _ _ _ _ _ _ _ (mkF m 69 #[.val (.int p1), .val (.int p2), .val (.int p3), .val (.int p4), .val (.int p5), .val (.ref b1), .unset, .unset] [(.int (p3 &&& (255 : Int32))), (.int (20 : Int32)), (.ref b1)])
  refine own_step (fun t k => XS.iadd X7.here hx rfl (hb hby at_69) rfl k) ?_
  show own_Fin _ _ _ _ _ _ _ _ (mkF m 70 #[.val (.int p1), .val (.int p2), .val (.int p3), .val (.int p4), .val (.int p5), .val (.ref b1), .unset, .unset] [(.int ((20 : Int32) + (p3 &&& (255 : Int32)))), (.ref b1)])
  generalize hix : ((20 : Int32) + (p3 &&& (255 : Int32))) = ix
  have hI : 20 ≤ ix.toInt ∧ ix.toInt ≤ 275 := by
    have q := c_mask p3 255 8 (by decide) (by decide)
    have r := c_iadd 20 (p3 &&& 255)
    have e : (20 : Int32).toInt = 20 := by decide
    have g := rng32 ix
    rw [hix, e] at r
    omega
  refine own_step (fun t k => XS.iloadN X7.here hx rfl (hb hby at_70) rfl k) ?_
  show own_Fin _ _ _ _ _ _ _ _ (mkF m 71 #[.val (.int p1), .val (.int p2), .val (.int p3), .val (.int p4), .val (.int p5), .val (.ref b1), .unset, .unset] [(.int p4), (.int ix), (.ref b1)])
  refine own_step (fun t k => XS.i2b X7.here hx rfl (hb hby at_71) rfl k) ?_
  show own_Fin _ _ _ _ _ _ _ _ (mkF m 72 #[.val (.int p1), .val (.int p2), .val (.int p3), .val (.int p4), .val (.int p5), .val (.ref b1), .unset, .unset] [(.int (p4.toInt8.toInt32)), (.int ix), (.ref b1)])
  obtain ⟨T8, h8, X8, e8, W8, B8, st8⟩ := own_bastore X7 hx hZ e7 V_b1 (j := ix) (k := ix.toInt.toNat) (by omega) (by omega) (own_nar8 _) (x := (p4.toInt8.toInt32)) (pc := 72) (Ls := #[.val (.int p1), .val (.int p2), .val (.int p3), .val (.int p4), .val (.int p5), .val (.ref b1), .unset, .unset]) (rest := []) (hb hby at_72) rfl
  refine own_step st8 ?_
  replace Zs : n0 ≤ h8.size := by rw [W8.size]; exact Zs
  replace V_b1 := B8
  replace Nf := Fr.snoc X8 Nf g_b1
  show own_Fin _ _ _ _ _ _ _ _ (mkF m 73 #[.val (.int p1), .val (.int p2), .val (.int p3), .val (.int p4), .val (.int p5), .val (.ref b1), .unset, .unset] [])
  obtain ⟨fE, V_b1, hz⟩ : ∃ f, own_AI Z h8 b1 .byte 276 f ∧ (¬ (f 24).toInt = 0 → (f 25).toInt = 0) := by
    refine ⟨_, V_b1, ?_⟩
    intro h
    by_cases q : 24 = ix.toInt.toNat
    · have q2 : ¬ (25 = ix.toInt.toNat) := by omega
      show (if 25 = ix.toInt.toNat then (p4.toInt8.toInt32) else gE 25).toInt = 0
      rw [if_neg q2, hgE_25]; rfl
    · have h' : ¬ (if 24 = ix.toInt.toNat then (p4.toInt8.toInt32) else gE 24).toInt = 0 := h
      rw [if_neg q, hgE_24] at h'
      exact absurd rfl h'
  refine own_step (fun t k => XS.iconst X8.here hx rfl (hb hby at_73) k) ?_
  show own_Fin _ _ _ _ _ _ _ _ (mkF m 74 #[.val (.int p1), .val (.int p2), .val (.int p3), .val (.int p4), .val (.int p5), .val (.ref b1), .unset, .unset] [(.int (4 : Int32))])
  obtain ⟨T9, h9, k9, X9, e9, E9, A9, st9⟩ := newP X8 hx hZ (hw _ (List.mem_of_getElem? (i := 1) rfl)) e8 (g := (mkF m 74 #[.val (.int p1), .val (.int p2), .val (.int p3), .val (.int p4), .val (.int p5), .val (.ref b1), .unset, .unset] [(.int (4 : Int32))])) rfl (hb hby at_74) rfl (by decide) (cap := 4) (by decide) (by decide) (by decide) (by decide)
  obtain ⟨b9, g9⟩ : ∃ z, z = h8.size := ⟨_, rfl⟩
  rw [← g9] at A9 st9
  refine own_step st9 ?_
  have ne_b1_b9 : b1 ≠ b9 := Nat.ne_of_lt (Nat.lt_of_lt_of_le V_b1.lt (Nat.le_of_eq g9.symm))
  have g_b9 : n0 ≤ b9 := Nat.le_trans Zs (Nat.le_of_eq g9.symm)
  replace V_b1 := V_b1.ext E9
  replace Zs := Nat.le_trans Zs E9.1
  have V_b9 := own_AI.newI (n := 4) A9 (by decide)
  show own_Fin _ _ _ _ _ _ _ _ (mkF m 76 #[.val (.int p1), .val (.int p2), .val (.int p3), .val (.int p4), .val (.int p5), .val (.ref b1), .unset, .unset] [(.ref b9)])
  refine own_step (fun t k => XS.astore X9.here hx rfl (hb hby at_76) rfl rfl (l' := #[.val (.int p1), .val (.int p2), .val (.int p3), .val (.int p4), .val (.int p5), .val (.ref b1), .val (.ref b9), .unset]) rfl k) ?_
  show own_Fin _ _ _ _ _ _ _ _ (mkF m 78 #[.val (.int p1), .val (.int p2), .val (.int p3), .val (.int p4), .val (.int p5), .val (.ref b1), .val (.ref b9), .unset] [])
  refine own_step (fun t k => XS.aload X9.here hx rfl (hb hby at_78) rfl rfl k) ?_
  show own_Fin _ _ _ _ _ _ _ _ (mkF m 80 #[.val (.int p1), .val (.int p2), .val (.int p3), .val (.int p4), .val (.int p5), .val (.ref b1), .val (.ref b9), .unset] [(.ref b9)])
  refine own_step (fun t k => XS.iconst X9.here hx rfl (hb hby at_80) k) ?_
  show own_Fin _ _ _ _ _ _ _ _ (mkF m 81 #[.val (.int p1), .val (.int p2), .val (.int p3), .val (.int p4), .val (.int p5), .val (.ref b1), .val (.ref b9), .unset] [(.int (0 : Int32)), (.ref b9)])
  refine own_step (fun t k => XS.iload X9.here hx rfl (hb hby at_81) rfl k) ?_
  show own_Fin _ _ _ _ _ _ _ _ (mkF m 83 #[.val (.int p1), .val (.int p2), .val (.int p3), .val (.int p4), .val (.int p5), .val (.ref b1), .val (.ref b9), .unset] [(.int p5), (.int (0 : Int32)), (.ref b9)])
  obtain ⟨T10, h10, X10, e10, W10, B10, st10⟩ := own_iastore X9 hx hZ e9 V_b9 (j := (0 : Int32)) (k := 0) rfl (by decide) (x := p5) (pc := 83) (Ls := #[.val (.int p1), .val (.int p2), .val (.int p3), .val (.int p4), .val (.int p5), .val (.ref b1), .val (.ref b9), .unset]) (rest := []) (hb hby at_83) rfl
  refine own_step st10 ?_
  replace V_b1 := V_b1.other W10 ne_b1_b9
  replace Zs : n0 ≤ h10.size := by rw [W10.size]; exact Zs
  replace V_b9 := B10
  replace Nf := Fr.snoc X10 Nf g_b9
  show own_Fin _ _ _ _ _ _ _ _ (mkF m 84 #[.val (.int p1), .val (.int p2), .val (.int p3), .val (.int p4), .val (.int p5), .val (.ref b1), .val (.ref b9), .unset] [])
  refine own_step (fun t k => XS.aload X10.here hx rfl (hb hby at_84) rfl rfl k) ?_
  show own_Fin _ _ _ _ _ _ _ _ (mkF m 86 #[.val (.int p1), .val (.int p2), .val (.int p3), .val (.int p4), .val (.int p5), .val (.ref b1), .val (.ref b9), .unset] [(.ref b9)])
  refine own_step (fun t k => XS.iconst X10.here hx rfl (hb hby at_86) k) ?_
  show own_Fin _ _ _ _ _ _ _ _ (mkF m 87 #[.val (.int p1), .val (.int p2), .val (.int p3), .val (.int p4), .val (.int p5), .val (.ref b1), .val (.ref b9), .unset] [(.int (1 : Int32)), (.ref b9)])
  refine own_step (fun t k => XS.iload X10.here hx rfl (hb hby at_87) rfl k) ?_
  show own_Fin _ _ _ _ _ _ _ _ (mkF m 89 #[.val (.int p1), .val (.int p2), .val (.int p3), .val (.int p4), .val (.int p5), .val (.ref b1), .val (.ref b9), .unset] [(.int p5), (.int (1 : Int32)), (.ref b9)])
  obtain ⟨T11, h11, X11, e11, W11, B11, st11⟩ := own_iastore X10 hx hZ e10 V_b9 (j := (1 : Int32)) (k := 1) rfl (by decide) (x := p5) (pc := 89) (Ls := #[.val (.int p1), .val (.int p2), .val (.int p3), .val (.int p4), .val (.int p5), .val (.ref b1), .val (.ref b9), .unset]) (rest := []) (hb hby at_89) rfl
  refine own_step st11 ?_
  replace V_b1 := V_b1.other W11 ne_b1_b9
  replace Zs : n0 ≤ h11.size := by rw [W11.size]; exact Zs
  replace V_b9 := B11
  replace Nf := Fr.snoc X11 Nf g_b9
  show own_Fin _ _ _ _ _ _ _ _ (mkF m 90 #[.val (.int p1), .val (.int p2), .val (.int p3), .val (.int p4), .val (.int p5), .val (.ref b1), .val (.ref b9), .unset] [])
  refine own_step (fun t k => XS.aload X11.here hx rfl (hb hby at_90) rfl rfl k) ?_
  show own_Fin _ _ _ _ _ _ _ _ (mkF m 92 #[.val (.int p1), .val (.int p2), .val (.int p3), .val (.int p4), .val (.int p5), .val (.ref b1), .val (.ref b9), .unset] [(.ref b9)])
  refine own_step (fun t k => XS.iconst X11.here hx rfl (hb hby at_92) k) ?_
  show own_Fin _ _ _ _ _ _ _ _ (mkF m 93 #[.val (.int p1), .val (.int p2), .val (.int p3), .val (.int p4), .val (.int p5), .val (.ref b1), .val (.ref b9), .unset] [(.int (2 : Int32)), (.ref b9)])
  refine own_step (fun t k => XS.iload X11.here hx rfl (hb hby at_93) rfl k) ?_
  show own_Fin _ _ _ _ _ _ _ _ (mkF m 95 #[.val (.int p1), .val (.int p2), .val (.int p3), .val (.int p4), .val (.int p5), .val (.ref b1), .val (.ref b9), .unset] [(.int p5), (.int (2 : Int32)), (.ref b9)])
  obtain ⟨T12, h12, X12, e12, W12, B12, st12⟩ := own_iastore X11 hx hZ e11 V_b9 (j := (2 : Int32)) (k := 2) rfl (by decide) (x := p5) (pc := 95) (Ls := #[.val (.int p1), .val (.int p2), .val (.int p3), .val (.int p4), .val (.int p5), .val (.ref b1), .val (.ref b9), .unset]) (rest := []) (hb hby at_95) rfl
  refine own_step st12 ?_
  replace V_b1 := V_b1.other W12 ne_b1_b9
  replace Zs : n0 ≤ h12.size := by rw [W12.size]; exact Zs
  replace V_b9 := B12
  replace Nf := Fr.snoc X12 Nf g_b9
  show own_Fin _ _ _ _ _ _ _ _ (mkF m 96 #[.val (.int p1), .val (.int p2), .val (.int p3), .val (.int p4), .val (.int p5), .val (.ref b1), .val (.ref b9), .unset] [])
  refine own_step (fun t k => XS.aload X12.here hx rfl (hb hby at_96) rfl rfl k) ?_
  show own_Fin _ _ _ _ _ _ _ _ (mkF m 98 #[.val (.int p1), .val (.int p2), .val (.int p3), .val (.int p4), .val (.int p5), .val (.ref b1), .val (.ref b9), .unset] [(.ref b9)])
  refine own_step (fun t k => XS.iconst X12.here hx rfl (hb hby at_98) k) ?_
  show own_Fin _ _ _ _ _ _ _ _ (mkF m 99 #[.val (.int p1), .val (.int p2), .val (.int p3), .val (.int p4), .val (.int p5), .val (.ref b1), .val (.ref b9), .unset] [(.int (3 : Int32)), (.ref b9)])
  refine own_step (fun t k => XS.iload X12.here hx rfl (hb hby at_99) rfl k) ?_
  show own_Fin _ _ _ _ _ _ _ _ (mkF m 101 #[.val (.int p1), .val (.int p2), .val (.int p3), .val (.int p4), .val (.int p5), .val (.ref b1), .val (.ref b9), .unset] [(.int p5), (.int (3 : Int32)), (.ref b9)])
  obtain ⟨T13, h13, X13, e13, W13, B13, st13⟩ := own_iastore X12 hx hZ e12 V_b9 (j := (3 : Int32)) (k := 3) rfl (by decide) (x := p5) (pc := 101) (Ls := #[.val (.int p1), .val (.int p2), .val (.int p3), .val (.int p4), .val (.int p5), .val (.ref b1), .val (.ref b9), .unset]) (rest := []) (hb hby at_101) rfl
  refine own_step st13 ?_
  replace V_b1 := V_b1.other W13 ne_b1_b9
  replace Zs : n0 ≤ h13.size := by rw [W13.size]; exact Zs
  replace V_b9 := B13
  replace Nf := Fr.snoc X13 Nf g_b9
  show own_Fin _ _ _ _ _ _ _ _ (mkF m 102 #[.val (.int p1), .val (.int p2), .val (.int p3), .val (.int p4), .val (.int p5), .val (.ref b1), .val (.ref b9), .unset] [])
  refine own_step (fun t k => XS.aload X13.here hx rfl (hb hby at_102) rfl rfl k) ?_
  show own_Fin _ _ _ _ _ _ _ _ (mkF m 104 #[.val (.int p1), .val (.int p2), .val (.int p3), .val (.int p4), .val (.int p5), .val (.ref b1), .val (.ref b9), .unset] [(.ref b1)])
  refine own_step (fun t k => XS.aload X13.here hx rfl (hb hby at_104) rfl rfl k) ?_
  show own_Fin _ _ _ _ _ _ _ _ (mkF m 106 #[.val (.int p1), .val (.int p2), .val (.int p3), .val (.int p4), .val (.int p5), .val (.ref b1), .val (.ref b9), .unset] [(.ref b9), (.ref b1)])
  obtain ⟨_, _, ⟨T14, L14, k14, n14⟩, -, X14, ⟨Lc14, hQ14, l14, y14, z14⟩, st14⟩ := Jvm.LawKit.callS X13 hx (y := (⟨"com/example/pcr10/pcr10/TemplateFormat", "legacyFieldRanges", "([B[I)V"⟩ : MethodName)) hown (mvT hZ (hw _ (List.mem_of_getElem? (i := 2) rfl))) (mvT hZ (hw _ (List.mem_of_getElem? (i := 3) rfl))) (mvT hZ (hw _ (List.mem_of_getElem? (i := 4) rfl))) (mvT hZ (hw _ (List.mem_of_getElem? (i := 5) rfl))) (by decide) (backOf (W := 0) (rm1 l Z a0 hw [] b1 b9 _ _ h13 n0 Zs V_b1 V_b9 g_b9 ne_b1_b9 hz) hZ (hw _ (List.mem_of_getElem? (i := 5) rfl)) (hw _ (List.mem_of_getElem? (i := 4) rfl)) (by decide) (by decide)) (g := (mkF m 106 #[.val (.int p1), .val (.int p2), .val (.int p3), .val (.int p4), .val (.int p5), .val (.ref b1), .val (.ref b9), .unset] [(.ref b9), (.ref b1)])) rfl (by rw [hml]; rfl) (argsL := [(.ref b1), (.ref b9)]) (rest := []) (lenOf own_pd_0 rfl) rfl (by show 2 * 0 + _ ≤ _; exact Nat.le_of_eq rfl) (hb hby at_106) (fun _ _ => ⟨rfl, e13, (by decide : 2 + 0 ≤ _), (by decide : 280 + 0 ≤ _)⟩)
  dsimp only [Pt.U, Pt.locs, Pt.cells, Pt.slots] at X14 l14 y14 z14 st14 hQ14
  subst l14 y14 z14
  obtain ⟨rfl, Nq14, Kq14, zE, hzE, P14⟩ := hQ14
  replace Nf := Fr.app Nf Nq14
  replace V_b9 := P14
  replace V_b1 := V_b1.keep Kq14 (ninS ne_b1_b9 nin0)
  replace Zs := Nat.le_trans Zs Kq14.1
  refine own_step st14 ?_
  show own_Fin _ _ _ _ _ _ _ _ (mkF m 109 #[.val (.int p1), .val (.int p2), .val (.int p3), .val (.int p4), .val (.int p5), .val (.ref b1), .val (.ref b9), .unset] [])
  refine own_step (fun t k => XS.aload X14.here hx rfl (hb hby at_109) rfl rfl k) ?_
  show own_Fin _ _ _ _ _ _ _ _ (mkF m 111 #[.val (.int p1), .val (.int p2), .val (.int p3), .val (.int p4), .val (.int p5), .val (.ref b1), .val (.ref b9), .unset] [(.ref b1)])
  obtain ⟨_, _, ⟨T15, L15, k15, n15⟩, -, X15, ⟨Lc15, hQ15, l15, y15, z15⟩, st15⟩ := Jvm.LawKit.callS X14 hx (y := (⟨"com/example/pcr10/pcr10/TemplateFormatLegacyFieldRangesPinLaw", "firstZero", "([B)I"⟩ : MethodName)) hown (mvT hZ (hw _ (List.mem_of_getElem? (i := 6) rfl))) (mvT hZ (hw _ (List.mem_of_getElem? (i := 7) rfl))) (mvT hZ (hw _ (List.mem_of_getElem? (i := 8) rfl))) (mvT hZ (hw _ (List.mem_of_getElem? (i := 9) rfl))) (by decide) (backOf (W := 0) (rm2 l Z a0 hw [] b1 _ T14.heap n0 Zs V_b1) hZ (hw _ (List.mem_of_getElem? (i := 9) rfl)) (hw _ (List.mem_of_getElem? (i := 8) rfl)) (by decide) (by decide)) (g := (mkF m 111 #[.val (.int p1), .val (.int p2), .val (.int p3), .val (.int p4), .val (.int p5), .val (.ref b1), .val (.ref b9), .unset] [(.ref b1)])) rfl (by rw [hml]; rfl) (argsL := [(.ref b1)]) (rest := []) (lenOf own_pd_1 rfl) rfl (by show 2 * 0 + _ ≤ _; exact Nat.le_of_eq rfl) (hb hby at_111) (fun _ _ => ⟨rfl, rfl, (by decide : 2 + 0 ≤ _), (by decide : 280 + 0 ≤ _)⟩)
  dsimp only [Pt.U, Pt.locs, Pt.cells, Pt.slots] at X15 l15 y15 z15 st15 hQ15
  subst l15 y15 z15
  obtain ⟨r15, rfl, hB15, Nq15, hh15⟩ := hQ15
  replace Nf := Fr.app Nf Nq15
  refine own_step st15 ?_
  show own_Fin _ _ _ _ _ _ _ _ (mkF m 114 #[.val (.int p1), .val (.int p2), .val (.int p3), .val (.int p4), .val (.int p5), .val (.ref b1), .val (.ref b9), .unset] [(.int r15)])
  refine own_step (fun t k => XS.istore X15.here hx rfl (hb hby at_114) rfl (l' := #[.val (.int p1), .val (.int p2), .val (.int p3), .val (.int p4), .val (.int p5), .val (.ref b1), .val (.ref b9), .val (.int r15)]) rfl k) ?_
  show own_Fin _ _ _ _ _ _ _ _ (mkF m 116 #[.val (.int p1), .val (.int p2), .val (.int p3), .val (.int p4), .val (.int p5), .val (.ref b1), .val (.ref b9), .val (.int r15)] [])
  refine own_step (fun t k => XS.aload X15.here hx rfl (hb hby at_116) rfl rfl k) ?_
  show own_Fin _ _ _ _ _ _ _ _ (mkF m 118 #[.val (.int p1), .val (.int p2), .val (.int p3), .val (.int p4), .val (.int p5), .val (.ref b1), .val (.ref b9), .val (.int r15)] [(.ref b9)])
  refine own_step (fun t k => XS.iconst X15.here hx rfl (hb hby at_118) k) ?_
  show own_Fin _ _ _ _ _ _ _ _ (mkF m 119 #[.val (.int p1), .val (.int p2), .val (.int p3), .val (.int p4), .val (.int p5), .val (.ref b1), .val (.ref b9), .val (.int r15)] [(.int (0 : Int32)), (.ref b9)])
  refine own_iaload X15 hx hZ hh15 V_b9 (k := 0) rfl (by decide) (v := (0 : Int32)) rfl (hb hby at_119) rfl ?_
  show own_Fin _ _ _ _ _ _ _ _ (mkF m 120 #[.val (.int p1), .val (.int p2), .val (.int p3), .val (.int p4), .val (.int p5), .val (.ref b1), .val (.ref b9), .val (.int r15)] [(.int (0 : Int32))])
  refine own_step (fun t k => XS.ifNo X15.here hx rfl (hb hby at_120) rfl (by decide) k) ?_
  show own_Fin _ _ _ _ _ _ _ _ (mkF m 123 #[.val (.int p1), .val (.int p2), .val (.int p3), .val (.int p4), .val (.int p5), .val (.ref b1), .val (.ref b9), .val (.int r15)] [])
  refine own_step (fun t k => XS.aload X15.here hx rfl (hb hby at_123) rfl rfl k) ?_
  show own_Fin _ _ _ _ _ _ _ _ (mkF m 125 #[.val (.int p1), .val (.int p2), .val (.int p3), .val (.int p4), .val (.int p5), .val (.ref b1), .val (.ref b9), .val (.int r15)] [(.ref b9)])
  refine own_step (fun t k => XS.iconst X15.here hx rfl (hb hby at_125) k) ?_
  show own_Fin _ _ _ _ _ _ _ _ (mkF m 126 #[.val (.int p1), .val (.int p2), .val (.int p3), .val (.int p4), .val (.int p5), .val (.ref b1), .val (.ref b9), .val (.int r15)] [(.int (1 : Int32)), (.ref b9)])
  refine own_iaload X15 hx hZ hh15 V_b9 (k := 1) rfl (by decide) (v := (20 : Int32)) rfl (hb hby at_126) rfl ?_
  show own_Fin _ _ _ _ _ _ _ _ (mkF m 127 #[.val (.int p1), .val (.int p2), .val (.int p3), .val (.int p4), .val (.int p5), .val (.ref b1), .val (.ref b9), .val (.int r15)] [(.int (20 : Int32))])
  refine own_step (fun t k => XS.bipush X15.here hx rfl (hb hby at_127) k) ?_
  show own_Fin _ _ _ _ _ _ _ _ (mkF m 129 #[.val (.int p1), .val (.int p2), .val (.int p3), .val (.int p4), .val (.int p5), .val (.ref b1), .val (.ref b9), .val (.int r15)] [(.int (20 : Int32)), (.int (20 : Int32))])
  refine own_step (fun t k => XS.icmpNo X15.here hx rfl (hb hby at_129) rfl (by decide) k) ?_
  show own_Fin _ _ _ _ _ _ _ _ (mkF m 132 #[.val (.int p1), .val (.int p2), .val (.int p3), .val (.int p4), .val (.int p5), .val (.ref b1), .val (.ref b9), .val (.int r15)] [])
  refine own_step (fun t k => XS.aload X15.here hx rfl (hb hby at_132) rfl rfl k) ?_
  show own_Fin _ _ _ _ _ _ _ _ (mkF m 134 #[.val (.int p1), .val (.int p2), .val (.int p3), .val (.int p4), .val (.int p5), .val (.ref b1), .val (.ref b9), .val (.int r15)] [(.ref b9)])
  refine own_step (fun t k => XS.iconst X15.here hx rfl (hb hby at_134) k) ?_
  show own_Fin _ _ _ _ _ _ _ _ (mkF m 135 #[.val (.int p1), .val (.int p2), .val (.int p3), .val (.int p4), .val (.int p5), .val (.ref b1), .val (.ref b9), .val (.int r15)] [(.int (2 : Int32)), (.ref b9)])
  refine own_iaload X15 hx hZ hh15 V_b9 (k := 2) rfl (by decide) (v := (20 : Int32)) rfl (hb hby at_135) rfl ?_
  show own_Fin _ _ _ _ _ _ _ _ (mkF m 136 #[.val (.int p1), .val (.int p2), .val (.int p3), .val (.int p4), .val (.int p5), .val (.ref b1), .val (.ref b9), .val (.int r15)] [(.int (20 : Int32))])
  refine own_step (fun t k => XS.bipush X15.here hx rfl (hb hby at_136) k) ?_
  show own_Fin _ _ _ _ _ _ _ _ (mkF m 138 #[.val (.int p1), .val (.int p2), .val (.int p3), .val (.int p4), .val (.int p5), .val (.ref b1), .val (.ref b9), .val (.int r15)] [(.int (20 : Int32)), (.int (20 : Int32))])
  refine own_step (fun t k => XS.icmpNo X15.here hx rfl (hb hby at_138) rfl (by decide) k) ?_
  show own_Fin _ _ _ _ _ _ _ _ (mkF m 141 #[.val (.int p1), .val (.int p2), .val (.int p3), .val (.int p4), .val (.int p5), .val (.ref b1), .val (.ref b9), .val (.int r15)] [])
  refine own_step (fun t k => XS.aload X15.here hx rfl (hb hby at_141) rfl rfl k) ?_
  show own_Fin _ _ _ _ _ _ _ _ (mkF m 143 #[.val (.int p1), .val (.int p2), .val (.int p3), .val (.int p4), .val (.int p5), .val (.ref b1), .val (.ref b9), .val (.int r15)] [(.ref b9)])
  refine own_step (fun t k => XS.iconst X15.here hx rfl (hb hby at_143) k) ?_
  show own_Fin _ _ _ _ _ _ _ _ (mkF m 144 #[.val (.int p1), .val (.int p2), .val (.int p3), .val (.int p4), .val (.int p5), .val (.ref b1), .val (.ref b9), .val (.int r15)] [(.int (3 : Int32)), (.ref b9)])
  refine own_iaload X15 hx hZ hh15 V_b9 (k := 3) rfl (by decide) (v := zE) rfl (hb hby at_144) rfl ?_
  show own_Fin _ _ _ _ _ _ _ _ (mkF m 145 #[.val (.int p1), .val (.int p2), .val (.int p3), .val (.int p4), .val (.int p5), .val (.ref b1), .val (.ref b9), .val (.int r15)] [(.int zE)])
  refine own_step (fun t k => XS.iload X15.here hx rfl (hb hby at_145) rfl k) ?_
  show own_Fin _ _ _ _ _ _ _ _ (mkF m 147 #[.val (.int p1), .val (.int p2), .val (.int p3), .val (.int p4), .val (.int p5), .val (.ref b1), .val (.ref b9), .val (.int r15)] [(.int r15), (.int zE)])
  have hc16 : (zE).toInt = (r15).toInt := own_FZ_eq fE _ _ hzE hB15
  refine own_step (fun t k => XS.icmpNo X15.here hx rfl (hb hby at_147) rfl (own_ce (x := zE) (y := r15) rfl rfl hc16).2 k) ?_
  show own_Fin _ _ _ _ _ _ _ _ (mkF m 150 #[.val (.int p1), .val (.int p2), .val (.int p3), .val (.int p4), .val (.int p5), .val (.ref b1), .val (.ref b9), .val (.int r15)] [])
  refine own_step (fun t k => XS.iconst X15.here hx rfl (hb hby at_150) k) ?_
  show own_Fin _ _ _ _ _ _ _ _ (mkF m 151 #[.val (.int p1), .val (.int p2), .val (.int p3), .val (.int p4), .val (.int p5), .val (.ref b1), .val (.ref b9), .val (.int r15)] [(.int (1 : Int32))])
  refine own_step (fun t k => XS.goto X15.here hx rfl (pc0 := 151) (pc' := 155) rfl (hb hby at_151) (by decide) (by decide) k) ?_
  show own_Fin _ _ _ _ _ _ _ _ (mkF m 155 #[.val (.int p1), .val (.int p2), .val (.int p3), .val (.int p4), .val (.int p5), .val (.ref b1), .val (.ref b9), .val (.int r15)] [(.int (1 : Int32))])
  refine own_retZ X15 hx hlk Bd.returns (hb hby at_155) (z' := (1 : Int32)) (by decide) (by decide) (by decide) hh15 ?_
  exact ⟨rfl, Nf⟩
set_option maxRecDepth 65536 in
set_option maxHeartbeats 40000000 in
theorem comes_1 {Post : Tables → Env → Array Value → State → Outcome → State → Prop} (hpost : ∀ tb e args s v u, (limb_1_1.after args s (.returned v) u = true ∧ limb_1_2.after args s (.returned v) u = true ∧ True) → FrameEnd s (.returned v) u (Jvm.fieldLocs frame_1_writes args s ++ Jvm.arrayLocs frame_1_arrays args s ++ Jvm.staticLocs frame_1_statics s) 16 640 → Post tb e args s (.returned v) u) :
    ArmFor flags0 classFile x code maxLocals ret World_1 tables_1 room_1 Calls_1 rest_1 Pre_1 Post := by
  intro l hfl _ _ p e ha hc hk s m args below hf hA hF happ hP
  obtain ⟨hcalls, hrest, hpre⟩ := hP
  obtain ⟨-, -, -, hnamed, -, -, -, hat⟩ := (Spec.applies_iff hf).mp happ
  obtain ⟨hg, hn⟩ := and_e (Cond.before_iff.mp (show (Jvm.Cond.and given_1 narrow_1).before args s = true from hpre))
  obtain ⟨g1, g2⟩ := and_e hg
  obtain ⟨g3, g4⟩ := and_e g2
  obtain ⟨g5, g6⟩ := and_e g4
  obtain ⟨g7, g8⟩ := and_e g6
  obtain ⟨g9, g10⟩ := and_e g8
  obtain ⟨w0, w1, w2, w3, w4, rfl⟩ : ∃ w0 w1 w2 w3 w4 : Value, args = #[w0, w1, w2, w3, w4] := by
    have hs : args.size = 5 := by simpa [Cond.value, given_1] using g1
    obtain ⟨L⟩ := args
    match L, hs with
    | [w0, w1, w2, w3, w4], _ => exact ⟨w0, w1, w2, w3, w4, rfl⟩
  have hw := fun d (hd : d ∈ tables_1) => atoms_spec (ws := Jvm.Cond.code x code maxLocals ret :: tables_1) hat d (List.mem_cons_of_mem _ hd)
  obtain ⟨i0, ei0⟩ := is_v g3
  obtain rfl : w0 = (.int i0) := Option.some.inj ei0
  obtain ⟨i1, ei1⟩ := is_v g5
  obtain rfl : w1 = (.int i1) := Option.some.inj ei1
  obtain ⟨i2, ei2⟩ := is_v g7
  obtain rfl : w2 = (.int i2) := Option.some.inj ei2
  obtain ⟨i3, ei3⟩ := is_v g9
  obtain rfl : w3 = (.int i3) := Option.some.inj ei3
  obtain ⟨i4, ei4⟩ := is_v g10
  obtain rfl : w4 = (.int i4) := Option.some.inj ei4
  obtain ⟨n, o, h1, h2, h3, _, L, rfl, ⟨rfl, N⟩, hq⟩ := rm0 l s _ hw tables_1 i0 i1 i2 i3 i4 s.heap s.heap.size (Nat.le_refl _) p e ha hc hk s m _ below hf ((Spec.applies_iff_loose hf).mp happ).1 ⟨rfl, State.Warmed39.refl s, rfl⟩ trivial
  refine ⟨n, _, h1, h2, h3, hpost _ _ _ _ _ _ ⟨Cond.after_iff.mpr rfl, Cond.after_iff.mpr (eq_i res_at (Term.int_eval (1)) rfl), trivial⟩ ⟨hq.1, hq.2.1, (hq.2.2.sift fun y hy => Or.inr (N y hy)).mono (by decide) (by decide)⟩⟩
theorem main_1_1 : Claimed_1_1 := comes_1 fun _ _ _ _ _ _ h hF => ⟨h.1, hF⟩
theorem main_1_2 : Claimed_1_2 := comes_1 fun _ _ _ _ _ _ h hF => ⟨h.2.1, hF⟩
end Jvm.Pilot.@@N@@
namespace Jvm.Pilot.@@N@@
open Jvm Jvm.ClassFile Sem Op Lib Jvm.Free Jvm.Stand Jvm.Pilot.@@N@@.Jvm.D
/-! MADE BY PROGRAM (witnessworld.py) out of the Statement's table words and the real class files: 9 classes; the members and pool entries that the words name. The judged class is class 1, her method 1. -/
namespace start1
open Jvm.ClassFile
def u (s : String) : CpInfo := .utf8 (stringToUtf16 s)
/-- a pool by its gaps: so many unusable entries, then the entry; so many at the end -/
def gap : Nat → List CpInfo → List CpInfo
  | 0, r => r
  | n + 1, r => .unusable :: gap n r
def poolList (es : List (Nat × CpInfo)) (last : Nat) : List CpInfo := es.foldr (fun e r => gap e.1 (e.2 :: r)) (gap last [])
def pool (es : List (Nat × CpInfo)) (last : Nat) : Array CpInfo := ⟨poolList es last⟩
def fileOf (pool : Array CpInfo) (this : Nat) (attrs : Array Attribute := #[]) (ms : Array MethodInfo := #[]) (fl : Nat := 33) (sup : Nat := 0) (ifs : Array Nat := #[]) (fds : Array FieldInfo := #[]) : ClassFile where
  minorVersion := 0
  majorVersion := 65
  constantPool := pool
  accessFlags := fl
  thisClass := this
  superClass := sup
  interfaces := ifs
  fields := fds
  methods := ms
  attributes := attrs
def plain (name : String) (sup : Option ClassId) : Class where
  name := name
  kind := .ordinary
  loader := none
  accessFlags := 33
  super := sup
  interfaces := #[]
  cf := none
  fields := #[]
  methods := #[]
  instanceTypes := #[]
  staticTypes := #[]
  resolved := #[]
  callSites := []
  init := .initialized
  statics := none
  mirror := none

def pool0 : Array CpInfo := pool [(5, u "<init>"), (0, u "()V"), (1, .class_ 10), (1, u "java/lang/Object")] 113

def k0m0 : Method := { name := "<init>", desc := "()V", sig := { parameters := [], returnType := none }, accessFlags := 1, code := none }
/-- java/lang/Object -/
def k0 : Class := { plain "java/lang/Object" none with
  accessFlags := 33
  interfaces := #[]
  cf := some (fileOf pool0 8 #[] #[{ accessFlags := 1, nameIndex := 5, descriptorIndex := 6, attributes := #[] }] 33 0 #[] #[])
  fields := #[]
  methods := #[k0m0]
  instanceTypes := #[]
  staticTypes := #[]
  resolved := Array.replicate 124 none
  statics := none }

def pool1 : Array CpInfo := pool [(2, .class_ 4), (1, u "java/lang/Object"), (0, u "<init>"), (0, u "()V"), (0, .methodref 8 9), (0, .class_ 10), (0, .nameAndType 11 12), (0, u "com/example/pcr10/pcr10/TemplateFormat"), (0, u "legacyFieldRanges"), (0, u "([B[I)V"), (0, .methodref 14 15), (0, .class_ 16), (0, .nameAndType 17 18), (0, u "com/example/pcr10/pcr10/TemplateFormatLegacyFieldRangesPinLaw"), (0, u "firstZero"), (0, u "([B)I"), (2, u "law"), (0, u "(IIIII)Z")] 7

def k1m0 : Method := { name := "<init>", desc := "()V", sig := { parameters := [], returnType := none }, accessFlags := 1, code := none }
def k1c1 : Code := { maxStack := 4, maxLocals := 8, code := code, exceptionTable := #[], attributes := #[] }
def k1m1 : Method := { name := "law", desc := "(IIIII)Z", sig := { parameters := [.int, .int, .int, .int, .int], returnType := some .boolean }, accessFlags := 9, code := some k1c1 }
def k1c2 : Code := { maxStack := 2, maxLocals := 1, code := method_3_code, exceptionTable := #[], attributes := #[] }
def k1m2 : Method := { name := "firstZero", desc := "([B)I", sig := { parameters := [(.array .byte)], returnType := some .int }, accessFlags := 10, code := some k1c2 }
/-- com/example/pcr10/pcr10/TemplateFormatLegacyFieldRangesPinLaw -/
def k1 : Class := { plain "com/example/pcr10/pcr10/TemplateFormatLegacyFieldRangesPinLaw" (some 0) with
  accessFlags := 49
  interfaces := #[]
  cf := some (fileOf pool1 14 #[] #[{ accessFlags := 1, nameIndex := 5, descriptorIndex := 6, attributes := #[] }, { accessFlags := 9, nameIndex := 21, descriptorIndex := 22, attributes := #[] }, { accessFlags := 10, nameIndex := 17, descriptorIndex := 18, attributes := #[] }] 49 2 #[] #[])
  fields := #[]
  methods := #[k1m0, k1m1, k1m2]
  instanceTypes := #[]
  staticTypes := #[]
  resolved := Array.replicate 30 none
  statics := none }

def pool2 : Array CpInfo := pool [(3, .class_ 4), (0, u "com/example/pcr10/pcr10/TemplateFormat"), (1, .class_ 8), (1, u "java/lang/Object"), (0, u "<init>"), (0, u "()V"), (2, u "BUILT_IN"), (0, u "Ljava/util/Map;"), (18, u "LEGACY_FIELD_IDS"), (0, u "Ljava/util/List;"), (12, u "FIELDS"), (19, .class_ 68), (0, u "com/example/pcr10/pcr10/TemplateFormat$AsciiForm"), (100, u "D"), (0, u "Ljava/lang/String;"), (1, u "N"), (0, u "D_NG"), (0, u "N_NG"), (0, u "D_NGV2"), (0, u "SIG"), (0, u "BUF"), (0, u "D_MODSIG"), (0, u "MODSIG"), (0, u "EVMSIG"), (0, u "XATTRNAMES"), (0, u "XATTRLENGTHS"), (0, u "XATTRVALUES"), (0, u "IUID"), (0, u "IGID"), (0, u "IMODE"), (0, u "XATTR_LENGTH_SIZE"), (0, u "I"), (1, u "LEGACY_TEMPLATE"), (0, u "LEGACY_DIGEST_LENGTH"), (1, u "LEGACY_NAME_LENGTH"), (1, u "LEGACY_DATA_LENGTH"), (16, u "legacyFieldRanges"), (0, u "([B[I)V")] 21

def k2m0 : Method := { name := "<init>", desc := "()V", sig := { parameters := [], returnType := none }, accessFlags := 2, code := none }
def k2c1 : Code := { maxStack := 3, maxLocals := 3, code := prog_35_method_6_code, exceptionTable := #[], attributes := #[] }
def k2m1 : Method := { name := "legacyFieldRanges", desc := "([B[I)V", sig := { parameters := [(.array .byte), (.array .int)], returnType := none }, accessFlags := 8, code := some k2c1 }
/-- com/example/pcr10/pcr10/TemplateFormat -/
def k2 : Class := { plain "com/example/pcr10/pcr10/TemplateFormat" (some 0) with
  accessFlags := 48
  interfaces := #[]
  cf := some (fileOf pool2 3 #[.nestMembers #[67]] #[{ accessFlags := 2, nameIndex := 9, descriptorIndex := 10, attributes := #[] }, { accessFlags := 8, nameIndex := 212, descriptorIndex := 213, attributes := #[] }] 48 6 #[] #[{ accessFlags := 24, nameIndex := 169, descriptorIndex := 170, attributes := #[] }, { accessFlags := 24, nameIndex := 172, descriptorIndex := 170, attributes := #[] }, { accessFlags := 24, nameIndex := 173, descriptorIndex := 170, attributes := #[] }, { accessFlags := 24, nameIndex := 174, descriptorIndex := 170, attributes := #[] }, { accessFlags := 24, nameIndex := 175, descriptorIndex := 170, attributes := #[] }, { accessFlags := 24, nameIndex := 176, descriptorIndex := 170, attributes := #[] }, { accessFlags := 24, nameIndex := 177, descriptorIndex := 170, attributes := #[] }, { accessFlags := 24, nameIndex := 178, descriptorIndex := 170, attributes := #[] }, { accessFlags := 24, nameIndex := 179, descriptorIndex := 170, attributes := #[] }, { accessFlags := 24, nameIndex := 180, descriptorIndex := 170, attributes := #[] }, { accessFlags := 24, nameIndex := 181, descriptorIndex := 170, attributes := #[] }, { accessFlags := 24, nameIndex := 182, descriptorIndex := 170, attributes := #[] }, { accessFlags := 24, nameIndex := 183, descriptorIndex := 170, attributes := #[] }, { accessFlags := 24, nameIndex := 184, descriptorIndex := 170, attributes := #[] }, { accessFlags := 24, nameIndex := 185, descriptorIndex := 170, attributes := #[] }, { accessFlags := 24, nameIndex := 186, descriptorIndex := 170, attributes := #[] }, { accessFlags := 24, nameIndex := 187, descriptorIndex := 188, attributes := #[] }, { accessFlags := 24, nameIndex := 190, descriptorIndex := 170, attributes := #[] }, { accessFlags := 24, nameIndex := 191, descriptorIndex := 188, attributes := #[] }, { accessFlags := 24, nameIndex := 193, descriptorIndex := 188, attributes := #[] }, { accessFlags := 24, nameIndex := 195, descriptorIndex := 188, attributes := #[] }, { accessFlags := 26, nameIndex := 13, descriptorIndex := 14, attributes := #[] }, { accessFlags := 26, nameIndex := 33, descriptorIndex := 34, attributes := #[] }, { accessFlags := 26, nameIndex := 47, descriptorIndex := 14, attributes := #[] }])
  fields := #[{ name := "D", type := (.object "java/lang/String"), accessFlags := 24, slot := 0, constantValue := 0 }, { name := "N", type := (.object "java/lang/String"), accessFlags := 24, slot := 1, constantValue := 0 }, { name := "D_NG", type := (.object "java/lang/String"), accessFlags := 24, slot := 2, constantValue := 0 }, { name := "N_NG", type := (.object "java/lang/String"), accessFlags := 24, slot := 3, constantValue := 0 }, { name := "D_NGV2", type := (.object "java/lang/String"), accessFlags := 24, slot := 4, constantValue := 0 }, { name := "SIG", type := (.object "java/lang/String"), accessFlags := 24, slot := 5, constantValue := 0 }, { name := "BUF", type := (.object "java/lang/String"), accessFlags := 24, slot := 6, constantValue := 0 }, { name := "D_MODSIG", type := (.object "java/lang/String"), accessFlags := 24, slot := 7, constantValue := 0 }, { name := "MODSIG", type := (.object "java/lang/String"), accessFlags := 24, slot := 8, constantValue := 0 }, { name := "EVMSIG", type := (.object "java/lang/String"), accessFlags := 24, slot := 9, constantValue := 0 }, { name := "XATTRNAMES", type := (.object "java/lang/String"), accessFlags := 24, slot := 10, constantValue := 0 }, { name := "XATTRLENGTHS", type := (.object "java/lang/String"), accessFlags := 24, slot := 11, constantValue := 0 }, { name := "XATTRVALUES", type := (.object "java/lang/String"), accessFlags := 24, slot := 12, constantValue := 0 }, { name := "IUID", type := (.object "java/lang/String"), accessFlags := 24, slot := 13, constantValue := 0 }, { name := "IGID", type := (.object "java/lang/String"), accessFlags := 24, slot := 14, constantValue := 0 }, { name := "IMODE", type := (.object "java/lang/String"), accessFlags := 24, slot := 15, constantValue := 0 }, { name := "XATTR_LENGTH_SIZE", type := .int, accessFlags := 24, slot := 16, constantValue := 0 }, { name := "LEGACY_TEMPLATE", type := (.object "java/lang/String"), accessFlags := 24, slot := 17, constantValue := 0 }, { name := "LEGACY_DIGEST_LENGTH", type := .int, accessFlags := 24, slot := 18, constantValue := 0 }, { name := "LEGACY_NAME_LENGTH", type := .int, accessFlags := 24, slot := 19, constantValue := 0 }, { name := "LEGACY_DATA_LENGTH", type := .int, accessFlags := 24, slot := 20, constantValue := 0 }, { name := "BUILT_IN", type := (.object "java/util/Map"), accessFlags := 26, slot := 21, constantValue := 0 }, { name := "LEGACY_FIELD_IDS", type := (.object "java/util/List"), accessFlags := 26, slot := 22, constantValue := 0 }, { name := "FIELDS", type := (.object "java/util/Map"), accessFlags := 26, slot := 23, constantValue := 0 }]
  methods := #[k2m0, k2m1]
  instanceTypes := #[]
  staticTypes := #[(.object "java/lang/String"), (.object "java/lang/String"), (.object "java/lang/String"), (.object "java/lang/String"), (.object "java/lang/String"), (.object "java/lang/String"), (.object "java/lang/String"), (.object "java/lang/String"), (.object "java/lang/String"), (.object "java/lang/String"), (.object "java/lang/String"), (.object "java/lang/String"), (.object "java/lang/String"), (.object "java/lang/String"), (.object "java/lang/String"), (.object "java/lang/String"), .int, (.object "java/lang/String"), .int, .int, .int, (.object "java/util/Map"), (.object "java/util/List"), (.object "java/util/Map")]
  resolved := Array.replicate 235 none
  statics := none }

def pool3 : Array CpInfo := pool [(1, u "java/lang/Cloneable"), (0, .class_ 1), (0, u "java/lang/Object"), (0, .class_ 3)] 3

/-- java/lang/Cloneable -/
def k3 : Class := { plain "java/lang/Cloneable" (some 0) with
  accessFlags := 1537
  interfaces := #[]
  cf := some (fileOf pool3 2 #[] #[] 1537 4 #[] #[])
  fields := #[]
  methods := #[]
  instanceTypes := #[]
  staticTypes := #[]
  resolved := Array.replicate 8 none
  statics := none }

def pool4 : Array CpInfo := pool [(1, u "java/io/Serializable"), (0, .class_ 1), (0, u "java/lang/Object"), (0, .class_ 3)] 3

/-- java/io/Serializable -/
def k4 : Class := { plain "java/io/Serializable" (some 0) with
  accessFlags := 1537
  interfaces := #[]
  cf := some (fileOf pool4 2 #[] #[] 1537 4 #[] #[])
  fields := #[]
  methods := #[]
  instanceTypes := #[]
  staticTypes := #[]
  resolved := Array.replicate 8 none
  statics := none }

/-- the primitive byte -/
def k5 : Class := { plain "byte" none with kind := .primitive 'B', accessFlags := 0x411 }
/-- [B -/
def k6 : Class := { plain "[B" (some 0) with kind := .array 5 .byte, interfaces := #[3, 4], accessFlags := 1041 }

/-- the primitive int -/
def k7 : Class := { plain "int" none with kind := .primitive 'I', accessFlags := 0x411 }
/-- [I -/
def k8 : Class := { plain "[I" (some 0) with kind := .array 7 .int, interfaces := #[3, 4], accessFlags := 1041 }

def heap : Heap := #[]
def classes : Array Class := #[k0, k1, k2, k3, k4, k5, k6, k7, k8]
def interned : List (Array UInt16 × Addr) := []
def slotsUsed : Nat := 0
def theMethod : MethodId := ⟨1, 1⟩
def args0 : Array Value := #[.int 5, .int 5, .int 5, .int 5, .int 5]
def aboutOver (below : List Frame) : State where
  vm := { classes := classes, interned := interned.toArray }
  heap := heap
  slotsUsed := slotsUsed
  threads := #[{ frames := .invoking theMethod args0 :: below }]
def below0 : List Frame := [.native { method := ⟨0, 0⟩, args := #[] }]
def about1 : State := aboutOver below0
def p0 : Program := .bare "" "" ""
def e0 : Env := launch0.env 0 0 0
theorem w_frames : about1.frames = Frame.invoking theMethod args0 :: below0 := rfl
set_option maxRecDepth 65536 in
theorem w_args : argsFit about1.vm theMethod args0 = true := by decide +kernel
set_option maxRecDepth 65536 in
theorem w_heap : heapFits about1 = true := by decide +kernel
set_option maxRecDepth 65536 in
theorem w_runnable : about1.curStatus? = some .runnable := by decide +kernel
set_option maxRecDepth 65536 in
theorem w_alone : about1.alone = true := by decide +kernel
set_option maxRecDepth 65536 in
theorem w_named : about1.methodNamed? x = some theMethod := by decide +kernel
set_option maxRecDepth 65536 in
theorem w_hears : about1.hears theMethod below0 = true := by decide +kernel
set_option maxRecDepth 65536 in
theorem w_ripe : about1.ripe theMethod args0 below0 = true := by decide +kernel
theorem w_running : about1.status = .running := rfl
set_option maxRecDepth 65536 in
theorem w_room : about1.hasRoom e0.platform room_1 = true :=
  launch0.hasRoom_least _ room_1 (by decide +kernel) (by decide +kernel) (by decide +kernel) (by decide +kernel) (by decide +kernel) (by decide +kernel)
theorem allAtoms_all (ts : List Jvm.Cond) (a : Array Jvm.Value) (st : Jvm.State) : (allAtoms ts).before a st = ts.all (fun c => c.before a st) := by
  induction ts with
  | nil => rfl
  | cons c t ih =>
    show (Jvm.Cond.and c (allAtoms t)).before a st = _
    rw [Jvm.Cond.before_and, ih, List.all_cons]
def words1 : List Jvm.Cond := Jvm.Cond.code x code maxLocals ret :: tables_1
/-- a 'code' word, met by the world's own term for the bytes: nothing is compared byte by byte -/
theorem code_word {y : MethodName} {bytes : ByteArray} {mx : Nat} {rt : Option FieldType} {a : Array Value} {s : State} {m : MethodId} {meth : Method} {c : Code} (h1 : s.methodNamed? y = some m) (h2 : s.vm.method? m = some meth) (h3 : meth.code = some c) (h4 : c.code = bytes)
    (h5 : (c.maxLocals == mx && c.exceptionTable.isEmpty && decide (c.maxStack ≤ mostOperands) && decide (meth.sig.returnType = rt) && !meth.locks && decide (parseMethodDescriptor y.desc = some meth.sig)) = true) : (Jvm.Cond.code y bytes mx rt).before a s = true := by
  simp only [Bool.and_eq_true, beq_iff_eq, Bool.not_eq_true', decide_eq_true_eq] at h5
  obtain ⟨⟨⟨⟨⟨g1, g2⟩, g3⟩, g4⟩, g5⟩, g6⟩ := h5
  simp [Cond.before, Cond.holds, Cond.value, h1, h2, h3, h4, g1, g2, g3, g4, g5, g6]
def isCode : Jvm.Cond → Bool
  | .code _ _ _ _ => true
  | _ => false
theorem all_split {L : List Jvm.Cond} {P : Jvm.Cond → Bool} (h1 : L.all (fun c => isCode c || P c) = true) (h2 : ∀ c ∈ L.filter isCode, P c = true) : L.all P = true := by
  refine List.all_eq_true.mpr fun c hc => ?_
  have h := List.all_eq_true.mp h1 c hc
  rcases Bool.eq_false_or_eq_true (isCode c) with hi | hi
  · exact h2 c (List.mem_filter.mpr ⟨hc, hi⟩)
  · simpa [hi] using h
set_option maxRecDepth 65536 in
theorem w_c0 : (Jvm.Cond.code x code maxLocals ret).before args0 about1 = true := code_word (m := ⟨1, 1⟩) (meth := k1m1) (c := k1c1) (by decide +kernel) rfl rfl rfl (by decide +kernel)
set_option maxRecDepth 65536 in
theorem w_c1 : (Jvm.Cond.code ({ cls := "com/example/pcr10/pcr10/TemplateFormat", name := "legacyFieldRanges", desc := "([B[I)V" } : Jvm.MethodName) prog_35_method_6_code (3 : Nat) (Option.none : Option Jvm.ClassFile.FieldType)).before args0 about1 = true := code_word (m := ⟨2, 1⟩) (meth := k2m1) (c := k2c1) (by decide +kernel) rfl rfl rfl (by decide +kernel)
set_option maxRecDepth 65536 in
theorem w_c2 : (Jvm.Cond.code ({ cls := "com/example/pcr10/pcr10/TemplateFormatLegacyFieldRangesPinLaw", name := "firstZero", desc := "([B)I" } : Jvm.MethodName) method_3_code (1 : Nat) (Option.some Jvm.ClassFile.FieldType.int)).before args0 about1 = true := code_word (m := ⟨1, 2⟩) (meth := k1m2) (c := k1c2) (by decide +kernel) rfl rfl rfl (by decide +kernel)
def codes1 : List Jvm.Cond := [Jvm.Cond.code x code maxLocals ret, Jvm.Cond.code ({ cls := "com/example/pcr10/pcr10/TemplateFormat", name := "legacyFieldRanges", desc := "([B[I)V" } : Jvm.MethodName) prog_35_method_6_code (3 : Nat) (Option.none : Option Jvm.ClassFile.FieldType), Jvm.Cond.code ({ cls := "com/example/pcr10/pcr10/TemplateFormatLegacyFieldRangesPinLaw", name := "firstZero", desc := "([B)I" } : Jvm.MethodName) method_3_code (1 : Nat) (Option.some Jvm.ClassFile.FieldType.int)]
set_option maxRecDepth 65536 in
theorem codes_eq : words1.filter isCode = codes1 := rfl
theorem w_codes : ∀ c ∈ words1.filter isCode, c.before args0 about1 = true := by
  rw [codes_eq]
  intro c hc
  simp only [codes1, List.mem_cons, List.not_mem_nil, or_false] at hc
  rcases hc with rfl | rfl | rfl
  · exact w_c0
  · exact w_c1
  · exact w_c2
set_option maxRecDepth 65536 in
theorem w_t1 : words1.all (fun c => isCode c || c.before args0 about1) = true := by decide +kernel
theorem w_tables : (allAtoms (Jvm.Cond.code x code maxLocals ret :: tables_1)).before args0 about1 = true := by
  rw [allAtoms_all]
  show words1.all (fun c => c.before args0 about1) = true
  refine all_split ?_ w_codes
  rw [w_t1]
set_option maxRecDepth 65536 in
theorem w_case : (Jvm.Cond.and given_1 narrow_1).before args0 about1 = true := by decide +kernel
theorem w_applies : (headSpec (Jvm.Cond.code x code maxLocals ret :: tables_1) room_1).applies x e0.platform about1 = true :=
  (Spec.applies_iff w_frames).mpr ⟨w_running, w_runnable, w_alone, w_named, w_hears, w_ripe, w_room, w_tables⟩
theorem atStart : AtStart classFile x code maxLocals ret World_1 tables_1 room_1 Calls_1 rest_1 Pre_1 launch0 p0 e0 about1 theMethod args0 below0 :=
  ⟨lists_1, trivial, launch0.admits_env _ _ _, launch0.least_env, fairChoices_fair.cas, fairChoices_fair.clock, w_frames, w_args, w_heap, w_applies, trivial, trivial, w_case⟩
end start1
theorem witness_1 : WitnessClaimed_1 := ⟨start1.p0, start1.e0, start1.about1, start1.theMethod, start1.args0, start1.below0, start1.atStart⟩
end Jvm.Pilot.@@N@@
