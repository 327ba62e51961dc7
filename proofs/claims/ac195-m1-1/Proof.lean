import JvmDerived
import JvmDerived.Pilot.@@N@@Statement
import JvmDerived.Pilot.@@N@@Code
set_option linter.unusedVariables false
set_option linter.unusedSimpArgs false
namespace Jvm.Pilot.@@N@@
open Jvm Jvm.ClassFile Sem Op Lib Jvm.Free Jvm.Stand Jvm.LawKit Jvm.RoadKit Bundle Jvm.Pilot.@@N@@.Jvm.D
/-! Own kit. own_Fin: from this frame the run comes to the method's end, and Q holds of what it leaves. -/
def own_Fin (p : Program) (e : Env) (below : List Frame) (s : State) (Q : Option Value → Heap → List Loc → Prop) (cl sl : Nat) (T : State) (f : JFrame) : Prop :=
  ∃ s₂ o, Steps p.tables e below (T.setTop f) s₂ ∧ s₂.status = .running ∧ Ended s₂ below o ∧ (∃ v L, o = .returned v ∧ Q v s₂.heap L ∧ FrameEnd s o s₂ L cl sl)
section OwnKit
variable {p : Program} {l : Launch} {e : Env} {R : Room} {s : State} {m : MethodId} {args : Array Value} {below : List Frame} {meth : Method} {c : Code} {T : State} {locs : List Loc} {cells slots : Nat} {Q : Option Value → Heap → List Loc → Prop} {cl sl : Nat} {Z : State} {a0 : Array Value} {h h' : Heap} {a b : Addr}
theorem own_step {T' : State} {f f' : JFrame} (k : ∀ t, Steps p.tables e below (T'.setTop f') t → Steps p.tables e below (T.setTop f) t) (r : own_Fin p e below s Q cl sl T' f') : own_Fin p e below s Q cl sl T f := by
  obtain ⟨s₂, o, h1, h2⟩ := r
  exact ⟨s₂, o, k _ h1, h2⟩
theorem own_stepT {T' : State} {f f' : JFrame} (k : Steps p.tables e below (T.setTop f) (T'.setTop f')) (r : own_Fin p e below s Q cl sl T' f') : own_Fin p e below s Q cl sl T f := by
  obtain ⟨s₂, o, h1, h2⟩ := r
  exact ⟨s₂, o, k.trans h1, h2⟩
theorem own_retZ (X : Stand p l e R s m args below meth c T locs cells slots) (hx : p.tables.exec = Jvm.exec) (hlocks : meth.locks = false) (hret : meth.sig.returnType = some .boolean) {pc : Nat} {Ls : Array Slot} {z z' : Int32} {rest : List Value} (hd : decode c.code pc = .ok (.ireturn, 1))
    (hn : nar .boolean z = z') (hc : cells ≤ cl) (hs : slots ≤ sl) (hT : T.heap = h) (hq : Q (some (.int z')) h locs) : own_Fin p e below s Q cl sl T (mkF m pc Ls (.int z :: rest)) := by
  subst hn hT
  obtain ⟨fs, hr, hrun, hended, hW, hsame⟩ := X.leave (v := some (.int (nar .boolean z))) (fun h => by rw [hret] at h; cases h)
  exact ⟨_, _, retN X hx hret (by simp) hd hr, hrun, hended, _, _, rfl, hq, ⟨_, rfl⟩, hW, hsame.mono hc hs⟩
theorem own_retI (X : Stand p l e R s m args below meth c T locs cells slots) (hx : p.tables.exec = Jvm.exec) (hlocks : meth.locks = false) (hret : meth.sig.returnType = some .int) {pc : Nat} {Ls : Array Slot} {z : Int32} {rest : List Value} (hd : decode c.code pc = .ok (.ireturn, 1))
    (hc : cells ≤ cl) (hs : slots ≤ sl) (hT : T.heap = h) (hq : Q (some (.int z)) h locs) : own_Fin p e below s Q cl sl T (mkF m pc Ls (.int z :: rest)) := by
  subst hT
  obtain ⟨fs, hr, hrun, hended, hW, hsame⟩ := X.leave (v := some (.int z)) (fun h => by rw [hret] at h; cases h)
  refine ⟨_, _, ?_, hrun, hended, _, _, rfl, hq, ⟨_, rfl⟩, hW, hsame.mono hc hs⟩
  have hm' : T.vm.method? m = some meth := X.method'
  have hn : narrow .int (.int z) = .int z := rfl
  show Steps p.tables e below (T.setTop { method := m, pc := pc, locals := Ls, stack := _ :: rest, locked := none }) _
  jvm_step X.here [X.here.top, hx, hd, hm', hret, hn]
  first | (intro acts; rw [hr _ acts rfl rfl rfl]) | rw [hr _ _ rfl rfl rfl]
  exact Steps.refl _
theorem own_retJ (X : Stand p l e R s m args below meth c T locs cells slots) (hx : p.tables.exec = Jvm.exec) (hlocks : meth.locks = false) (hret : meth.sig.returnType = some .long) {pc : Nat} {Ls : Array Slot} {z : Int64} (hd : decode c.code pc = .ok (.lreturn, 1))
    (hc : cells ≤ cl) (hs : slots ≤ sl) (hT : T.heap = h) (hq : Q (some (.long z)) h locs) : own_Fin p e below s Q cl sl T (mkF m pc Ls [.long z]) := by
  subst hT
  obtain ⟨fs, hr, hrun, hended, hW, hsame⟩ := X.leave (v := some (.long z)) (fun h => by rw [hret] at h; cases h)
  exact ⟨_, _, X.lreturnOut hx hret hd hr, hrun, hended, _, _, rfl, hq, ⟨_, rfl⟩, hW, hsame.mono hc hs⟩
theorem own_retV (X : Stand p l e R s m args below meth c T locs cells slots) (hx : p.tables.exec = Jvm.exec) (hlocks : meth.locks = false) (hret : meth.sig.returnType = none) {pc : Nat} {Ls : Array Slot} (hd : decode c.code pc = .ok (.return_, 1))
    (hc : cells ≤ cl) (hs : slots ≤ sl) (hT : T.heap = h) (hq : Q none h locs) : own_Fin p e below s Q cl sl T (mkF m pc Ls []) := by
  subst hT
  obtain ⟨fs, hr, hrun, hended, hW, hsame⟩ := X.leave (v := none) (fun _ => rfl)
  exact ⟨_, _, X.returnOut hx hret hd hr, hrun, hended, _, _, rfl, hq, ⟨_, rfl⟩, hW, hsame.mono hc hs⟩
theorem own_retR (X : Stand p l e R s m args below meth c T locs cells slots) (hx : p.tables.exec = Jvm.exec) (hlocks : meth.locks = false) {t : FieldType} (hret : meth.sig.returnType = some t) (ht : t.isReference = true) {pc : Nat} {Ls : Array Slot} {z : Value} (hz : z.isRef = true) (hd : decode c.code pc = .ok (.areturn, 1))
    (hc : cells ≤ cl) (hs : slots ≤ sl) (hT : T.heap = h) (hq : Q (some z) h locs) : own_Fin p e below s Q cl sl T (mkF m pc Ls [z]) := by
  subst hT
  obtain ⟨fs, hr, hrun, hended, hW, hsame⟩ := X.leave (v := some z) (fun h => by rw [hret] at h; cases h)
  refine ⟨_, _, ?_, hrun, hended, _, _, rfl, hq, ⟨_, rfl⟩, hW, hsame.mono hc hs⟩
  have hm' : T.vm.method? m = some meth := X.method'
  jvm_step X.here [X.here.top, hx, hd, hm', hret, ht, hz]
  first | (intro acts; rw [hr _ acts rfl rfl rfl]) | rw [hr _ _ rfl rfl rfl]
  exact Steps.refl _
/-! comparisons, said over Int -/
theorem own_cl {x y : Int32} {a b : Int} (ha : x.toInt = a) (hb : y.toInt = b) (h : a < b) : if_icmp.holds .lt x y = true ∧ if_icmp.holds .ge x y = false ∧ if_icmp.holds .gt y x = true ∧ if_icmp.holds .le y x = false := tlt (by rw [Int32.lt_iff_toInt_lt, ha, hb]; exact h)
theorem own_cn {x y : Int32} {a b : Int} (ha : x.toInt = a) (hb : y.toInt = b) (h : ¬ a < b) : if_icmp.holds .lt x y = false ∧ if_icmp.holds .ge x y = true ∧ if_icmp.holds .gt y x = false ∧ if_icmp.holds .le y x = true := flt (by rw [Int32.lt_iff_toInt_lt, ha, hb]; exact h)
theorem own_ce {x y : Int32} {a b : Int} (ha : x.toInt = a) (hb : y.toInt = b) (h : a = b) : if_icmp.holds .eq x y = true ∧ if_icmp.holds .ne x y = false := teq (by rw [← Int32.toInt_inj, ha, hb]; exact h)
theorem own_cu {x y : Int32} {a b : Int} (ha : x.toInt = a) (hb : y.toInt = b) (h : ¬ a = b) : if_icmp.holds .eq x y = false ∧ if_icmp.holds .ne x y = true := feq (by rw [← Int32.toInt_inj, ha, hb]; exact h)
theorem own_ll {x y : Int64} {a b : Int} (ha : x.toInt = a) (hb : y.toInt = b) (h : a < b) : ifCond.holds .lt (lcmpW x y) = true ∧ ifCond.holds .ge (lcmpW x y) = false ∧ ifCond.holds .gt (lcmpW y x) = true ∧ ifCond.holds .le (lcmpW y x) = false := by
  have q : x < y := by rw [Int64.lt_iff_toInt_lt, ha, hb]; exact h
  have h1 := tlt ((lw_lt x y).mpr q)
  have h2 := tlt ((lw_gt y x).mpr q)
  exact ⟨(if0 _ _).trans h1.1, (if0 _ _).trans h1.2.1, (if0 _ _).trans h2.2.2.1, (if0 _ _).trans h2.2.2.2⟩
theorem own_ln {x y : Int64} {a b : Int} (ha : x.toInt = a) (hb : y.toInt = b) (h : ¬ a < b) : ifCond.holds .lt (lcmpW x y) = false ∧ ifCond.holds .ge (lcmpW x y) = true ∧ ifCond.holds .gt (lcmpW y x) = false ∧ ifCond.holds .le (lcmpW y x) = true := by
  have q : ¬ x < y := by rw [Int64.lt_iff_toInt_lt, ha, hb]; exact h
  have h1 := flt (fun r => q ((lw_lt x y).mp r))
  have h2 := flt (fun r => q ((lw_gt y x).mp r))
  exact ⟨(if0 _ _).trans h1.1, (if0 _ _).trans h1.2.1, (if0 _ _).trans h2.2.2.1, (if0 _ _).trans h2.2.2.2⟩
theorem own_le {x y : Int64} {a b : Int} (ha : x.toInt = a) (hb : y.toInt = b) (h : a = b) : ifCond.holds .eq (lcmpW x y) = true ∧ ifCond.holds .ne (lcmpW x y) = false := by
  have q : x = y := by rw [← Int64.toInt_inj, ha, hb]; exact h
  have h1 := teq ((lw_eq x y).mpr q)
  exact ⟨(if0 _ _).trans h1.1, (if0 _ _).trans h1.2⟩
theorem own_lu {x y : Int64} {a b : Int} (ha : x.toInt = a) (hb : y.toInt = b) (h : ¬ a = b) : ifCond.holds .eq (lcmpW x y) = false ∧ ifCond.holds .ne (lcmpW x y) = true := by
  have q : ¬ x = y := by rw [← Int64.toInt_inj, ha, hb]; exact h
  have h1 := feq (fun r => q ((lw_eq x y).mp r))
  exact ⟨(if0 _ _).trans h1.1, (if0 _ _).trans h1.2⟩
/-! a boolean as an int -/
abbrev own_B (r : Int32) (P : Prop) : Prop := (r.toInt = 1 ∧ P) ∨ (r.toInt = 0 ∧ ¬ P)
theorem own_B1 {P : Prop} (h : P) : own_B 1 P := Or.inl ⟨rfl, h⟩
theorem own_B0 {P : Prop} (h : ¬ P) : own_B 0 P := Or.inr ⟨rfl, h⟩
theorem own_B.lit {r : Int32} {P : Prop} (H : own_B r P) : (r = 1 ∧ P) ∨ (r = 0 ∧ ¬ P) := by
  rcases H with ⟨q, h⟩ | ⟨q, h⟩
  · exact Or.inl ⟨Int32.toInt_inj.mp q, h⟩
  · exact Or.inr ⟨Int32.toInt_inj.mp q, h⟩
/-! arrays: their length and what each place holds -/
def own_A (Z : State) (h : Heap) (a : Addr) (ty : FieldType) (n : Nat) (f : Nat → Value) : Prop := ∃ c : Cell, Arr Z h a c ty ∧ c.slots.size = n ∧ ∀ i, i < n → c.slots[i]? = some (f i)
def own_AI (Z : State) (h : Heap) (a : Addr) (ty : FieldType) (n : Nat) (f : Nat → Int32) : Prop := own_A Z h a ty n (fun i => .int (f i))
def own_AJ (Z : State) (h : Heap) (a : Addr) (n : Nat) (f : Nat → Int64) : Prop := own_A Z h a .long n (fun i => .long (f i))
variable {ty : FieldType} {n : Nat} {fv : Nat → Value} {fi : Nat → Int32} {fj : Nat → Int64}
theorem own_A.lt (F : own_A Z h a ty n fv) : a < h.size := by obtain ⟨c, A, -⟩ := F; exact A.lt
theorem own_A.ext (F : own_A Z h a ty n fv) (E : Ext h h') : own_A Z h' a ty n fv := by obtain ⟨c, A, r⟩ := F; exact ⟨c, A.ext E, r⟩
theorem own_A.other {sl : Nat} {v : Value} (F : own_A Z h a ty n fv) (W : Wr h h' b sl v) (q : a ≠ b) : own_A Z h' a ty n fv := by obtain ⟨c, A, r⟩ := F; exact ⟨c, A.other W q, r⟩
theorem own_A.keep {ws : List Addr} (F : own_A Z h a ty n fv) (K : Keep h h' ws) (q : a ∉ ws) : own_A Z h' a ty n fv := by obtain ⟨c, A, r⟩ := F; exact ⟨c, ⟨K.2.1 a c A.1 q, A.2⟩, r⟩
theorem own_A.congr {gv : Nat → Value} (F : own_A Z h a ty n fv) (q : ∀ i, i < n → fv i = gv i) : own_A Z h a ty n gv := by obtain ⟨c, A, r, t⟩ := F; exact ⟨c, A, r, fun i hi => by rw [t i hi, q i hi]⟩
theorem own_A.set {j : Nat} {v : Value} (F : own_A Z h a ty n fv) (W : Wr h h' a j v) : own_A Z h' a ty n (fun i => if i = j then v else fv i) := by
  obtain ⟨c, A, r, t⟩ := F
  have W0 := W
  obtain ⟨c2, h1, -, h3, -⟩ := W0
  have ec : c2 = c := Option.some.inj (h1.symm.trans A.1)
  subst ec
  refine ⟨_, A.same W, by rw [sz_set]; exact r, fun i hi => ?_⟩
  by_cases q : i = j
  · subst q; simp [Cell.setSlot, h3]
  · simp only [q, if_false]; rw [← t i hi]; simp only [Cell.setSlot]; exact Array.getElem?_setIfInBounds_ne fun z => q z.symm
theorem own_A.new {k : ClassId} {z : Int32} (A : Arr Z h a (newA k ty z) ty) (q : z.toNatClampNeg = n) : own_A Z h a ty n (fun _ => defaultValue ty) := by
  subst q
  exact ⟨_, A, sz_new _ _ _, fun i hi => by simp [newA, hi]⟩
theorem own_AI.lt (F : own_AI Z h a ty n fi) : a < h.size := own_A.lt F
theorem own_AI.ext (F : own_AI Z h a ty n fi) (E : Ext h h') : own_AI Z h' a ty n fi := own_A.ext F E
theorem own_AI.other {sl : Nat} {v : Value} (F : own_AI Z h a ty n fi) (W : Wr h h' b sl v) (q : a ≠ b) : own_AI Z h' a ty n fi := own_A.other F W q
theorem own_AI.keep {ws : List Addr} (F : own_AI Z h a ty n fi) (K : Keep h h' ws) (q : a ∉ ws) : own_AI Z h' a ty n fi := own_A.keep F K q
theorem own_AI.congr {gi : Nat → Int32} (F : own_AI Z h a ty n fi) (q : ∀ i, i < n → fi i = gi i) : own_AI Z h a ty n gi := own_A.congr F fun i hi => by rw [q i hi]
theorem own_AI.set {j : Nat} {x : Int32} (F : own_AI Z h a ty n fi) (W : Wr h h' a j (.int x)) : own_AI Z h' a ty n (fun i => if i = j then x else fi i) := (own_A.set F W).congr fun i _ => by by_cases q : i = j <;> simp [q]
theorem own_AI.newI {k : ClassId} {z : Int32} (A : Arr Z h a (newA k .int z) .int) (q : z.toNatClampNeg = n) : own_AI Z h a .int n (fun _ => 0) := own_A.new A q
theorem own_AI.newB {k : ClassId} {z : Int32} (A : Arr Z h a (newA k .byte z) .byte) (q : z.toNatClampNeg = n) : own_AI Z h a .byte n (fun _ => 0) := own_A.new A q
theorem own_AJ.lt (F : own_AJ Z h a n fj) : a < h.size := own_A.lt F
theorem own_AJ.ext (F : own_AJ Z h a n fj) (E : Ext h h') : own_AJ Z h' a n fj := own_A.ext F E
theorem own_AJ.other {sl : Nat} {v : Value} (F : own_AJ Z h a n fj) (W : Wr h h' b sl v) (q : a ≠ b) : own_AJ Z h' a n fj := own_A.other F W q
theorem own_AJ.keep {ws : List Addr} (F : own_AJ Z h a n fj) (K : Keep h h' ws) (q : a ∉ ws) : own_AJ Z h' a n fj := own_A.keep F K q
theorem own_AJ.congr {gj : Nat → Int64} (F : own_AJ Z h a n fj) (q : ∀ i, i < n → fj i = gj i) : own_AJ Z h a n gj := own_A.congr F fun i hi => by rw [q i hi]
theorem own_AJ.set {j : Nat} {x : Int64} (F : own_AJ Z h a n fj) (W : Wr h h' a j (.long x)) : own_AJ Z h' a n (fun i => if i = j then x else fj i) := (own_A.set F W).congr fun i _ => by by_cases q : i = j <;> simp [q]
theorem own_AJ.new {k : ClassId} {z : Int32} (A : Arr Z h a (newA k .long z) .long) (q : z.toNatClampNeg = n) : own_AJ Z h a n (fun _ => 0) := own_A.new A q
theorem own_in {j : Int32} {k n : Nat} (hj : j.toInt = (k : Int)) (hk : k < n) : j.toNatClampNeg = k ∧ ¬ (j < 0 ∨ n ≤ j.toNatClampNeg) := by
  have q : j.toNatClampNeg = k := by simp only [Int32.toNatClampNeg, hj]; omega
  refine ⟨q, fun z => ?_⟩
  rcases z with z | z
  · rw [Int32.lt_iff_toInt_lt, hj] at z
    have : (0 : Int32).toInt = 0 := rfl
    omega
  · omega
theorem own_iaload (X : Stand p l e R s m args below meth c T locs cells slots) (hx : p.tables.exec = Jvm.exec) (hZ : Z.Warmed39 s.vm) (eT : T.heap = h) (F : own_AI Z h a .int n fi) {j : Int32} {k : Nat} (hj : j.toInt = (k : Int)) (hk : k < n) {v : Int32} (hv : fi k = v) {pc pc' : Nat} {Ls : Array Slot} {rest : List Value}
    (hd : decode c.code pc = .ok (.iaload, 1)) (hp : pc + 1 = pc') (r : own_Fin p e below s Q cl sl T (mkF m pc' Ls (.int v :: rest))) : own_Fin p e below s Q cl sl T (mkF m pc Ls (.int j :: .ref a :: rest)) := by
  obtain ⟨cc, A, h1, h2⟩ := F
  obtain ⟨q1, q2⟩ := own_in hj hk
  subst hp hv
  exact own_step (fun t k' => X.iaload hx (j := j) (v := .int (fi k)) (by rw [eT]; exact A.1) (State.isArrayOf_alike hZ.alike A.2.1) A.2.2 (by rw [h1]; exact q2) (by rw [q1]; exact h2 k hk) (g := mkF m pc Ls (.int j :: .ref a :: rest)) rfl rfl hd _ k') r
theorem own_baload (X : Stand p l e R s m args below meth c T locs cells slots) (hx : p.tables.exec = Jvm.exec) (hZ : Z.Warmed39 s.vm) (eT : T.heap = h) (F : own_AI Z h a .byte n fi) {j : Int32} {k : Nat} (hj : j.toInt = (k : Int)) (hk : k < n) {v : Int32} (hv : fi k = v) {pc pc' : Nat} {Ls : Array Slot} {rest : List Value}
    (hd : decode c.code pc = .ok (.baload, 1)) (hp : pc + 1 = pc') (r : own_Fin p e below s Q cl sl T (mkF m pc' Ls (.int v :: rest))) : own_Fin p e below s Q cl sl T (mkF m pc Ls (.int j :: .ref a :: rest)) := by
  obtain ⟨cc, A, h1, h2⟩ := F
  obtain ⟨q1, q2⟩ := own_in hj hk
  subst hp hv
  exact own_step (fun t k' => X.baloadBytes hx (j := j) (v := .int (fi k)) (by rw [eT]; exact A.1) (State.isArrayOf_alike hZ.alike A.2.1) A.2.2 (by rw [h1]; exact q2) (by rw [q1]; exact h2 k hk) (g := mkF m pc Ls (.int j :: .ref a :: rest)) rfl rfl hd _ k') r
theorem own_laload (X : Stand p l e R s m args below meth c T locs cells slots) (hx : p.tables.exec = Jvm.exec) (hZ : Z.Warmed39 s.vm) (eT : T.heap = h) (F : own_AJ Z h a n fj) {j : Int32} {k : Nat} (hj : j.toInt = (k : Int)) (hk : k < n) {v : Int64} (hv : fj k = v) {pc pc' : Nat} {Ls : Array Slot} {rest : List Value}
    (hd : decode c.code pc = .ok (.laload, 1)) (hp : pc + 1 = pc') (r : own_Fin p e below s Q cl sl T (mkF m pc' Ls (.long v :: rest))) : own_Fin p e below s Q cl sl T (mkF m pc Ls (.int j :: .ref a :: rest)) := by
  obtain ⟨cc, A, h1, h2⟩ := F
  obtain ⟨q1, q2⟩ := own_in hj hk
  subst hp hv
  exact own_step (fun t k' => X.laload hx (j := j) (v := .long (fj k)) (by rw [eT]; exact A.1) (State.isArrayOf_alike hZ.alike A.2.1) A.2.2 (by rw [h1]; exact q2) (by rw [q1]; exact h2 k hk) (g := mkF m pc Ls (.int j :: .ref a :: rest)) rfl rfl hd _ k') r
theorem own_arrlen (X : Stand p l e R s m args below meth c T locs cells slots) (hx : p.tables.exec = Jvm.exec) (hZ : Z.Warmed39 s.vm) (eT : T.heap = h) (F : own_A Z h a ty n fv) {z : Int32} (hz : n.toInt32 = z) {pc pc' : Nat} {Ls : Array Slot} {rest : List Value}
    (hd : decode c.code pc = .ok (.arraylength, 1)) (hp : pc + 1 = pc') (r : own_Fin p e below s Q cl sl T (mkF m pc' Ls (.int z :: rest))) : own_Fin p e below s Q cl sl T (mkF m pc Ls (.ref a :: rest)) := by
  obtain ⟨cc, A, h1, h2⟩ := F
  subst hp hz
  exact own_step (fun t k' => X.arraylength hx (by rw [eT]; exact A.1) (State.isArrayOf_alike hZ.alike A.2.1) (g := mkF m pc Ls (.ref a :: rest)) rfl rfl hd _ (by rw [h1]; exact k')) r
theorem own_iastore (X : Stand p l e R s m args below meth c T locs cells slots) (hx : p.tables.exec = Jvm.exec) (hZ : Z.Warmed39 s.vm) (eT : T.heap = h) (F : own_AI Z h a .int n fi) {j : Int32} {k : Nat} (hj : j.toInt = (k : Int)) (hk : k < n) {x : Int32} {pc pc' : Nat} {Ls : Array Slot} {rest : List Value}
    (hd : decode c.code pc = .ok (.iastore, 1)) (hp : pc + 1 = pc') :
    ∃ T' h', Stand p l e R s m args below meth c T' (locs ++ [⟨a, k⟩]) cells slots ∧ T'.heap = h' ∧ Wr h h' a k (.int x) ∧ own_AI Z h' a .int n (fun i => if i = k then x else fi i) ∧ ∀ t, Steps p.tables e below (T'.setTop (mkF m pc' Ls rest)) t → Steps p.tables e below (T.setTop (mkF m pc Ls (.int x :: .int j :: .ref a :: rest))) t := by
  obtain ⟨q1, q2⟩ := own_in hj hk
  have F' := F
  obtain ⟨cc, A, h1, h2⟩ := F
  subst hp q1
  obtain ⟨T', h', X', e', W', st⟩ := stI X hx hZ eT A (j := j) (x := x) (by rw [h1]; exact q2) (g := mkF m pc Ls (.int x :: .int j :: .ref a :: rest)) rfl rfl hd
  exact ⟨T', h', X', e', W', F'.set W', st⟩
theorem own_bastore (X : Stand p l e R s m args below meth c T locs cells slots) (hx : p.tables.exec = Jvm.exec) (hZ : Z.Warmed39 s.vm) (eT : T.heap = h) (F : own_AI Z h a .byte n fi) {j : Int32} {k : Nat} (hj : j.toInt = (k : Int)) (hk : k < n) {x y : Int32} (hn : nar .byte x = y) {pc pc' : Nat} {Ls : Array Slot} {rest : List Value}
    (hd : decode c.code pc = .ok (.bastore, 1)) (hp : pc + 1 = pc') :
    ∃ T' h', Stand p l e R s m args below meth c T' (locs ++ [⟨a, k⟩]) cells slots ∧ T'.heap = h' ∧ Wr h h' a k (.int y) ∧ own_AI Z h' a .byte n (fun i => if i = k then y else fi i) ∧ ∀ t, Steps p.tables e below (T'.setTop (mkF m pc' Ls rest)) t → Steps p.tables e below (T.setTop (mkF m pc Ls (.int x :: .int j :: .ref a :: rest))) t := by
  obtain ⟨q1, q2⟩ := own_in hj hk
  have F' := F
  obtain ⟨cc, A, h1, h2⟩ := F
  subst hp q1 hn
  obtain ⟨T', h', X', e', W', st⟩ := stB X hx hZ eT A (j := j) (x := x) (by rw [h1]; exact q2) (g := mkF m pc Ls (.int x :: .int j :: .ref a :: rest)) rfl rfl hd
  exact ⟨T', h', X', e', W', F'.set W', st⟩
theorem own_lastore (X : Stand p l e R s m args below meth c T locs cells slots) (hx : p.tables.exec = Jvm.exec) (hZ : Z.Warmed39 s.vm) (eT : T.heap = h) (F : own_AJ Z h a n fj) {j : Int32} {k : Nat} (hj : j.toInt = (k : Int)) (hk : k < n) {x : Int64} {pc pc' : Nat} {Ls : Array Slot} {rest : List Value}
    (hd : decode c.code pc = .ok (.lastore, 1)) (hp : pc + 1 = pc') :
    ∃ T' h', Stand p l e R s m args below meth c T' (locs ++ [⟨a, k⟩]) cells slots ∧ T'.heap = h' ∧ Wr h h' a k (.long x) ∧ own_AJ Z h' a n (fun i => if i = k then x else fj i) ∧ ∀ t, Steps p.tables e below (T'.setTop (mkF m pc' Ls rest)) t → Steps p.tables e below (T.setTop (mkF m pc Ls (.long x :: .int j :: .ref a :: rest))) t := by
  obtain ⟨q1, q2⟩ := own_in hj hk
  have F' := F
  obtain ⟨cc, A, h1, h2⟩ := F
  subst hp q1
  obtain ⟨T', h', X', e', W', st⟩ := stJ X hx hZ eT A (j := j) (x := x) (by rw [h1]; exact q2) (g := mkF m pc Ls (.long x :: .int j :: .ref a :: rest)) rfl rfl hd
  exact ⟨T', h', X', e', W', F'.set W', st⟩
theorem own_nar8 (x : Int32) : nar .byte x.toInt8.toInt32 = x.toInt8.toInt32 := by
  show (x.toInt8.toInt32).toInt8.toInt32 = x.toInt8.toInt32
  simp
end OwnKit
def own_b (v : Int64) (i : Nat) : Int32 := ((((v.toUInt64 >>> (((8 : Int32) * i.toInt32) &&& 0x3f).toInt64.toUInt64).toInt64).toInt32).toInt8.toInt32)
def own_pt (b : Int32) (i : Int32) : Int64 := ((b &&& (255 : Int32)).toInt64 <<< (((8 : Int32) * i) &&& 0x3f).toInt64)
theorem own_byt (w : Int64) : (w.toInt32.toInt8.toInt32).toInt % 256 = w.toInt % 256 := by
  have h1 := c_i2b w.toInt32
  have h2 := c_l2i w
  omega
theorem own_zero8 (v : Int64) : (v.toUInt64 >>> ((0 : Int32) &&& 0x3f).toInt64.toUInt64).toInt64 = v := by
  apply Int64.toBitVec_inj.mp
  show v.toBitVec >>> (0 : Nat) = v.toBitVec
  simp
theorem own_d0 (v : Int64) : (own_b v 0).toInt % 256 = v.toInt % 18446744073709551616 / 1 % 256 := by
  have h := own_byt v
  have e : own_b v 0 = v.toInt32.toInt8.toInt32 := by show (((v.toUInt64 >>> ((0 : Int32) &&& 0x3f).toInt64.toUInt64).toInt64).toInt32).toInt8.toInt32 = _; rw [own_zero8]
  rw [e, h]
  omega
theorem own_q0 (b : Int32) : ((own_pt b 0).toInt - b.toInt % 256 * 1) % 18446744073709551616 = 0 := by
  have h1 : (b &&& (255 : Int32)).toInt = b.toInt % 256 := c_mask b 255 8 (by decide) (by decide)
  have h2 := c_lshl (b &&& (255 : Int32)).toInt64 0 0 (by decide)
  rw [c_i2l, h1, show ((2 : Nat) ^ 0 : Nat) = 1 from by decide] at h2
  exact h2
theorem own_d1 (v : Int64) : (own_b v 1).toInt % 256 = v.toInt % 18446744073709551616 / 256 % 256 := by
  have h := own_byt ((v.toUInt64 >>> ((8 : Int32) &&& 0x3f).toInt64.toUInt64).toInt64)
  rw [c_lushr v 8 8 (by decide) (by decide), show ((2 : Nat) ^ 8 : Nat) = 256 from by decide] at h
  exact h
theorem own_q1 (b : Int32) : ((own_pt b 1).toInt - b.toInt % 256 * 256) % 18446744073709551616 = 0 := by
  have h1 : (b &&& (255 : Int32)).toInt = b.toInt % 256 := c_mask b 255 8 (by decide) (by decide)
  have h2 := c_lshl (b &&& (255 : Int32)).toInt64 8 8 (by decide)
  rw [c_i2l, h1, show ((2 : Nat) ^ 8 : Nat) = 256 from by decide] at h2
  exact h2
theorem own_d2 (v : Int64) : (own_b v 2).toInt % 256 = v.toInt % 18446744073709551616 / 65536 % 256 := by
  have h := own_byt ((v.toUInt64 >>> ((16 : Int32) &&& 0x3f).toInt64.toUInt64).toInt64)
  rw [c_lushr v 16 16 (by decide) (by decide), show ((2 : Nat) ^ 16 : Nat) = 65536 from by decide] at h
  exact h
theorem own_q2 (b : Int32) : ((own_pt b 2).toInt - b.toInt % 256 * 65536) % 18446744073709551616 = 0 := by
  have h1 : (b &&& (255 : Int32)).toInt = b.toInt % 256 := c_mask b 255 8 (by decide) (by decide)
  have h2 := c_lshl (b &&& (255 : Int32)).toInt64 16 16 (by decide)
  rw [c_i2l, h1, show ((2 : Nat) ^ 16 : Nat) = 65536 from by decide] at h2
  exact h2
theorem own_d3 (v : Int64) : (own_b v 3).toInt % 256 = v.toInt % 18446744073709551616 / 16777216 % 256 := by
  have h := own_byt ((v.toUInt64 >>> ((24 : Int32) &&& 0x3f).toInt64.toUInt64).toInt64)
  rw [c_lushr v 24 24 (by decide) (by decide), show ((2 : Nat) ^ 24 : Nat) = 16777216 from by decide] at h
  exact h
theorem own_q3 (b : Int32) : ((own_pt b 3).toInt - b.toInt % 256 * 16777216) % 18446744073709551616 = 0 := by
  have h1 : (b &&& (255 : Int32)).toInt = b.toInt % 256 := c_mask b 255 8 (by decide) (by decide)
  have h2 := c_lshl (b &&& (255 : Int32)).toInt64 24 24 (by decide)
  rw [c_i2l, h1, show ((2 : Nat) ^ 24 : Nat) = 16777216 from by decide] at h2
  exact h2
theorem own_d4 (v : Int64) : (own_b v 4).toInt % 256 = v.toInt % 18446744073709551616 / 4294967296 % 256 := by
  have h := own_byt ((v.toUInt64 >>> ((32 : Int32) &&& 0x3f).toInt64.toUInt64).toInt64)
  rw [c_lushr v 32 32 (by decide) (by decide), show ((2 : Nat) ^ 32 : Nat) = 4294967296 from by decide] at h
  exact h
theorem own_q4 (b : Int32) : ((own_pt b 4).toInt - b.toInt % 256 * 4294967296) % 18446744073709551616 = 0 := by
  have h1 : (b &&& (255 : Int32)).toInt = b.toInt % 256 := c_mask b 255 8 (by decide) (by decide)
  have h2 := c_lshl (b &&& (255 : Int32)).toInt64 32 32 (by decide)
  rw [c_i2l, h1, show ((2 : Nat) ^ 32 : Nat) = 4294967296 from by decide] at h2
  exact h2
theorem own_d5 (v : Int64) : (own_b v 5).toInt % 256 = v.toInt % 18446744073709551616 / 1099511627776 % 256 := by
  have h := own_byt ((v.toUInt64 >>> ((40 : Int32) &&& 0x3f).toInt64.toUInt64).toInt64)
  rw [c_lushr v 40 40 (by decide) (by decide), show ((2 : Nat) ^ 40 : Nat) = 1099511627776 from by decide] at h
  exact h
theorem own_q5 (b : Int32) : ((own_pt b 5).toInt - b.toInt % 256 * 1099511627776) % 18446744073709551616 = 0 := by
  have h1 : (b &&& (255 : Int32)).toInt = b.toInt % 256 := c_mask b 255 8 (by decide) (by decide)
  have h2 := c_lshl (b &&& (255 : Int32)).toInt64 40 40 (by decide)
  rw [c_i2l, h1, show ((2 : Nat) ^ 40 : Nat) = 1099511627776 from by decide] at h2
  exact h2
theorem own_d6 (v : Int64) : (own_b v 6).toInt % 256 = v.toInt % 18446744073709551616 / 281474976710656 % 256 := by
  have h := own_byt ((v.toUInt64 >>> ((48 : Int32) &&& 0x3f).toInt64.toUInt64).toInt64)
  rw [c_lushr v 48 48 (by decide) (by decide), show ((2 : Nat) ^ 48 : Nat) = 281474976710656 from by decide] at h
  exact h
theorem own_q6 (b : Int32) : ((own_pt b 6).toInt - b.toInt % 256 * 281474976710656) % 18446744073709551616 = 0 := by
  have h1 : (b &&& (255 : Int32)).toInt = b.toInt % 256 := c_mask b 255 8 (by decide) (by decide)
  have h2 := c_lshl (b &&& (255 : Int32)).toInt64 48 48 (by decide)
  rw [c_i2l, h1, show ((2 : Nat) ^ 48 : Nat) = 281474976710656 from by decide] at h2
  exact h2
theorem own_d7 (v : Int64) : (own_b v 7).toInt % 256 = v.toInt % 18446744073709551616 / 72057594037927936 % 256 := by
  have h := own_byt ((v.toUInt64 >>> ((56 : Int32) &&& 0x3f).toInt64.toUInt64).toInt64)
  rw [c_lushr v 56 56 (by decide) (by decide), show ((2 : Nat) ^ 56 : Nat) = 72057594037927936 from by decide] at h
  exact h
theorem own_q7 (b : Int32) : ((own_pt b 7).toInt - b.toInt % 256 * 72057594037927936) % 18446744073709551616 = 0 := by
  have h1 : (b &&& (255 : Int32)).toInt = b.toInt % 256 := c_mask b 255 8 (by decide) (by decide)
  have h2 := c_lshl (b &&& (255 : Int32)).toInt64 56 56 (by decide)
  rw [c_i2l, h1, show ((2 : Nat) ^ 56 : Nat) = 72057594037927936 from by decide] at h2
  exact h2
theorem own_st1 (U : Int) (x a : Int64) (h0 : 0 ≤ U) (h1 : U < 18446744073709551616) (ha : a.toInt = U % 256) (hx : (x.toInt - U / 256 % 256 * 256) % 18446744073709551616 = 0) : (a ||| x).toInt = U % 65536 := by
  have e : U % 256 + U / 256 % 256 * 256 = U % 65536 := by omega
  have r := rng64 x
  have q : x.toInt % 256 = 0 := by omega
  have o := c_orL x a 8 (by decide) 256 (by decide) q (by omega) (by omega)
  rw [Int64.or_comm x a] at o
  have g := rng64 (a ||| x)
  generalize a ||| x = y at *
  clear q
  omega
theorem own_st2 (U : Int) (x a : Int64) (h0 : 0 ≤ U) (h1 : U < 18446744073709551616) (ha : a.toInt = U % 65536) (hx : (x.toInt - U / 65536 % 256 * 65536) % 18446744073709551616 = 0) : (a ||| x).toInt = U % 16777216 := by
  have e : U % 65536 + U / 65536 % 256 * 65536 = U % 16777216 := by omega
  have r := rng64 x
  have q : x.toInt % 65536 = 0 := by omega
  have o := c_orL x a 16 (by decide) 65536 (by decide) q (by omega) (by omega)
  rw [Int64.or_comm x a] at o
  have g := rng64 (a ||| x)
  generalize a ||| x = y at *
  clear q
  omega
theorem own_st3 (U : Int) (x a : Int64) (h0 : 0 ≤ U) (h1 : U < 18446744073709551616) (ha : a.toInt = U % 16777216) (hx : (x.toInt - U / 16777216 % 256 * 16777216) % 18446744073709551616 = 0) : (a ||| x).toInt = U % 4294967296 := by
  have e : U % 16777216 + U / 16777216 % 256 * 16777216 = U % 4294967296 := by omega
  have r := rng64 x
  have q : x.toInt % 16777216 = 0 := by omega
  have o := c_orL x a 24 (by decide) 16777216 (by decide) q (by omega) (by omega)
  rw [Int64.or_comm x a] at o
  have g := rng64 (a ||| x)
  generalize a ||| x = y at *
  clear q
  omega
theorem own_st4 (U : Int) (x a : Int64) (h0 : 0 ≤ U) (h1 : U < 18446744073709551616) (ha : a.toInt = U % 4294967296) (hx : (x.toInt - U / 4294967296 % 256 * 4294967296) % 18446744073709551616 = 0) : (a ||| x).toInt = U % 1099511627776 := by
  have e : U % 4294967296 + U / 4294967296 % 256 * 4294967296 = U % 1099511627776 := by omega
  have r := rng64 x
  have q : x.toInt % 4294967296 = 0 := by omega
  have o := c_orL x a 32 (by decide) 4294967296 (by decide) q (by omega) (by omega)
  rw [Int64.or_comm x a] at o
  have g := rng64 (a ||| x)
  generalize a ||| x = y at *
  clear q
  omega
theorem own_st5 (U : Int) (x a : Int64) (h0 : 0 ≤ U) (h1 : U < 18446744073709551616) (ha : a.toInt = U % 1099511627776) (hx : (x.toInt - U / 1099511627776 % 256 * 1099511627776) % 18446744073709551616 = 0) : (a ||| x).toInt = U % 281474976710656 := by
  have e : U % 1099511627776 + U / 1099511627776 % 256 * 1099511627776 = U % 281474976710656 := by omega
  have r := rng64 x
  have q : x.toInt % 1099511627776 = 0 := by omega
  have o := c_orL x a 40 (by decide) 1099511627776 (by decide) q (by omega) (by omega)
  rw [Int64.or_comm x a] at o
  have g := rng64 (a ||| x)
  generalize a ||| x = y at *
  clear q
  omega
theorem own_st6 (U : Int) (x a : Int64) (h0 : 0 ≤ U) (h1 : U < 18446744073709551616) (ha : a.toInt = U % 281474976710656) (hx : (x.toInt - U / 281474976710656 % 256 * 281474976710656) % 18446744073709551616 = 0) : (a ||| x).toInt = U % 72057594037927936 := by
  have e : U % 281474976710656 + U / 281474976710656 % 256 * 281474976710656 = U % 72057594037927936 := by omega
  have r := rng64 x
  have q : x.toInt % 281474976710656 = 0 := by omega
  have o := c_orL x a 48 (by decide) 281474976710656 (by decide) q (by omega) (by omega)
  rw [Int64.or_comm x a] at o
  have g := rng64 (a ||| x)
  generalize a ||| x = y at *
  clear q
  omega
theorem own_st7 (U : Int) (x a : Int64) (h0 : 0 ≤ U) (h1 : U < 18446744073709551616) (ha : a.toInt = U % 72057594037927936) (hx : (x.toInt - U / 72057594037927936 % 256 * 72057594037927936) % 18446744073709551616 = 0) : ((a ||| x).toInt - U) % 18446744073709551616 = 0 := by
  have e : U % 72057594037927936 + U / 72057594037927936 % 256 * 72057594037927936 = U % 18446744073709551616 := by omega
  have r := rng64 x
  have q : x.toInt % 72057594037927936 = 0 := by omega
  have o := c_orL x a 56 (by decide) 72057594037927936 (by decide) q (by omega) (by omega)
  rw [Int64.or_comm x a] at o
  have g := rng64 (a ||| x)
  generalize a ||| x = y at *
  clear q
  omega
theorem own_sum1 (v : Int64) : (own_pt (own_b v 0) 0) = (v &&& (255 : Int64)) := by
  obtain ⟨U, hU⟩ : ∃ U, U = v.toInt % 18446744073709551616 := ⟨_, rfl⟩
  have h0 : 0 ≤ U := by omega
  have h1 : U < 18446744073709551616 := by omega
  have p0 := own_q0 (own_b v 0)
  rw [own_d0 v, ← hU] at p0
  generalize own_pt (own_b v 0) 0 = x0 at *
  have z0 : x0.toInt = U % 256 := by
    have g := rng64 x0
    omega
  clear p0
  apply Int64.toInt_inj.mp
  have hm := c_maskL v 255 8 (by decide) (by decide)
  rw [hm, show ((2 : Nat) ^ 8 : Nat) = 256 from by decide]
  have rv := rng64 v
  omega
theorem own_sum2 (v : Int64) : ((own_pt (own_b v 0) 0) ||| (own_pt (own_b v 1) 1)) = (v &&& (65535 : Int64)) := by
  obtain ⟨U, hU⟩ : ∃ U, U = v.toInt % 18446744073709551616 := ⟨_, rfl⟩
  have h0 : 0 ≤ U := by omega
  have h1 : U < 18446744073709551616 := by omega
  have p0 := own_q0 (own_b v 0)
  rw [own_d0 v, ← hU] at p0
  generalize own_pt (own_b v 0) 0 = x0 at *
  have p1 := own_q1 (own_b v 1)
  rw [own_d1 v, ← hU] at p1
  generalize own_pt (own_b v 1) 1 = x1 at *
  have z0 : x0.toInt = U % 256 := by
    have g := rng64 x0
    omega
  have z1 := own_st1 U x1 x0 h0 h1 z0 p1
  generalize x0 ||| x1 = y1 at *
  clear p0
  clear p1
  clear z0
  apply Int64.toInt_inj.mp
  have hm := c_maskL v 65535 16 (by decide) (by decide)
  rw [hm, show ((2 : Nat) ^ 16 : Nat) = 65536 from by decide]
  have rv := rng64 v
  omega
theorem own_sum3 (v : Int64) : (((own_pt (own_b v 0) 0) ||| (own_pt (own_b v 1) 1)) ||| (own_pt (own_b v 2) 2)) = (v &&& (16777215 : Int64)) := by
  obtain ⟨U, hU⟩ : ∃ U, U = v.toInt % 18446744073709551616 := ⟨_, rfl⟩
  have h0 : 0 ≤ U := by omega
  have h1 : U < 18446744073709551616 := by omega
  have p0 := own_q0 (own_b v 0)
  rw [own_d0 v, ← hU] at p0
  generalize own_pt (own_b v 0) 0 = x0 at *
  have p1 := own_q1 (own_b v 1)
  rw [own_d1 v, ← hU] at p1
  generalize own_pt (own_b v 1) 1 = x1 at *
  have p2 := own_q2 (own_b v 2)
  rw [own_d2 v, ← hU] at p2
  generalize own_pt (own_b v 2) 2 = x2 at *
  have z0 : x0.toInt = U % 256 := by
    have g := rng64 x0
    omega
  have z1 := own_st1 U x1 x0 h0 h1 z0 p1
  generalize x0 ||| x1 = y1 at *
  have z2 := own_st2 U x2 y1 h0 h1 z1 p2
  generalize y1 ||| x2 = y2 at *
  clear p0
  clear p1
  clear p2
  clear z0
  clear z1
  apply Int64.toInt_inj.mp
  have hm := c_maskL v 16777215 24 (by decide) (by decide)
  rw [hm, show ((2 : Nat) ^ 24 : Nat) = 16777216 from by decide]
  have rv := rng64 v
  omega
theorem own_sum4 (v : Int64) : ((((own_pt (own_b v 0) 0) ||| (own_pt (own_b v 1) 1)) ||| (own_pt (own_b v 2) 2)) ||| (own_pt (own_b v 3) 3)) = (v &&& (4294967295 : Int64)) := by
  obtain ⟨U, hU⟩ : ∃ U, U = v.toInt % 18446744073709551616 := ⟨_, rfl⟩
  have h0 : 0 ≤ U := by omega
  have h1 : U < 18446744073709551616 := by omega
  have p0 := own_q0 (own_b v 0)
  rw [own_d0 v, ← hU] at p0
  generalize own_pt (own_b v 0) 0 = x0 at *
  have p1 := own_q1 (own_b v 1)
  rw [own_d1 v, ← hU] at p1
  generalize own_pt (own_b v 1) 1 = x1 at *
  have p2 := own_q2 (own_b v 2)
  rw [own_d2 v, ← hU] at p2
  generalize own_pt (own_b v 2) 2 = x2 at *
  have p3 := own_q3 (own_b v 3)
  rw [own_d3 v, ← hU] at p3
  generalize own_pt (own_b v 3) 3 = x3 at *
  have z0 : x0.toInt = U % 256 := by
    have g := rng64 x0
    omega
  have z1 := own_st1 U x1 x0 h0 h1 z0 p1
  generalize x0 ||| x1 = y1 at *
  have z2 := own_st2 U x2 y1 h0 h1 z1 p2
  generalize y1 ||| x2 = y2 at *
  have z3 := own_st3 U x3 y2 h0 h1 z2 p3
  generalize y2 ||| x3 = y3 at *
  clear p0
  clear p1
  clear p2
  clear p3
  clear z0
  clear z1
  clear z2
  apply Int64.toInt_inj.mp
  have hm := c_maskL v 4294967295 32 (by decide) (by decide)
  rw [hm, show ((2 : Nat) ^ 32 : Nat) = 4294967296 from by decide]
  have rv := rng64 v
  omega
theorem own_sum5 (v : Int64) : (((((own_pt (own_b v 0) 0) ||| (own_pt (own_b v 1) 1)) ||| (own_pt (own_b v 2) 2)) ||| (own_pt (own_b v 3) 3)) ||| (own_pt (own_b v 4) 4)) = (v &&& (1099511627775 : Int64)) := by
  obtain ⟨U, hU⟩ : ∃ U, U = v.toInt % 18446744073709551616 := ⟨_, rfl⟩
  have h0 : 0 ≤ U := by omega
  have h1 : U < 18446744073709551616 := by omega
  have p0 := own_q0 (own_b v 0)
  rw [own_d0 v, ← hU] at p0
  generalize own_pt (own_b v 0) 0 = x0 at *
  have p1 := own_q1 (own_b v 1)
  rw [own_d1 v, ← hU] at p1
  generalize own_pt (own_b v 1) 1 = x1 at *
  have p2 := own_q2 (own_b v 2)
  rw [own_d2 v, ← hU] at p2
  generalize own_pt (own_b v 2) 2 = x2 at *
  have p3 := own_q3 (own_b v 3)
  rw [own_d3 v, ← hU] at p3
  generalize own_pt (own_b v 3) 3 = x3 at *
  have p4 := own_q4 (own_b v 4)
  rw [own_d4 v, ← hU] at p4
  generalize own_pt (own_b v 4) 4 = x4 at *
  have z0 : x0.toInt = U % 256 := by
    have g := rng64 x0
    omega
  have z1 := own_st1 U x1 x0 h0 h1 z0 p1
  generalize x0 ||| x1 = y1 at *
  have z2 := own_st2 U x2 y1 h0 h1 z1 p2
  generalize y1 ||| x2 = y2 at *
  have z3 := own_st3 U x3 y2 h0 h1 z2 p3
  generalize y2 ||| x3 = y3 at *
  have z4 := own_st4 U x4 y3 h0 h1 z3 p4
  generalize y3 ||| x4 = y4 at *
  clear p0
  clear p1
  clear p2
  clear p3
  clear p4
  clear z0
  clear z1
  clear z2
  clear z3
  apply Int64.toInt_inj.mp
  have hm := c_maskL v 1099511627775 40 (by decide) (by decide)
  rw [hm, show ((2 : Nat) ^ 40 : Nat) = 1099511627776 from by decide]
  have rv := rng64 v
  omega
theorem own_sum6 (v : Int64) : ((((((own_pt (own_b v 0) 0) ||| (own_pt (own_b v 1) 1)) ||| (own_pt (own_b v 2) 2)) ||| (own_pt (own_b v 3) 3)) ||| (own_pt (own_b v 4) 4)) ||| (own_pt (own_b v 5) 5)) = (v &&& (281474976710655 : Int64)) := by
  obtain ⟨U, hU⟩ : ∃ U, U = v.toInt % 18446744073709551616 := ⟨_, rfl⟩
  have h0 : 0 ≤ U := by omega
  have h1 : U < 18446744073709551616 := by omega
  have p0 := own_q0 (own_b v 0)
  rw [own_d0 v, ← hU] at p0
  generalize own_pt (own_b v 0) 0 = x0 at *
  have p1 := own_q1 (own_b v 1)
  rw [own_d1 v, ← hU] at p1
  generalize own_pt (own_b v 1) 1 = x1 at *
  have p2 := own_q2 (own_b v 2)
  rw [own_d2 v, ← hU] at p2
  generalize own_pt (own_b v 2) 2 = x2 at *
  have p3 := own_q3 (own_b v 3)
  rw [own_d3 v, ← hU] at p3
  generalize own_pt (own_b v 3) 3 = x3 at *
  have p4 := own_q4 (own_b v 4)
  rw [own_d4 v, ← hU] at p4
  generalize own_pt (own_b v 4) 4 = x4 at *
  have p5 := own_q5 (own_b v 5)
  rw [own_d5 v, ← hU] at p5
  generalize own_pt (own_b v 5) 5 = x5 at *
  have z0 : x0.toInt = U % 256 := by
    have g := rng64 x0
    omega
  have z1 := own_st1 U x1 x0 h0 h1 z0 p1
  generalize x0 ||| x1 = y1 at *
  have z2 := own_st2 U x2 y1 h0 h1 z1 p2
  generalize y1 ||| x2 = y2 at *
  have z3 := own_st3 U x3 y2 h0 h1 z2 p3
  generalize y2 ||| x3 = y3 at *
  have z4 := own_st4 U x4 y3 h0 h1 z3 p4
  generalize y3 ||| x4 = y4 at *
  have z5 := own_st5 U x5 y4 h0 h1 z4 p5
  generalize y4 ||| x5 = y5 at *
  clear p0
  clear p1
  clear p2
  clear p3
  clear p4
  clear p5
  clear z0
  clear z1
  clear z2
  clear z3
  clear z4
  apply Int64.toInt_inj.mp
  have hm := c_maskL v 281474976710655 48 (by decide) (by decide)
  rw [hm, show ((2 : Nat) ^ 48 : Nat) = 281474976710656 from by decide]
  have rv := rng64 v
  omega
theorem own_sum7 (v : Int64) : (((((((own_pt (own_b v 0) 0) ||| (own_pt (own_b v 1) 1)) ||| (own_pt (own_b v 2) 2)) ||| (own_pt (own_b v 3) 3)) ||| (own_pt (own_b v 4) 4)) ||| (own_pt (own_b v 5) 5)) ||| (own_pt (own_b v 6) 6)) = (v &&& (72057594037927935 : Int64)) := by
  obtain ⟨U, hU⟩ : ∃ U, U = v.toInt % 18446744073709551616 := ⟨_, rfl⟩
  have h0 : 0 ≤ U := by omega
  have h1 : U < 18446744073709551616 := by omega
  have p0 := own_q0 (own_b v 0)
  rw [own_d0 v, ← hU] at p0
  generalize own_pt (own_b v 0) 0 = x0 at *
  have p1 := own_q1 (own_b v 1)
  rw [own_d1 v, ← hU] at p1
  generalize own_pt (own_b v 1) 1 = x1 at *
  have p2 := own_q2 (own_b v 2)
  rw [own_d2 v, ← hU] at p2
  generalize own_pt (own_b v 2) 2 = x2 at *
  have p3 := own_q3 (own_b v 3)
  rw [own_d3 v, ← hU] at p3
  generalize own_pt (own_b v 3) 3 = x3 at *
  have p4 := own_q4 (own_b v 4)
  rw [own_d4 v, ← hU] at p4
  generalize own_pt (own_b v 4) 4 = x4 at *
  have p5 := own_q5 (own_b v 5)
  rw [own_d5 v, ← hU] at p5
  generalize own_pt (own_b v 5) 5 = x5 at *
  have p6 := own_q6 (own_b v 6)
  rw [own_d6 v, ← hU] at p6
  generalize own_pt (own_b v 6) 6 = x6 at *
  have z0 : x0.toInt = U % 256 := by
    have g := rng64 x0
    omega
  have z1 := own_st1 U x1 x0 h0 h1 z0 p1
  generalize x0 ||| x1 = y1 at *
  have z2 := own_st2 U x2 y1 h0 h1 z1 p2
  generalize y1 ||| x2 = y2 at *
  have z3 := own_st3 U x3 y2 h0 h1 z2 p3
  generalize y2 ||| x3 = y3 at *
  have z4 := own_st4 U x4 y3 h0 h1 z3 p4
  generalize y3 ||| x4 = y4 at *
  have z5 := own_st5 U x5 y4 h0 h1 z4 p5
  generalize y4 ||| x5 = y5 at *
  have z6 := own_st6 U x6 y5 h0 h1 z5 p6
  generalize y5 ||| x6 = y6 at *
  clear p0
  clear p1
  clear p2
  clear p3
  clear p4
  clear p5
  clear p6
  clear z0
  clear z1
  clear z2
  clear z3
  clear z4
  clear z5
  apply Int64.toInt_inj.mp
  have hm := c_maskL v 72057594037927935 56 (by decide) (by decide)
  rw [hm, show ((2 : Nat) ^ 56 : Nat) = 72057594037927936 from by decide]
  have rv := rng64 v
  omega
theorem own_sum8 (v : Int64) : ((((((((own_pt (own_b v 0) 0) ||| (own_pt (own_b v 1) 1)) ||| (own_pt (own_b v 2) 2)) ||| (own_pt (own_b v 3) 3)) ||| (own_pt (own_b v 4) 4)) ||| (own_pt (own_b v 5) 5)) ||| (own_pt (own_b v 6) 6)) ||| (own_pt (own_b v 7) 7)) = v := by
  obtain ⟨U, hU⟩ : ∃ U, U = v.toInt % 18446744073709551616 := ⟨_, rfl⟩
  have h0 : 0 ≤ U := by omega
  have h1 : U < 18446744073709551616 := by omega
  have p0 := own_q0 (own_b v 0)
  rw [own_d0 v, ← hU] at p0
  generalize own_pt (own_b v 0) 0 = x0 at *
  have p1 := own_q1 (own_b v 1)
  rw [own_d1 v, ← hU] at p1
  generalize own_pt (own_b v 1) 1 = x1 at *
  have p2 := own_q2 (own_b v 2)
  rw [own_d2 v, ← hU] at p2
  generalize own_pt (own_b v 2) 2 = x2 at *
  have p3 := own_q3 (own_b v 3)
  rw [own_d3 v, ← hU] at p3
  generalize own_pt (own_b v 3) 3 = x3 at *
  have p4 := own_q4 (own_b v 4)
  rw [own_d4 v, ← hU] at p4
  generalize own_pt (own_b v 4) 4 = x4 at *
  have p5 := own_q5 (own_b v 5)
  rw [own_d5 v, ← hU] at p5
  generalize own_pt (own_b v 5) 5 = x5 at *
  have p6 := own_q6 (own_b v 6)
  rw [own_d6 v, ← hU] at p6
  generalize own_pt (own_b v 6) 6 = x6 at *
  have p7 := own_q7 (own_b v 7)
  rw [own_d7 v, ← hU] at p7
  generalize own_pt (own_b v 7) 7 = x7 at *
  have z0 : x0.toInt = U % 256 := by
    have g := rng64 x0
    omega
  have z1 := own_st1 U x1 x0 h0 h1 z0 p1
  generalize x0 ||| x1 = y1 at *
  have z2 := own_st2 U x2 y1 h0 h1 z1 p2
  generalize y1 ||| x2 = y2 at *
  have z3 := own_st3 U x3 y2 h0 h1 z2 p3
  generalize y2 ||| x3 = y3 at *
  have z4 := own_st4 U x4 y3 h0 h1 z3 p4
  generalize y3 ||| x4 = y4 at *
  have z5 := own_st5 U x5 y4 h0 h1 z4 p5
  generalize y4 ||| x5 = y5 at *
  have z6 := own_st6 U x6 y5 h0 h1 z5 p6
  generalize y5 ||| x6 = y6 at *
  have z7 := own_st7 U x7 y6 h0 h1 z6 p7
  generalize y6 ||| x7 = y7 at *
  clear p0
  clear p1
  clear p2
  clear p3
  clear p4
  clear p5
  clear p6
  clear p7
  clear z0
  clear z1
  clear z2
  clear z3
  clear z4
  clear z5
  clear z6
  apply Int64.toInt_inj.mp
  have gy := rng64 y7
  have rv := rng64 v
  omega
theorem own_lt1 {i : Nat} (h : i < 1) : i = 0 := by omega
theorem d11_0 : decode prog_22_method_2_code 0 = .ok (.iload_n 2, 1) := by decide +kernel
theorem d11_1 : decode prog_22_method_2_code 1 = .ok (.newarray .byte, 2) := by decide +kernel
theorem d11_3 : decode prog_22_method_2_code 3 = .ok (.astore_n 3, 1) := by decide +kernel
theorem d11_4 : decode prog_22_method_2_code 4 = .ok (.iconst 0, 1) := by decide +kernel
theorem d11_5 : decode prog_22_method_2_code 5 = .ok (.istore 4, 2) := by decide +kernel
theorem d11_7 : decode prog_22_method_2_code 7 = .ok (.iload 4, 2) := by decide +kernel
theorem d11_9 : decode prog_22_method_2_code 9 = .ok (.iload_n 2, 1) := by decide +kernel
theorem d11_10 : decode prog_22_method_2_code 10 = .ok (.if_icmp .ge 22, 3) := by decide +kernel
theorem d11_13 : decode prog_22_method_2_code 13 = .ok (.aload_n 3, 1) := by decide +kernel
theorem d11_14 : decode prog_22_method_2_code 14 = .ok (.iload 4, 2) := by decide +kernel
theorem d11_16 : decode prog_22_method_2_code 16 = .ok (.lload_n 0, 1) := by decide +kernel
theorem d11_17 : decode prog_22_method_2_code 17 = .ok (.bipush 8, 2) := by decide +kernel
theorem d11_19 : decode prog_22_method_2_code 19 = .ok (.iload 4, 2) := by decide +kernel
theorem d11_21 : decode prog_22_method_2_code 21 = .ok (.imul, 1) := by decide +kernel
theorem d11_22 : decode prog_22_method_2_code 22 = .ok (.lushr, 1) := by decide +kernel
theorem d11_23 : decode prog_22_method_2_code 23 = .ok (.l2i, 1) := by decide +kernel
theorem d11_24 : decode prog_22_method_2_code 24 = .ok (.i2b, 1) := by decide +kernel
theorem d11_25 : decode prog_22_method_2_code 25 = .ok (.bastore, 1) := by decide +kernel
theorem d11_26 : decode prog_22_method_2_code 26 = .ok (.iinc 4 1, 3) := by decide +kernel
theorem d11_29 : decode prog_22_method_2_code 29 = .ok (.goto (-22), 3) := by decide +kernel
theorem d11_32 : decode prog_22_method_2_code 32 = .ok (.aload_n 3, 1) := by decide +kernel
theorem d11_33 : decode prog_22_method_2_code 33 = .ok (.areturn, 1) := by decide +kernel
theorem own_pn_11 : plainName "com/example/kern_tablet/kerntablet/schema/IntegerHandler" = true := by first | (simp [plainName, overriddenIn]; done) | decide +kernel
theorem own_ef_11 (m : MethodId) (q1 : Int64) : entryFrame m #[(.long q1), (.int (1 : Int32))] 5 = mkF m 0 #[.val (.long q1), .second, .val (.int (1 : Int32)), .unset, .unset] [] := by first | (simp [entryFrame, mkF, argsToLocals, Value.category]; done) | rfl
abbrev own_R11 : Room := { frames := 0, cells := 1, slots := 1, locals := 0 }
def own_Q11 (Z : State) (q1 : Int64) (h0 : Heap) (n0 : Nat) (v : Option Value) (h : Heap) (L : List Loc) : Prop := ∃ b : Addr, v = some (.ref b) ∧ Fr n0 L ∧ Keep h0 h [] ∧ n0 ≤ b ∧ own_AI Z h b .byte 1 (own_b q1)
set_option maxRecDepth 65536 in
set_option maxHeartbeats 40000000 in
theorem rm11 (l : Launch) (Z : State) (a0 : Array Value) (hw : ∀ d ∈ tables_1, d.before a0 Z = true) (ws : List Jvm.Cond) (q1 : Int64) (h0 : Heap) (n0 : Nat) (Z0 : n0 ≤ h0.size) :
    MetFree l (⟨"com/example/kern_tablet/kerntablet/schema/IntegerHandler", "littleEndian", "(JI)[B"⟩ : MethodName) (head1 (Jvm.Cond.code (⟨"com/example/kern_tablet/kerntablet/schema/IntegerHandler", "littleEndian", "(JI)[B"⟩ : MethodName) prog_22_method_2_code 5 (some (.array .byte)) :: ws) own_R11) (fun a U => a = #[(.long q1), (.int (1 : Int32))] ∧ Z.Warmed39 U.vm ∧ U.heap = h0) (fun _ _ _ _ _ => True) (fun _ U o U' => ∃ v L, o = .returned v ∧ own_Q11 Z q1 h0 n0 v U'.heap L ∧ FrameEnd U o U' L own_R11.cells own_R11.slots) := by
  refine MetFree.of_bodySF (plainFor_of_name own_pn_11) hisR ?_
  intro p e s m args below meth c s₁ Bd hml0 hP hK
  obtain ⟨rfl, hZ, hh⟩ := hP
  have hx := Bd.exec
  have hby := Bd.bytes
  have hlk := BodyLoose.notSynchronized Bd
  have hml : c.maxLocals = 5 := hml0
  have hown : s.vm.findClass "com/example/kern_tablet/kerntablet/schema/IntegerHandler" = some m.cls := (findClass_of_methodNamed Bd.named : s.vm.findClass (⟨"com/example/kern_tablet/kerntablet/schema/IntegerHandler", "littleEndian", "(JI)[B"⟩ : MethodName).cls = some m.cls)
  have hnm := (name_of_methodNamed Bd.named Bd.method).1
  have X0 : Stand p l e own_R11 s m #[(.long q1), (.int (1 : Int32))] below meth c s₁ [] 0 0 := Stand.of_body Bd
  have e0 : s₁.heap = h0 := by rw [← hh, Bd.state]; rfl
  have Nf := Fr.nil n0
  have Zs := Z0
  have K : Keep h0 h0 [] := Keep.refl _ _
  show own_Fin p e below s (own_Q11 Z q1 h0 n0) 1 1 s₁ (entryFrame m #[(.long q1), (.int (1 : Int32))] 5)
  rw [own_ef_11 m q1]
  show own_Fin _ _ _ _ _ _ _ _ (mkF m 0 #[.val (.long q1), .second, .val (.int (1 : Int32)), .unset, .unset] [])
  refine own_step (fun t k => XS.iloadN X0.here hx rfl (hb hby d11_0) rfl k) ?_
  show own_Fin _ _ _ _ _ _ _ _ (mkF m 1 #[.val (.long q1), .second, .val (.int (1 : Int32)), .unset, .unset] [(.int (1 : Int32))])
  obtain ⟨T1, h1, k1, X1, e1, E1, A1, st1⟩ := newP X0 hx hZ (hw _ (List.mem_of_getElem? (i := 4) rfl)) e0 (g := (mkF m 1 #[.val (.long q1), .second, .val (.int (1 : Int32)), .unset, .unset] [(.int (1 : Int32))])) rfl (hb hby d11_1) rfl (by decide) (cap := 1) (by decide) (by decide) (by decide) (by decide)
  obtain ⟨b1, g1⟩ : ∃ z, z = h0.size := ⟨_, rfl⟩
  rw [← g1] at A1 st1
  refine own_step st1 ?_
  have g_b1 : n0 ≤ b1 := Nat.le_trans Zs (Nat.le_of_eq g1.symm)
  have sz_b1 : h0.size ≤ b1 := Nat.le_trans K.1 (Nat.le_of_eq g1.symm)
  replace Zs := Nat.le_trans Zs E1.1
  replace K := K.ext E1
  have V_b1 := own_AI.newB (n := 1) A1 (by decide)
  show own_Fin _ _ _ _ _ _ _ _ (mkF m 3 #[.val (.long q1), .second, .val (.int (1 : Int32)), .unset, .unset] [(.ref b1)])
  refine own_step (fun t k => XS.astoreN X1.here hx rfl (hb hby d11_3) rfl rfl (l' := #[.val (.long q1), .second, .val (.int (1 : Int32)), .val (.ref b1), .unset]) rfl k) ?_
  show own_Fin _ _ _ _ _ _ _ _ (mkF m 4 #[.val (.long q1), .second, .val (.int (1 : Int32)), .val (.ref b1), .unset] [])
  refine own_step (fun t k => XS.iconst X1.here hx rfl (hb hby d11_4) k) ?_
  show own_Fin _ _ _ _ _ _ _ _ (mkF m 5 #[.val (.long q1), .second, .val (.int (1 : Int32)), .val (.ref b1), .unset] [(.int (0 : Int32))])
  refine own_step (fun t k => XS.istore X1.here hx rfl (hb hby d11_5) rfl (l' := #[.val (.long q1), .second, .val (.int (1 : Int32)), .val (.ref b1), .val (.int (0 : Int32))]) rfl k) ?_
  show own_Fin _ _ _ _ _ _ _ _ (mkF m 7 #[.val (.long q1), .second, .val (.int (1 : Int32)), .val (.ref b1), .val (.int (0 : Int32))] [])
  refine own_step (fun t k => XS.iload X1.here hx rfl (hb hby d11_7) rfl k) ?_
  show own_Fin _ _ _ _ _ _ _ _ (mkF m 9 #[.val (.long q1), .second, .val (.int (1 : Int32)), .val (.ref b1), .val (.int (0 : Int32))] [(.int (0 : Int32))])
  refine own_step (fun t k => XS.iloadN X1.here hx rfl (hb hby d11_9) rfl k) ?_
  show own_Fin _ _ _ _ _ _ _ _ (mkF m 10 #[.val (.long q1), .second, .val (.int (1 : Int32)), .val (.ref b1), .val (.int (0 : Int32))] [(.int (1 : Int32)), (.int (0 : Int32))])
  refine own_step (fun t k => XS.icmpNo X1.here hx rfl (hb hby d11_10) rfl (by decide) k) ?_
  show own_Fin _ _ _ _ _ _ _ _ (mkF m 13 #[.val (.long q1), .second, .val (.int (1 : Int32)), .val (.ref b1), .val (.int (0 : Int32))] [])
  refine own_step (fun t k => XS.aloadN X1.here hx rfl (hb hby d11_13) rfl rfl k) ?_
  show own_Fin _ _ _ _ _ _ _ _ (mkF m 14 #[.val (.long q1), .second, .val (.int (1 : Int32)), .val (.ref b1), .val (.int (0 : Int32))] [(.ref b1)])
  refine own_step (fun t k => XS.iload X1.here hx rfl (hb hby d11_14) rfl k) ?_
  show own_Fin _ _ _ _ _ _ _ _ (mkF m 16 #[.val (.long q1), .second, .val (.int (1 : Int32)), .val (.ref b1), .val (.int (0 : Int32))] [(.int (0 : Int32)), (.ref b1)])
  refine own_step (fun t k => XS.lloadN X1.here hx rfl (hb hby d11_16) rfl k) ?_
  show own_Fin _ _ _ _ _ _ _ _ (mkF m 17 #[.val (.long q1), .second, .val (.int (1 : Int32)), .val (.ref b1), .val (.int (0 : Int32))] [(.long q1), (.int (0 : Int32)), (.ref b1)])
  refine own_step (fun t k => XS.bipush X1.here hx rfl (hb hby d11_17) k) ?_
  show own_Fin _ _ _ _ _ _ _ _ (mkF m 19 #[.val (.long q1), .second, .val (.int (1 : Int32)), .val (.ref b1), .val (.int (0 : Int32))] [(.int (8 : Int32)), (.long q1), (.int (0 : Int32)), (.ref b1)])
  refine own_step (fun t k => XS.iload X1.here hx rfl (hb hby d11_19) rfl k) ?_
  show own_Fin _ _ _ _ _ _ _ _ (mkF m 21 #[.val (.long q1), .second, .val (.int (1 : Int32)), .val (.ref b1), .val (.int (0 : Int32))] [(.int (0 : Int32)), (.int (8 : Int32)), (.long q1), (.int (0 : Int32)), (.ref b1)])
  refine own_step (fun t k => XS.imul X1.here hx rfl (hb hby d11_21) rfl k) ?_
  show own_Fin _ _ _ _ _ _ _ _ (mkF m 22 #[.val (.long q1), .second, .val (.int (1 : Int32)), .val (.ref b1), .val (.int (0 : Int32))] [(.int (0 : Int32)), (.long q1), (.int (0 : Int32)), (.ref b1)])
  refine own_step (fun t k => XS.lushr X1.here hx rfl (hb hby d11_22) rfl k) ?_
  show own_Fin _ _ _ _ _ _ _ _ (mkF m 23 #[.val (.long q1), .second, .val (.int (1 : Int32)), .val (.ref b1), .val (.int (0 : Int32))] [(.long ((q1.toUInt64 >>> ((0 : Int32) &&& 0x3f).toInt64.toUInt64).toInt64)), (.int (0 : Int32)), (.ref b1)])
  refine own_step (fun t k => XS.l2i X1.here hx rfl (hb hby d11_23) rfl k) ?_
  show own_Fin _ _ _ _ _ _ _ _ (mkF m 24 #[.val (.long q1), .second, .val (.int (1 : Int32)), .val (.ref b1), .val (.int (0 : Int32))] [(.int (((q1.toUInt64 >>> ((0 : Int32) &&& 0x3f).toInt64.toUInt64).toInt64).toInt32)), (.int (0 : Int32)), (.ref b1)])
  refine own_step (fun t k => XS.i2b X1.here hx rfl (hb hby d11_24) rfl k) ?_
  show own_Fin _ _ _ _ _ _ _ _ (mkF m 25 #[.val (.long q1), .second, .val (.int (1 : Int32)), .val (.ref b1), .val (.int (0 : Int32))] [(.int ((((q1.toUInt64 >>> ((0 : Int32) &&& 0x3f).toInt64.toUInt64).toInt64).toInt32).toInt8.toInt32)), (.int (0 : Int32)), (.ref b1)])
  obtain ⟨T2, h2, X2, e2, W2, B2, st2⟩ := own_bastore X1 hx hZ e1 V_b1 (j := (0 : Int32)) (k := 0) rfl (by decide) (own_nar8 _) (x := ((((q1.toUInt64 >>> ((0 : Int32) &&& 0x3f).toInt64.toUInt64).toInt64).toInt32).toInt8.toInt32)) (pc := 25) (Ls := #[.val (.long q1), .second, .val (.int (1 : Int32)), .val (.ref b1), .val (.int (0 : Int32))]) (rest := []) (hb hby d11_25) rfl
  refine own_step st2 ?_
  replace Zs : n0 ≤ h2.size := by rw [W2.size]; exact Zs
  replace K := K.wr W2 (Or.inr sz_b1)
  replace V_b1 := B2
  replace Nf := Fr.snoc X2 Nf g_b1
  show own_Fin _ _ _ _ _ _ _ _ (mkF m 26 #[.val (.long q1), .second, .val (.int (1 : Int32)), .val (.ref b1), .val (.int (0 : Int32))] [])
  refine own_step (fun t k => XS.iinc X2.here hx rfl (hb hby d11_26) rfl (l' := #[.val (.long q1), .second, .val (.int (1 : Int32)), .val (.ref b1), .val (.int (1 : Int32))]) rfl k) ?_
  show own_Fin _ _ _ _ _ _ _ _ (mkF m 29 #[.val (.long q1), .second, .val (.int (1 : Int32)), .val (.ref b1), .val (.int (1 : Int32))] [])
  refine own_step (fun t k => XS.goto X2.here hx rfl (pc0 := 29) (pc' := 7) rfl (hb hby d11_29) (by decide) (by decide) k) ?_
  show own_Fin _ _ _ _ _ _ _ _ (mkF m 7 #[.val (.long q1), .second, .val (.int (1 : Int32)), .val (.ref b1), .val (.int (1 : Int32))] [])
  refine own_step (fun t k => XS.iload X2.here hx rfl (hb hby d11_7) rfl k) ?_
  show own_Fin _ _ _ _ _ _ _ _ (mkF m 9 #[.val (.long q1), .second, .val (.int (1 : Int32)), .val (.ref b1), .val (.int (1 : Int32))] [(.int (1 : Int32))])
  refine own_step (fun t k => XS.iloadN X2.here hx rfl (hb hby d11_9) rfl k) ?_
  show own_Fin _ _ _ _ _ _ _ _ (mkF m 10 #[.val (.long q1), .second, .val (.int (1 : Int32)), .val (.ref b1), .val (.int (1 : Int32))] [(.int (1 : Int32)), (.int (1 : Int32))])
  refine own_step (fun t k => XS.icmpYes X2.here hx rfl (pc0 := 10) (pc' := 32) rfl (hb hby d11_10) rfl (by decide) (by decide) (by decide) k) ?_
  show own_Fin _ _ _ _ _ _ _ _ (mkF m 32 #[.val (.long q1), .second, .val (.int (1 : Int32)), .val (.ref b1), .val (.int (1 : Int32))] [])
  refine own_step (fun t k => XS.aloadN X2.here hx rfl (hb hby d11_32) rfl rfl k) ?_
  show own_Fin _ _ _ _ _ _ _ _ (mkF m 33 #[.val (.long q1), .second, .val (.int (1 : Int32)), .val (.ref b1), .val (.int (1 : Int32))] [(.ref b1)])
  refine own_retR X2 hx hlk Bd.returns rfl rfl (hb hby d11_33) (by decide) (by decide) e2 ?_
  exact ⟨b1, rfl, Nf, K, g_b1, V_b1.congr (by intro i hi; rcases own_lt1 hi with rfl <;> rfl)⟩
theorem own_lt2 {i : Nat} (h : i < 2) : i = 0 ∨ i = 1 := by omega
theorem d12_0 : decode prog_22_method_2_code 0 = .ok (.iload_n 2, 1) := by decide +kernel
theorem d12_1 : decode prog_22_method_2_code 1 = .ok (.newarray .byte, 2) := by decide +kernel
theorem d12_3 : decode prog_22_method_2_code 3 = .ok (.astore_n 3, 1) := by decide +kernel
theorem d12_4 : decode prog_22_method_2_code 4 = .ok (.iconst 0, 1) := by decide +kernel
theorem d12_5 : decode prog_22_method_2_code 5 = .ok (.istore 4, 2) := by decide +kernel
theorem d12_7 : decode prog_22_method_2_code 7 = .ok (.iload 4, 2) := by decide +kernel
theorem d12_9 : decode prog_22_method_2_code 9 = .ok (.iload_n 2, 1) := by decide +kernel
theorem d12_10 : decode prog_22_method_2_code 10 = .ok (.if_icmp .ge 22, 3) := by decide +kernel
theorem d12_13 : decode prog_22_method_2_code 13 = .ok (.aload_n 3, 1) := by decide +kernel
theorem d12_14 : decode prog_22_method_2_code 14 = .ok (.iload 4, 2) := by decide +kernel
theorem d12_16 : decode prog_22_method_2_code 16 = .ok (.lload_n 0, 1) := by decide +kernel
theorem d12_17 : decode prog_22_method_2_code 17 = .ok (.bipush 8, 2) := by decide +kernel
theorem d12_19 : decode prog_22_method_2_code 19 = .ok (.iload 4, 2) := by decide +kernel
theorem d12_21 : decode prog_22_method_2_code 21 = .ok (.imul, 1) := by decide +kernel
theorem d12_22 : decode prog_22_method_2_code 22 = .ok (.lushr, 1) := by decide +kernel
theorem d12_23 : decode prog_22_method_2_code 23 = .ok (.l2i, 1) := by decide +kernel
theorem d12_24 : decode prog_22_method_2_code 24 = .ok (.i2b, 1) := by decide +kernel
theorem d12_25 : decode prog_22_method_2_code 25 = .ok (.bastore, 1) := by decide +kernel
theorem d12_26 : decode prog_22_method_2_code 26 = .ok (.iinc 4 1, 3) := by decide +kernel
theorem d12_29 : decode prog_22_method_2_code 29 = .ok (.goto (-22), 3) := by decide +kernel
theorem d12_32 : decode prog_22_method_2_code 32 = .ok (.aload_n 3, 1) := by decide +kernel
theorem d12_33 : decode prog_22_method_2_code 33 = .ok (.areturn, 1) := by decide +kernel
theorem own_pn_12 : plainName "com/example/kern_tablet/kerntablet/schema/IntegerHandler" = true := by first | (simp [plainName, overriddenIn]; done) | decide +kernel
theorem own_ef_12 (m : MethodId) (q1 : Int64) : entryFrame m #[(.long q1), (.int (2 : Int32))] 5 = mkF m 0 #[.val (.long q1), .second, .val (.int (2 : Int32)), .unset, .unset] [] := by first | (simp [entryFrame, mkF, argsToLocals, Value.category]; done) | rfl
abbrev own_R12 : Room := { frames := 0, cells := 1, slots := 2, locals := 0 }
def own_Q12 (Z : State) (q1 : Int64) (h0 : Heap) (n0 : Nat) (v : Option Value) (h : Heap) (L : List Loc) : Prop := ∃ b : Addr, v = some (.ref b) ∧ Fr n0 L ∧ Keep h0 h [] ∧ n0 ≤ b ∧ own_AI Z h b .byte 2 (own_b q1)
set_option maxRecDepth 65536 in
set_option maxHeartbeats 40000000 in
theorem rm12 (l : Launch) (Z : State) (a0 : Array Value) (hw : ∀ d ∈ tables_1, d.before a0 Z = true) (ws : List Jvm.Cond) (q1 : Int64) (h0 : Heap) (n0 : Nat) (Z0 : n0 ≤ h0.size) :
    MetFree l (⟨"com/example/kern_tablet/kerntablet/schema/IntegerHandler", "littleEndian", "(JI)[B"⟩ : MethodName) (head1 (Jvm.Cond.code (⟨"com/example/kern_tablet/kerntablet/schema/IntegerHandler", "littleEndian", "(JI)[B"⟩ : MethodName) prog_22_method_2_code 5 (some (.array .byte)) :: ws) own_R12) (fun a U => a = #[(.long q1), (.int (2 : Int32))] ∧ Z.Warmed39 U.vm ∧ U.heap = h0) (fun _ _ _ _ _ => True) (fun _ U o U' => ∃ v L, o = .returned v ∧ own_Q12 Z q1 h0 n0 v U'.heap L ∧ FrameEnd U o U' L own_R12.cells own_R12.slots) := by
  refine MetFree.of_bodySF (plainFor_of_name own_pn_12) hisR ?_
  intro p e s m args below meth c s₁ Bd hml0 hP hK
  obtain ⟨rfl, hZ, hh⟩ := hP
  have hx := Bd.exec
  have hby := Bd.bytes
  have hlk := BodyLoose.notSynchronized Bd
  have hml : c.maxLocals = 5 := hml0
  have hown : s.vm.findClass "com/example/kern_tablet/kerntablet/schema/IntegerHandler" = some m.cls := (findClass_of_methodNamed Bd.named : s.vm.findClass (⟨"com/example/kern_tablet/kerntablet/schema/IntegerHandler", "littleEndian", "(JI)[B"⟩ : MethodName).cls = some m.cls)
  have hnm := (name_of_methodNamed Bd.named Bd.method).1
  have X0 : Stand p l e own_R12 s m #[(.long q1), (.int (2 : Int32))] below meth c s₁ [] 0 0 := Stand.of_body Bd
  have e0 : s₁.heap = h0 := by rw [← hh, Bd.state]; rfl
  have Nf := Fr.nil n0
  have Zs := Z0
  have K : Keep h0 h0 [] := Keep.refl _ _
  show own_Fin p e below s (own_Q12 Z q1 h0 n0) 1 2 s₁ (entryFrame m #[(.long q1), (.int (2 : Int32))] 5)
  rw [own_ef_12 m q1]
  show own_Fin _ _ _ _ _ _ _ _ (mkF m 0 #[.val (.long q1), .second, .val (.int (2 : Int32)), .unset, .unset] [])
  refine own_step (fun t k => XS.iloadN X0.here hx rfl (hb hby d12_0) rfl k) ?_
  show own_Fin _ _ _ _ _ _ _ _ (mkF m 1 #[.val (.long q1), .second, .val (.int (2 : Int32)), .unset, .unset] [(.int (2 : Int32))])
  obtain ⟨T1, h1, k1, X1, e1, E1, A1, st1⟩ := newP X0 hx hZ (hw _ (List.mem_of_getElem? (i := 4) rfl)) e0 (g := (mkF m 1 #[.val (.long q1), .second, .val (.int (2 : Int32)), .unset, .unset] [(.int (2 : Int32))])) rfl (hb hby d12_1) rfl (by decide) (cap := 2) (by decide) (by decide) (by decide) (by decide)
  obtain ⟨b1, g1⟩ : ∃ z, z = h0.size := ⟨_, rfl⟩
  rw [← g1] at A1 st1
  refine own_step st1 ?_
  have g_b1 : n0 ≤ b1 := Nat.le_trans Zs (Nat.le_of_eq g1.symm)
  have sz_b1 : h0.size ≤ b1 := Nat.le_trans K.1 (Nat.le_of_eq g1.symm)
  replace Zs := Nat.le_trans Zs E1.1
  replace K := K.ext E1
  have V_b1 := own_AI.newB (n := 2) A1 (by decide)
  show own_Fin _ _ _ _ _ _ _ _ (mkF m 3 #[.val (.long q1), .second, .val (.int (2 : Int32)), .unset, .unset] [(.ref b1)])
  refine own_step (fun t k => XS.astoreN X1.here hx rfl (hb hby d12_3) rfl rfl (l' := #[.val (.long q1), .second, .val (.int (2 : Int32)), .val (.ref b1), .unset]) rfl k) ?_
  show own_Fin _ _ _ _ _ _ _ _ (mkF m 4 #[.val (.long q1), .second, .val (.int (2 : Int32)), .val (.ref b1), .unset] [])
  refine own_step (fun t k => XS.iconst X1.here hx rfl (hb hby d12_4) k) ?_
  show own_Fin _ _ _ _ _ _ _ _ (mkF m 5 #[.val (.long q1), .second, .val (.int (2 : Int32)), .val (.ref b1), .unset] [(.int (0 : Int32))])
  refine own_step (fun t k => XS.istore X1.here hx rfl (hb hby d12_5) rfl (l' := #[.val (.long q1), .second, .val (.int (2 : Int32)), .val (.ref b1), .val (.int (0 : Int32))]) rfl k) ?_
  show own_Fin _ _ _ _ _ _ _ _ (mkF m 7 #[.val (.long q1), .second, .val (.int (2 : Int32)), .val (.ref b1), .val (.int (0 : Int32))] [])
  refine own_step (fun t k => XS.iload X1.here hx rfl (hb hby d12_7) rfl k) ?_
  show own_Fin _ _ _ _ _ _ _ _ (mkF m 9 #[.val (.long q1), .second, .val (.int (2 : Int32)), .val (.ref b1), .val (.int (0 : Int32))] [(.int (0 : Int32))])
  refine own_step (fun t k => XS.iloadN X1.here hx rfl (hb hby d12_9) rfl k) ?_
  show own_Fin _ _ _ _ _ _ _ _ (mkF m 10 #[.val (.long q1), .second, .val (.int (2 : Int32)), .val (.ref b1), .val (.int (0 : Int32))] [(.int (2 : Int32)), (.int (0 : Int32))])
  refine own_step (fun t k => XS.icmpNo X1.here hx rfl (hb hby d12_10) rfl (by decide) k) ?_
  show own_Fin _ _ _ _ _ _ _ _ (mkF m 13 #[.val (.long q1), .second, .val (.int (2 : Int32)), .val (.ref b1), .val (.int (0 : Int32))] [])
  refine own_step (fun t k => XS.aloadN X1.here hx rfl (hb hby d12_13) rfl rfl k) ?_
  show own_Fin _ _ _ _ _ _ _ _ (mkF m 14 #[.val (.long q1), .second, .val (.int (2 : Int32)), .val (.ref b1), .val (.int (0 : Int32))] [(.ref b1)])
  refine own_step (fun t k => XS.iload X1.here hx rfl (hb hby d12_14) rfl k) ?_
  show own_Fin _ _ _ _ _ _ _ _ (mkF m 16 #[.val (.long q1), .second, .val (.int (2 : Int32)), .val (.ref b1), .val (.int (0 : Int32))] [(.int (0 : Int32)), (.ref b1)])
  refine own_step (fun t k => XS.lloadN X1.here hx rfl (hb hby d12_16) rfl k) ?_
  show own_Fin _ _ _ _ _ _ _ _ (mkF m 17 #[.val (.long q1), .second, .val (.int (2 : Int32)), .val (.ref b1), .val (.int (0 : Int32))] [(.long q1), (.int (0 : Int32)), (.ref b1)])
  refine own_step (fun t k => XS.bipush X1.here hx rfl (hb hby d12_17) k) ?_
  show own_Fin _ _ _ _ _ _ _ _ (mkF m 19 #[.val (.long q1), .second, .val (.int (2 : Int32)), .val (.ref b1), .val (.int (0 : Int32))] [(.int (8 : Int32)), (.long q1), (.int (0 : Int32)), (.ref b1)])
  refine own_step (fun t k => XS.iload X1.here hx rfl (hb hby d12_19) rfl k) ?_
  show own_Fin _ _ _ _ _ _ _ _ (mkF m 21 #[.val (.long q1), .second, .val (.int (2 : Int32)), .val (.ref b1), .val (.int (0 : Int32))] [(.int (0 : Int32)), (.int (8 : Int32)), (.long q1), (.int (0 : Int32)), (.ref b1)])
  refine own_step (fun t k => XS.imul X1.here hx rfl (hb hby d12_21) rfl k) ?_
  show own_Fin _ _ _ _ _ _ _ _ (mkF m 22 #[.val (.long q1), .second, .val (.int (2 : Int32)), .val (.ref b1), .val (.int (0 : Int32))] [(.int (0 : Int32)), (.long q1), (.int (0 : Int32)), (.ref b1)])
  refine own_step (fun t k => XS.lushr X1.here hx rfl (hb hby d12_22) rfl k) ?_
  show own_Fin _ _ _ _ _ _ _ _ (mkF m 23 #[.val (.long q1), .second, .val (.int (2 : Int32)), .val (.ref b1), .val (.int (0 : Int32))] [(.long ((q1.toUInt64 >>> ((0 : Int32) &&& 0x3f).toInt64.toUInt64).toInt64)), (.int (0 : Int32)), (.ref b1)])
  refine own_step (fun t k => XS.l2i X1.here hx rfl (hb hby d12_23) rfl k) ?_
  show own_Fin _ _ _ _ _ _ _ _ (mkF m 24 #[.val (.long q1), .second, .val (.int (2 : Int32)), .val (.ref b1), .val (.int (0 : Int32))] [(.int (((q1.toUInt64 >>> ((0 : Int32) &&& 0x3f).toInt64.toUInt64).toInt64).toInt32)), (.int (0 : Int32)), (.ref b1)])
  refine own_step (fun t k => XS.i2b X1.here hx rfl (hb hby d12_24) rfl k) ?_
  show own_Fin _ _ _ _ _ _ _ _ (mkF m 25 #[.val (.long q1), .second, .val (.int (2 : Int32)), .val (.ref b1), .val (.int (0 : Int32))] [(.int ((((q1.toUInt64 >>> ((0 : Int32) &&& 0x3f).toInt64.toUInt64).toInt64).toInt32).toInt8.toInt32)), (.int (0 : Int32)), (.ref b1)])
  obtain ⟨T2, h2, X2, e2, W2, B2, st2⟩ := own_bastore X1 hx hZ e1 V_b1 (j := (0 : Int32)) (k := 0) rfl (by decide) (own_nar8 _) (x := ((((q1.toUInt64 >>> ((0 : Int32) &&& 0x3f).toInt64.toUInt64).toInt64).toInt32).toInt8.toInt32)) (pc := 25) (Ls := #[.val (.long q1), .second, .val (.int (2 : Int32)), .val (.ref b1), .val (.int (0 : Int32))]) (rest := []) (hb hby d12_25) rfl
  refine own_step st2 ?_
  replace Zs : n0 ≤ h2.size := by rw [W2.size]; exact Zs
  replace K := K.wr W2 (Or.inr sz_b1)
  replace V_b1 := B2
  replace Nf := Fr.snoc X2 Nf g_b1
  show own_Fin _ _ _ _ _ _ _ _ (mkF m 26 #[.val (.long q1), .second, .val (.int (2 : Int32)), .val (.ref b1), .val (.int (0 : Int32))] [])
  refine own_step (fun t k => XS.iinc X2.here hx rfl (hb hby d12_26) rfl (l' := #[.val (.long q1), .second, .val (.int (2 : Int32)), .val (.ref b1), .val (.int (1 : Int32))]) rfl k) ?_
  show own_Fin _ _ _ _ _ _ _ _ (mkF m 29 #[.val (.long q1), .second, .val (.int (2 : Int32)), .val (.ref b1), .val (.int (1 : Int32))] [])
  refine own_step (fun t k => XS.goto X2.here hx rfl (pc0 := 29) (pc' := 7) rfl (hb hby d12_29) (by decide) (by decide) k) ?_
  show own_Fin _ _ _ _ _ _ _ _ (mkF m 7 #[.val (.long q1), .second, .val (.int (2 : Int32)), .val (.ref b1), .val (.int (1 : Int32))] [])
  refine own_step (fun t k => XS.iload X2.here hx rfl (hb hby d12_7) rfl k) ?_
  show own_Fin _ _ _ _ _ _ _ _ (mkF m 9 #[.val (.long q1), .second, .val (.int (2 : Int32)), .val (.ref b1), .val (.int (1 : Int32))] [(.int (1 : Int32))])
  refine own_step (fun t k => XS.iloadN X2.here hx rfl (hb hby d12_9) rfl k) ?_
  show own_Fin _ _ _ _ _ _ _ _ (mkF m 10 #[.val (.long q1), .second, .val (.int (2 : Int32)), .val (.ref b1), .val (.int (1 : Int32))] [(.int (2 : Int32)), (.int (1 : Int32))])
  refine own_step (fun t k => XS.icmpNo X2.here hx rfl (hb hby d12_10) rfl (by decide) k) ?_
  show own_Fin _ _ _ _ _ _ _ _ (mkF m 13 #[.val (.long q1), .second, .val (.int (2 : Int32)), .val (.ref b1), .val (.int (1 : Int32))] [])
  refine own_step (fun t k => XS.aloadN X2.here hx rfl (hb hby d12_13) rfl rfl k) ?_
  show own_Fin _ _ _ _ _ _ _ _ (mkF m 14 #[.val (.long q1), .second, .val (.int (2 : Int32)), .val (.ref b1), .val (.int (1 : Int32))] [(.ref b1)])
  refine own_step (fun t k => XS.iload X2.here hx rfl (hb hby d12_14) rfl k) ?_
  show own_Fin _ _ _ _ _ _ _ _ (mkF m 16 #[.val (.long q1), .second, .val (.int (2 : Int32)), .val (.ref b1), .val (.int (1 : Int32))] [(.int (1 : Int32)), (.ref b1)])
  refine own_step (fun t k => XS.lloadN X2.here hx rfl (hb hby d12_16) rfl k) ?_
  show own_Fin _ _ _ _ _ _ _ _ (mkF m 17 #[.val (.long q1), .second, .val (.int (2 : Int32)), .val (.ref b1), .val (.int (1 : Int32))] [(.long q1), (.int (1 : Int32)), (.ref b1)])
  refine own_step (fun t k => XS.bipush X2.here hx rfl (hb hby d12_17) k) ?_
  show own_Fin _ _ _ _ _ _ _ _ (mkF m 19 #[.val (.long q1), .second, .val (.int (2 : Int32)), .val (.ref b1), .val (.int (1 : Int32))] [(.int (8 : Int32)), (.long q1), (.int (1 : Int32)), (.ref b1)])
  refine own_step (fun t k => XS.iload X2.here hx rfl (hb hby d12_19) rfl k) ?_
  show own_Fin _ _ _ _ _ _ _ _ (mkF m 21 #[.val (.long q1), .second, .val (.int (2 : Int32)), .val (.ref b1), .val (.int (1 : Int32))] [(.int (1 : Int32)), (.int (8 : Int32)), (.long q1), (.int (1 : Int32)), (.ref b1)])
  refine own_step (fun t k => XS.imul X2.here hx rfl (hb hby d12_21) rfl k) ?_
  show own_Fin _ _ _ _ _ _ _ _ (mkF m 22 #[.val (.long q1), .second, .val (.int (2 : Int32)), .val (.ref b1), .val (.int (1 : Int32))] [(.int (8 : Int32)), (.long q1), (.int (1 : Int32)), (.ref b1)])
  refine own_step (fun t k => XS.lushr X2.here hx rfl (hb hby d12_22) rfl k) ?_
  show own_Fin _ _ _ _ _ _ _ _ (mkF m 23 #[.val (.long q1), .second, .val (.int (2 : Int32)), .val (.ref b1), .val (.int (1 : Int32))] [(.long ((q1.toUInt64 >>> ((8 : Int32) &&& 0x3f).toInt64.toUInt64).toInt64)), (.int (1 : Int32)), (.ref b1)])
  refine own_step (fun t k => XS.l2i X2.here hx rfl (hb hby d12_23) rfl k) ?_
  show own_Fin _ _ _ _ _ _ _ _ (mkF m 24 #[.val (.long q1), .second, .val (.int (2 : Int32)), .val (.ref b1), .val (.int (1 : Int32))] [(.int (((q1.toUInt64 >>> ((8 : Int32) &&& 0x3f).toInt64.toUInt64).toInt64).toInt32)), (.int (1 : Int32)), (.ref b1)])
  refine own_step (fun t k => XS.i2b X2.here hx rfl (hb hby d12_24) rfl k) ?_
  show own_Fin _ _ _ _ _ _ _ _ (mkF m 25 #[.val (.long q1), .second, .val (.int (2 : Int32)), .val (.ref b1), .val (.int (1 : Int32))] [(.int ((((q1.toUInt64 >>> ((8 : Int32) &&& 0x3f).toInt64.toUInt64).toInt64).toInt32).toInt8.toInt32)), (.int (1 : Int32)), (.ref b1)])
  obtain ⟨T3, h3, X3, e3, W3, B3, st3⟩ := own_bastore X2 hx hZ e2 V_b1 (j := (1 : Int32)) (k := 1) rfl (by decide) (own_nar8 _) (x := ((((q1.toUInt64 >>> ((8 : Int32) &&& 0x3f).toInt64.toUInt64).toInt64).toInt32).toInt8.toInt32)) (pc := 25) (Ls := #[.val (.long q1), .second, .val (.int (2 : Int32)), .val (.ref b1), .val (.int (1 : Int32))]) (rest := []) (hb hby d12_25) rfl
  refine own_step st3 ?_
  replace Zs : n0 ≤ h3.size := by rw [W3.size]; exact Zs
  replace K := K.wr W3 (Or.inr sz_b1)
  replace V_b1 := B3
  replace Nf := Fr.snoc X3 Nf g_b1
  show own_Fin _ _ _ _ _ _ _ _ (mkF m 26 #[.val (.long q1), .second, .val (.int (2 : Int32)), .val (.ref b1), .val (.int (1 : Int32))] [])
  refine own_step (fun t k => XS.iinc X3.here hx rfl (hb hby d12_26) rfl (l' := #[.val (.long q1), .second, .val (.int (2 : Int32)), .val (.ref b1), .val (.int (2 : Int32))]) rfl k) ?_
  show own_Fin _ _ _ _ _ _ _ _ (mkF m 29 #[.val (.long q1), .second, .val (.int (2 : Int32)), .val (.ref b1), .val (.int (2 : Int32))] [])
  refine own_step (fun t k => XS.goto X3.here hx rfl (pc0 := 29) (pc' := 7) rfl (hb hby d12_29) (by decide) (by decide) k) ?_
  show own_Fin _ _ _ _ _ _ _ _ (mkF m 7 #[.val (.long q1), .second, .val (.int (2 : Int32)), .val (.ref b1), .val (.int (2 : Int32))] [])
  refine own_step (fun t k => XS.iload X3.here hx rfl (hb hby d12_7) rfl k) ?_
  show own_Fin _ _ _ _ _ _ _ _ (mkF m 9 #[.val (.long q1), .second, .val (.int (2 : Int32)), .val (.ref b1), .val (.int (2 : Int32))] [(.int (2 : Int32))])
  refine own_step (fun t k => XS.iloadN X3.here hx rfl (hb hby d12_9) rfl k) ?_
  show own_Fin _ _ _ _ _ _ _ _ (mkF m 10 #[.val (.long q1), .second, .val (.int (2 : Int32)), .val (.ref b1), .val (.int (2 : Int32))] [(.int (2 : Int32)), (.int (2 : Int32))])
  refine own_step (fun t k => XS.icmpYes X3.here hx rfl (pc0 := 10) (pc' := 32) rfl (hb hby d12_10) rfl (by decide) (by decide) (by decide) k) ?_
  show own_Fin _ _ _ _ _ _ _ _ (mkF m 32 #[.val (.long q1), .second, .val (.int (2 : Int32)), .val (.ref b1), .val (.int (2 : Int32))] [])
  refine own_step (fun t k => XS.aloadN X3.here hx rfl (hb hby d12_32) rfl rfl k) ?_
  show own_Fin _ _ _ _ _ _ _ _ (mkF m 33 #[.val (.long q1), .second, .val (.int (2 : Int32)), .val (.ref b1), .val (.int (2 : Int32))] [(.ref b1)])
  refine own_retR X3 hx hlk Bd.returns rfl rfl (hb hby d12_33) (by decide) (by decide) e3 ?_
  exact ⟨b1, rfl, Nf, K, g_b1, V_b1.congr (by intro i hi; rcases own_lt2 hi with rfl | rfl <;> rfl)⟩
theorem own_lt3 {i : Nat} (h : i < 3) : i = 0 ∨ i = 1 ∨ i = 2 := by omega
theorem d13_0 : decode prog_22_method_2_code 0 = .ok (.iload_n 2, 1) := by decide +kernel
theorem d13_1 : decode prog_22_method_2_code 1 = .ok (.newarray .byte, 2) := by decide +kernel
theorem d13_3 : decode prog_22_method_2_code 3 = .ok (.astore_n 3, 1) := by decide +kernel
theorem d13_4 : decode prog_22_method_2_code 4 = .ok (.iconst 0, 1) := by decide +kernel
theorem d13_5 : decode prog_22_method_2_code 5 = .ok (.istore 4, 2) := by decide +kernel
theorem d13_7 : decode prog_22_method_2_code 7 = .ok (.iload 4, 2) := by decide +kernel
theorem d13_9 : decode prog_22_method_2_code 9 = .ok (.iload_n 2, 1) := by decide +kernel
theorem d13_10 : decode prog_22_method_2_code 10 = .ok (.if_icmp .ge 22, 3) := by decide +kernel
theorem d13_13 : decode prog_22_method_2_code 13 = .ok (.aload_n 3, 1) := by decide +kernel
theorem d13_14 : decode prog_22_method_2_code 14 = .ok (.iload 4, 2) := by decide +kernel
theorem d13_16 : decode prog_22_method_2_code 16 = .ok (.lload_n 0, 1) := by decide +kernel
theorem d13_17 : decode prog_22_method_2_code 17 = .ok (.bipush 8, 2) := by decide +kernel
theorem d13_19 : decode prog_22_method_2_code 19 = .ok (.iload 4, 2) := by decide +kernel
theorem d13_21 : decode prog_22_method_2_code 21 = .ok (.imul, 1) := by decide +kernel
theorem d13_22 : decode prog_22_method_2_code 22 = .ok (.lushr, 1) := by decide +kernel
theorem d13_23 : decode prog_22_method_2_code 23 = .ok (.l2i, 1) := by decide +kernel
theorem d13_24 : decode prog_22_method_2_code 24 = .ok (.i2b, 1) := by decide +kernel
theorem d13_25 : decode prog_22_method_2_code 25 = .ok (.bastore, 1) := by decide +kernel
theorem d13_26 : decode prog_22_method_2_code 26 = .ok (.iinc 4 1, 3) := by decide +kernel
theorem d13_29 : decode prog_22_method_2_code 29 = .ok (.goto (-22), 3) := by decide +kernel
theorem d13_32 : decode prog_22_method_2_code 32 = .ok (.aload_n 3, 1) := by decide +kernel
theorem d13_33 : decode prog_22_method_2_code 33 = .ok (.areturn, 1) := by decide +kernel
theorem own_pn_13 : plainName "com/example/kern_tablet/kerntablet/schema/IntegerHandler" = true := by first | (simp [plainName, overriddenIn]; done) | decide +kernel
theorem own_ef_13 (m : MethodId) (q1 : Int64) : entryFrame m #[(.long q1), (.int (3 : Int32))] 5 = mkF m 0 #[.val (.long q1), .second, .val (.int (3 : Int32)), .unset, .unset] [] := by first | (simp [entryFrame, mkF, argsToLocals, Value.category]; done) | rfl
abbrev own_R13 : Room := { frames := 0, cells := 1, slots := 3, locals := 0 }
def own_Q13 (Z : State) (q1 : Int64) (h0 : Heap) (n0 : Nat) (v : Option Value) (h : Heap) (L : List Loc) : Prop := ∃ b : Addr, v = some (.ref b) ∧ Fr n0 L ∧ Keep h0 h [] ∧ n0 ≤ b ∧ own_AI Z h b .byte 3 (own_b q1)
set_option maxRecDepth 65536 in
set_option maxHeartbeats 40000000 in
theorem rm13 (l : Launch) (Z : State) (a0 : Array Value) (hw : ∀ d ∈ tables_1, d.before a0 Z = true) (ws : List Jvm.Cond) (q1 : Int64) (h0 : Heap) (n0 : Nat) (Z0 : n0 ≤ h0.size) :
    MetFree l (⟨"com/example/kern_tablet/kerntablet/schema/IntegerHandler", "littleEndian", "(JI)[B"⟩ : MethodName) (head1 (Jvm.Cond.code (⟨"com/example/kern_tablet/kerntablet/schema/IntegerHandler", "littleEndian", "(JI)[B"⟩ : MethodName) prog_22_method_2_code 5 (some (.array .byte)) :: ws) own_R13) (fun a U => a = #[(.long q1), (.int (3 : Int32))] ∧ Z.Warmed39 U.vm ∧ U.heap = h0) (fun _ _ _ _ _ => True) (fun _ U o U' => ∃ v L, o = .returned v ∧ own_Q13 Z q1 h0 n0 v U'.heap L ∧ FrameEnd U o U' L own_R13.cells own_R13.slots) := by
  refine MetFree.of_bodySF (plainFor_of_name own_pn_13) hisR ?_
  intro p e s m args below meth c s₁ Bd hml0 hP hK
  obtain ⟨rfl, hZ, hh⟩ := hP
  have hx := Bd.exec
  have hby := Bd.bytes
  have hlk := BodyLoose.notSynchronized Bd
  have hml : c.maxLocals = 5 := hml0
  have hown : s.vm.findClass "com/example/kern_tablet/kerntablet/schema/IntegerHandler" = some m.cls := (findClass_of_methodNamed Bd.named : s.vm.findClass (⟨"com/example/kern_tablet/kerntablet/schema/IntegerHandler", "littleEndian", "(JI)[B"⟩ : MethodName).cls = some m.cls)
  have hnm := (name_of_methodNamed Bd.named Bd.method).1
  have X0 : Stand p l e own_R13 s m #[(.long q1), (.int (3 : Int32))] below meth c s₁ [] 0 0 := Stand.of_body Bd
  have e0 : s₁.heap = h0 := by rw [← hh, Bd.state]; rfl
  have Nf := Fr.nil n0
  have Zs := Z0
  have K : Keep h0 h0 [] := Keep.refl _ _
  show own_Fin p e below s (own_Q13 Z q1 h0 n0) 1 3 s₁ (entryFrame m #[(.long q1), (.int (3 : Int32))] 5)
  rw [own_ef_13 m q1]
  show own_Fin _ _ _ _ _ _ _ _ (mkF m 0 #[.val (.long q1), .second, .val (.int (3 : Int32)), .unset, .unset] [])
  refine own_step (fun t k => XS.iloadN X0.here hx rfl (hb hby d13_0) rfl k) ?_
  show own_Fin _ _ _ _ _ _ _ _ (mkF m 1 #[.val (.long q1), .second, .val (.int (3 : Int32)), .unset, .unset] [(.int (3 : Int32))])
  obtain ⟨T1, h1, k1, X1, e1, E1, A1, st1⟩ := newP X0 hx hZ (hw _ (List.mem_of_getElem? (i := 4) rfl)) e0 (g := (mkF m 1 #[.val (.long q1), .second, .val (.int (3 : Int32)), .unset, .unset] [(.int (3 : Int32))])) rfl (hb hby d13_1) rfl (by decide) (cap := 3) (by decide) (by decide) (by decide) (by decide)
  obtain ⟨b1, g1⟩ : ∃ z, z = h0.size := ⟨_, rfl⟩
  rw [← g1] at A1 st1
  refine own_step st1 ?_
  have g_b1 : n0 ≤ b1 := Nat.le_trans Zs (Nat.le_of_eq g1.symm)
  have sz_b1 : h0.size ≤ b1 := Nat.le_trans K.1 (Nat.le_of_eq g1.symm)
  replace Zs := Nat.le_trans Zs E1.1
  replace K := K.ext E1
  have V_b1 := own_AI.newB (n := 3) A1 (by decide)
  show own_Fin _ _ _ _ _ _ _ _ (mkF m 3 #[.val (.long q1), .second, .val (.int (3 : Int32)), .unset, .unset] [(.ref b1)])
  refine own_step (fun t k => XS.astoreN X1.here hx rfl (hb hby d13_3) rfl rfl (l' := #[.val (.long q1), .second, .val (.int (3 : Int32)), .val (.ref b1), .unset]) rfl k) ?_
  show own_Fin _ _ _ _ _ _ _ _ (mkF m 4 #[.val (.long q1), .second, .val (.int (3 : Int32)), .val (.ref b1), .unset] [])
  refine own_step (fun t k => XS.iconst X1.here hx rfl (hb hby d13_4) k) ?_
  show own_Fin _ _ _ _ _ _ _ _ (mkF m 5 #[.val (.long q1), .second, .val (.int (3 : Int32)), .val (.ref b1), .unset] [(.int (0 : Int32))])
  refine own_step (fun t k => XS.istore X1.here hx rfl (hb hby d13_5) rfl (l' := #[.val (.long q1), .second, .val (.int (3 : Int32)), .val (.ref b1), .val (.int (0 : Int32))]) rfl k) ?_
  show own_Fin _ _ _ _ _ _ _ _ (mkF m 7 #[.val (.long q1), .second, .val (.int (3 : Int32)), .val (.ref b1), .val (.int (0 : Int32))] [])
  refine own_step (fun t k => XS.iload X1.here hx rfl (hb hby d13_7) rfl k) ?_
  show own_Fin _ _ _ _ _ _ _ _ (mkF m 9 #[.val (.long q1), .second, .val (.int (3 : Int32)), .val (.ref b1), .val (.int (0 : Int32))] [(.int (0 : Int32))])
  refine own_step (fun t k => XS.iloadN X1.here hx rfl (hb hby d13_9) rfl k) ?_
  show own_Fin _ _ _ _ _ _ _ _ (mkF m 10 #[.val (.long q1), .second, .val (.int (3 : Int32)), .val (.ref b1), .val (.int (0 : Int32))] [(.int (3 : Int32)), (.int (0 : Int32))])
  refine own_step (fun t k => XS.icmpNo X1.here hx rfl (hb hby d13_10) rfl (by decide) k) ?_
  show own_Fin _ _ _ _ _ _ _ _ (mkF m 13 #[.val (.long q1), .second, .val (.int (3 : Int32)), .val (.ref b1), .val (.int (0 : Int32))] [])
  refine own_step (fun t k => XS.aloadN X1.here hx rfl (hb hby d13_13) rfl rfl k) ?_
  show own_Fin _ _ _ _ _ _ _ _ (mkF m 14 #[.val (.long q1), .second, .val (.int (3 : Int32)), .val (.ref b1), .val (.int (0 : Int32))] [(.ref b1)])
  refine own_step (fun t k => XS.iload X1.here hx rfl (hb hby d13_14) rfl k) ?_
  show own_Fin _ _ _ _ _ _ _ _ (mkF m 16 #[.val (.long q1), .second, .val (.int (3 : Int32)), .val (.ref b1), .val (.int (0 : Int32))] [(.int (0 : Int32)), (.ref b1)])
  refine own_step (fun t k => XS.lloadN X1.here hx rfl (hb hby d13_16) rfl k) ?_
  show own_Fin _ _ _ _ _ _ _ _ (mkF m 17 #[.val (.long q1), .second, .val (.int (3 : Int32)), .val (.ref b1), .val (.int (0 : Int32))] [(.long q1), (.int (0 : Int32)), (.ref b1)])
  refine own_step (fun t k => XS.bipush X1.here hx rfl (hb hby d13_17) k) ?_
  show own_Fin _ _ _ _ _ _ _ _ (mkF m 19 #[.val (.long q1), .second, .val (.int (3 : Int32)), .val (.ref b1), .val (.int (0 : Int32))] [(.int (8 : Int32)), (.long q1), (.int (0 : Int32)), (.ref b1)])
  refine own_step (fun t k => XS.iload X1.here hx rfl (hb hby d13_19) rfl k) ?_
  show own_Fin _ _ _ _ _ _ _ _ (mkF m 21 #[.val (.long q1), .second, .val (.int (3 : Int32)), .val (.ref b1), .val (.int (0 : Int32))] [(.int (0 : Int32)), (.int (8 : Int32)), (.long q1), (.int (0 : Int32)), (.ref b1)])
  refine own_step (fun t k => XS.imul X1.here hx rfl (hb hby d13_21) rfl k) ?_
  show own_Fin _ _ _ _ _ _ _ _ (mkF m 22 #[.val (.long q1), .second, .val (.int (3 : Int32)), .val (.ref b1), .val (.int (0 : Int32))] [(.int (0 : Int32)), (.long q1), (.int (0 : Int32)), (.ref b1)])
  refine own_step (fun t k => XS.lushr X1.here hx rfl (hb hby d13_22) rfl k) ?_
  show own_Fin _ _ _ _ _ _ _ _ (mkF m 23 #[.val (.long q1), .second, .val (.int (3 : Int32)), .val (.ref b1), .val (.int (0 : Int32))] [(.long ((q1.toUInt64 >>> ((0 : Int32) &&& 0x3f).toInt64.toUInt64).toInt64)), (.int (0 : Int32)), (.ref b1)])
  refine own_step (fun t k => XS.l2i X1.here hx rfl (hb hby d13_23) rfl k) ?_
  show own_Fin _ _ _ _ _ _ _ _ (mkF m 24 #[.val (.long q1), .second, .val (.int (3 : Int32)), .val (.ref b1), .val (.int (0 : Int32))] [(.int (((q1.toUInt64 >>> ((0 : Int32) &&& 0x3f).toInt64.toUInt64).toInt64).toInt32)), (.int (0 : Int32)), (.ref b1)])
  refine own_step (fun t k => XS.i2b X1.here hx rfl (hb hby d13_24) rfl k) ?_
  show own_Fin _ _ _ _ _ _ _ _ (mkF m 25 #[.val (.long q1), .second, .val (.int (3 : Int32)), .val (.ref b1), .val (.int (0 : Int32))] [(.int ((((q1.toUInt64 >>> ((0 : Int32) &&& 0x3f).toInt64.toUInt64).toInt64).toInt32).toInt8.toInt32)), (.int (0 : Int32)), (.ref b1)])
  obtain ⟨T2, h2, X2, e2, W2, B2, st2⟩ := own_bastore X1 hx hZ e1 V_b1 (j := (0 : Int32)) (k := 0) rfl (by decide) (own_nar8 _) (x := ((((q1.toUInt64 >>> ((0 : Int32) &&& 0x3f).toInt64.toUInt64).toInt64).toInt32).toInt8.toInt32)) (pc := 25) (Ls := #[.val (.long q1), .second, .val (.int (3 : Int32)), .val (.ref b1), .val (.int (0 : Int32))]) (rest := []) (hb hby d13_25) rfl
  refine own_step st2 ?_
  replace Zs : n0 ≤ h2.size := by rw [W2.size]; exact Zs
  replace K := K.wr W2 (Or.inr sz_b1)
  replace V_b1 := B2
  replace Nf := Fr.snoc X2 Nf g_b1
  show own_Fin _ _ _ _ _ _ _ _ (mkF m 26 #[.val (.long q1), .second, .val (.int (3 : Int32)), .val (.ref b1), .val (.int (0 : Int32))] [])
  refine own_step (fun t k => XS.iinc X2.here hx rfl (hb hby d13_26) rfl (l' := #[.val (.long q1), .second, .val (.int (3 : Int32)), .val (.ref b1), .val (.int (1 : Int32))]) rfl k) ?_
  show own_Fin _ _ _ _ _ _ _ _ (mkF m 29 #[.val (.long q1), .second, .val (.int (3 : Int32)), .val (.ref b1), .val (.int (1 : Int32))] [])
  refine own_step (fun t k => XS.goto X2.here hx rfl (pc0 := 29) (pc' := 7) rfl (hb hby d13_29) (by decide) (by decide) k) ?_
  show own_Fin _ _ _ _ _ _ _ _ (mkF m 7 #[.val (.long q1), .second, .val (.int (3 : Int32)), .val (.ref b1), .val (.int (1 : Int32))] [])
  refine own_step (fun t k => XS.iload X2.here hx rfl (hb hby d13_7) rfl k) ?_
  show own_Fin _ _ _ _ _ _ _ _ (mkF m 9 #[.val (.long q1), .second, .val (.int (3 : Int32)), .val (.ref b1), .val (.int (1 : Int32))] [(.int (1 : Int32))])
  refine own_step (fun t k => XS.iloadN X2.here hx rfl (hb hby d13_9) rfl k) ?_
  show own_Fin _ _ _ _ _ _ _ _ (mkF m 10 #[.val (.long q1), .second, .val (.int (3 : Int32)), .val (.ref b1), .val (.int (1 : Int32))] [(.int (3 : Int32)), (.int (1 : Int32))])
  refine own_step (fun t k => XS.icmpNo X2.here hx rfl (hb hby d13_10) rfl (by decide) k) ?_
  show own_Fin _ _ _ _ _ _ _ _ (mkF m 13 #[.val (.long q1), .second, .val (.int (3 : Int32)), .val (.ref b1), .val (.int (1 : Int32))] [])
  refine own_step (fun t k => XS.aloadN X2.here hx rfl (hb hby d13_13) rfl rfl k) ?_
  show own_Fin _ _ _ _ _ _ _ _ (mkF m 14 #[.val (.long q1), .second, .val (.int (3 : Int32)), .val (.ref b1), .val (.int (1 : Int32))] [(.ref b1)])
  refine own_step (fun t k => XS.iload X2.here hx rfl (hb hby d13_14) rfl k) ?_
  show own_Fin _ _ _ _ _ _ _ _ (mkF m 16 #[.val (.long q1), .second, .val (.int (3 : Int32)), .val (.ref b1), .val (.int (1 : Int32))] [(.int (1 : Int32)), (.ref b1)])
  refine own_step (fun t k => XS.lloadN X2.here hx rfl (hb hby d13_16) rfl k) ?_
  show own_Fin _ _ _ _ _ _ _ _ (mkF m 17 #[.val (.long q1), .second, .val (.int (3 : Int32)), .val (.ref b1), .val (.int (1 : Int32))] [(.long q1), (.int (1 : Int32)), (.ref b1)])
  refine own_step (fun t k => XS.bipush X2.here hx rfl (hb hby d13_17) k) ?_
  show own_Fin _ _ _ _ _ _ _ _ (mkF m 19 #[.val (.long q1), .second, .val (.int (3 : Int32)), .val (.ref b1), .val (.int (1 : Int32))] [(.int (8 : Int32)), (.long q1), (.int (1 : Int32)), (.ref b1)])
  refine own_step (fun t k => XS.iload X2.here hx rfl (hb hby d13_19) rfl k) ?_
  show own_Fin _ _ _ _ _ _ _ _ (mkF m 21 #[.val (.long q1), .second, .val (.int (3 : Int32)), .val (.ref b1), .val (.int (1 : Int32))] [(.int (1 : Int32)), (.int (8 : Int32)), (.long q1), (.int (1 : Int32)), (.ref b1)])
  refine own_step (fun t k => XS.imul X2.here hx rfl (hb hby d13_21) rfl k) ?_
  show own_Fin _ _ _ _ _ _ _ _ (mkF m 22 #[.val (.long q1), .second, .val (.int (3 : Int32)), .val (.ref b1), .val (.int (1 : Int32))] [(.int (8 : Int32)), (.long q1), (.int (1 : Int32)), (.ref b1)])
  refine own_step (fun t k => XS.lushr X2.here hx rfl (hb hby d13_22) rfl k) ?_
  show own_Fin _ _ _ _ _ _ _ _ (mkF m 23 #[.val (.long q1), .second, .val (.int (3 : Int32)), .val (.ref b1), .val (.int (1 : Int32))] [(.long ((q1.toUInt64 >>> ((8 : Int32) &&& 0x3f).toInt64.toUInt64).toInt64)), (.int (1 : Int32)), (.ref b1)])
  refine own_step (fun t k => XS.l2i X2.here hx rfl (hb hby d13_23) rfl k) ?_
  show own_Fin _ _ _ _ _ _ _ _ (mkF m 24 #[.val (.long q1), .second, .val (.int (3 : Int32)), .val (.ref b1), .val (.int (1 : Int32))] [(.int (((q1.toUInt64 >>> ((8 : Int32) &&& 0x3f).toInt64.toUInt64).toInt64).toInt32)), (.int (1 : Int32)), (.ref b1)])
  refine own_step (fun t k => XS.i2b X2.here hx rfl (hb hby d13_24) rfl k) ?_
  show own_Fin _ _ _ _ _ _ _ _ (mkF m 25 #[.val (.long q1), .second, .val (.int (3 : Int32)), .val (.ref b1), .val (.int (1 : Int32))] [(.int ((((q1.toUInt64 >>> ((8 : Int32) &&& 0x3f).toInt64.toUInt64).toInt64).toInt32).toInt8.toInt32)), (.int (1 : Int32)), (.ref b1)])
  obtain ⟨T3, h3, X3, e3, W3, B3, st3⟩ := own_bastore X2 hx hZ e2 V_b1 (j := (1 : Int32)) (k := 1) rfl (by decide) (own_nar8 _) (x := ((((q1.toUInt64 >>> ((8 : Int32) &&& 0x3f).toInt64.toUInt64).toInt64).toInt32).toInt8.toInt32)) (pc := 25) (Ls := #[.val (.long q1), .second, .val (.int (3 : Int32)), .val (.ref b1), .val (.int (1 : Int32))]) (rest := []) (hb hby d13_25) rfl
  refine own_step st3 ?_
  replace Zs : n0 ≤ h3.size := by rw [W3.size]; exact Zs
  replace K := K.wr W3 (Or.inr sz_b1)
  replace V_b1 := B3
  replace Nf := Fr.snoc X3 Nf g_b1
  show own_Fin _ _ _ _ _ _ _ _ (mkF m 26 #[.val (.long q1), .second, .val (.int (3 : Int32)), .val (.ref b1), .val (.int (1 : Int32))] [])
  refine own_step (fun t k => XS.iinc X3.here hx rfl (hb hby d13_26) rfl (l' := #[.val (.long q1), .second, .val (.int (3 : Int32)), .val (.ref b1), .val (.int (2 : Int32))]) rfl k) ?_
  show own_Fin _ _ _ _ _ _ _ _ (mkF m 29 #[.val (.long q1), .second, .val (.int (3 : Int32)), .val (.ref b1), .val (.int (2 : Int32))] [])
  refine own_step (fun t k => XS.goto X3.here hx rfl (pc0 := 29) (pc' := 7) rfl (hb hby d13_29) (by decide) (by decide) k) ?_
  show own_Fin _ _ _ _ _ _ _ _ (mkF m 7 #[.val (.long q1), .second, .val (.int (3 : Int32)), .val (.ref b1), .val (.int (2 : Int32))] [])
  refine own_step (fun t k => XS.iload X3.here hx rfl (hb hby d13_7) rfl k) ?_
  show own_Fin _ _ _ _ _ _ _ _ (mkF m 9 #[.val (.long q1), .second, .val (.int (3 : Int32)), .val (.ref b1), .val (.int (2 : Int32))] [(.int (2 : Int32))])
  refine own_step (fun t k => XS.iloadN X3.here hx rfl (hb hby d13_9) rfl k) ?_
  show own_Fin _ _ _ _ _ _ _ _ (mkF m 10 #[.val (.long q1), .second, .val (.int (3 : Int32)), .val (.ref b1), .val (.int (2 : Int32))] [(.int (3 : Int32)), (.int (2 : Int32))])
  refine own_step (fun t k => XS.icmpNo X3.here hx rfl (hb hby d13_10) rfl (by decide) k) ?_
  show own_Fin _ _ _ _ _ _ _ _ (mkF m 13 #[.val (.long q1), .second, .val (.int (3 : Int32)), .val (.ref b1), .val (.int (2 : Int32))] [])
  refine own_step (fun t k => XS.aloadN X3.here hx rfl (hb hby d13_13) rfl rfl k) ?_
  show own_Fin _ _ _ _ _ _ _ _ (mkF m 14 #[.val (.long q1), .second, .val (.int (3 : Int32)), .val (.ref b1), .val (.int (2 : Int32))] [(.ref b1)])
  refine own_step (fun t k => XS.iload X3.here hx rfl (hb hby d13_14) rfl k) ?_
  show own_Fin _ _ _ _ _ _ _ _ (mkF m 16 #[.val (.long q1), .second, .val (.int (3 : Int32)), .val (.ref b1), .val (.int (2 : Int32))] [(.int (2 : Int32)), (.ref b1)])
  refine own_step (fun t k => XS.lloadN X3.here hx rfl (hb hby d13_16) rfl k) ?_
  show own_Fin _ _ _ _ _ _ _ _ (mkF m 17 #[.val (.long q1), .second, .val (.int (3 : Int32)), .val (.ref b1), .val (.int (2 : Int32))] [(.long q1), (.int (2 : Int32)), (.ref b1)])
  refine own_step (fun t k => XS.bipush X3.here hx rfl (hb hby d13_17) k) ?_
  show own_Fin _ _ _ _ _ _ _ _ (mkF m 19 #[.val (.long q1), .second, .val (.int (3 : Int32)), .val (.ref b1), .val (.int (2 : Int32))] [(.int (8 : Int32)), (.long q1), (.int (2 : Int32)), (.ref b1)])
  refine own_step (fun t k => XS.iload X3.here hx rfl (hb hby d13_19) rfl k) ?_
  show own_Fin _ _ _ _ _ _ _ _ (mkF m 21 #[.val (.long q1), .second, .val (.int (3 : Int32)), .val (.ref b1), .val (.int (2 : Int32))] [(.int (2 : Int32)), (.int (8 : Int32)), (.long q1), (.int (2 : Int32)), (.ref b1)])
  refine own_step (fun t k => XS.imul X3.here hx rfl (hb hby d13_21) rfl k) ?_
  show own_Fin _ _ _ _ _ _ _ _ (mkF m 22 #[.val (.long q1), .second, .val (.int (3 : Int32)), .val (.ref b1), .val (.int (2 : Int32))] [(.int (16 : Int32)), (.long q1), (.int (2 : Int32)), (.ref b1)])
  refine own_step (fun t k => XS.lushr X3.here hx rfl (hb hby d13_22) rfl k) ?_
  show own_Fin _ _ _ _ _ _ _ _ (mkF m 23 #[.val (.long q1), .second, .val (.int (3 : Int32)), .val (.ref b1), .val (.int (2 : Int32))] [(.long ((q1.toUInt64 >>> ((16 : Int32) &&& 0x3f).toInt64.toUInt64).toInt64)), (.int (2 : Int32)), (.ref b1)])
  refine own_step (fun t k => XS.l2i X3.here hx rfl (hb hby d13_23) rfl k) ?_
  show own_Fin _ _ _ _ _ _ _ _ (mkF m 24 #[.val (.long q1), .second, .val (.int (3 : Int32)), .val (.ref b1), .val (.int (2 : Int32))] [(.int (((q1.toUInt64 >>> ((16 : Int32) &&& 0x3f).toInt64.toUInt64).toInt64).toInt32)), (.int (2 : Int32)), (.ref b1)])
  refine own_step (fun t k => XS.i2b X3.here hx rfl (hb hby d13_24) rfl k) ?_
  show own_Fin _ _ _ _ _ _ _ _ (mkF m 25 #[.val (.long q1), .second, .val (.int (3 : Int32)), .val (.ref b1), .val (.int (2 : Int32))] [(.int ((((q1.toUInt64 >>> ((16 : Int32) &&& 0x3f).toInt64.toUInt64).toInt64).toInt32).toInt8.toInt32)), (.int (2 : Int32)), (.ref b1)])
  obtain ⟨T4, h4, X4, e4, W4, B4, st4⟩ := own_bastore X3 hx hZ e3 V_b1 (j := (2 : Int32)) (k := 2) rfl (by decide) (own_nar8 _) (x := ((((q1.toUInt64 >>> ((16 : Int32) &&& 0x3f).toInt64.toUInt64).toInt64).toInt32).toInt8.toInt32)) (pc := 25) (Ls := #[.val (.long q1), .second, .val (.int (3 : Int32)), .val (.ref b1), .val (.int (2 : Int32))]) (rest := []) (hb hby d13_25) rfl
  refine own_step st4 ?_
  replace Zs : n0 ≤ h4.size := by rw [W4.size]; exact Zs
  replace K := K.wr W4 (Or.inr sz_b1)
  replace V_b1 := B4
  replace Nf := Fr.snoc X4 Nf g_b1
  show own_Fin _ _ _ _ _ _ _ _ (mkF m 26 #[.val (.long q1), .second, .val (.int (3 : Int32)), .val (.ref b1), .val (.int (2 : Int32))] [])
  refine own_step (fun t k => XS.iinc X4.here hx rfl (hb hby d13_26) rfl (l' := #[.val (.long q1), .second, .val (.int (3 : Int32)), .val (.ref b1), .val (.int (3 : Int32))]) rfl k) ?_
  show own_Fin _ _ _ _ _ _ _ _ (mkF m 29 #[.val (.long q1), .second, .val (.int (3 : Int32)), .val (.ref b1), .val (.int (3 : Int32))] [])
  refine own_step (fun t k => XS.goto X4.here hx rfl (pc0 := 29) (pc' := 7) rfl (hb hby d13_29) (by decide) (by decide) k) ?_
  show own_Fin _ _ _ _ _ _ _ _ (mkF m 7 #[.val (.long q1), .second, .val (.int (3 : Int32)), .val (.ref b1), .val (.int (3 : Int32))] [])
  refine own_step (fun t k => XS.iload X4.here hx rfl (hb hby d13_7) rfl k) ?_
  show own_Fin _ _ _ _ _ _ _ _ (mkF m 9 #[.val (.long q1), .second, .val (.int (3 : Int32)), .val (.ref b1), .val (.int (3 : Int32))] [(.int (3 : Int32))])
  refine own_step (fun t k => XS.iloadN X4.here hx rfl (hb hby d13_9) rfl k) ?_
  show own_Fin _ _ _ _ _ _ _ _ (mkF m 10 #[.val (.long q1), .second, .val (.int (3 : Int32)), .val (.ref b1), .val (.int (3 : Int32))] [(.int (3 : Int32)), (.int (3 : Int32))])
  refine own_step (fun t k => XS.icmpYes X4.here hx rfl (pc0 := 10) (pc' := 32) rfl (hb hby d13_10) rfl (by decide) (by decide) (by decide) k) ?_
  show own_Fin _ _ _ _ _ _ _ _ (mkF m 32 #[.val (.long q1), .second, .val (.int (3 : Int32)), .val (.ref b1), .val (.int (3 : Int32))] [])
  refine own_step (fun t k => XS.aloadN X4.here hx rfl (hb hby d13_32) rfl rfl k) ?_
  show own_Fin _ _ _ _ _ _ _ _ (mkF m 33 #[.val (.long q1), .second, .val (.int (3 : Int32)), .val (.ref b1), .val (.int (3 : Int32))] [(.ref b1)])
  refine own_retR X4 hx hlk Bd.returns rfl rfl (hb hby d13_33) (by decide) (by decide) e4 ?_
  exact ⟨b1, rfl, Nf, K, g_b1, V_b1.congr (by intro i hi; rcases own_lt3 hi with rfl | rfl | rfl <;> rfl)⟩
theorem own_lt4 {i : Nat} (h : i < 4) : i = 0 ∨ i = 1 ∨ i = 2 ∨ i = 3 := by omega
theorem d14_0 : decode prog_22_method_2_code 0 = .ok (.iload_n 2, 1) := by decide +kernel
theorem d14_1 : decode prog_22_method_2_code 1 = .ok (.newarray .byte, 2) := by decide +kernel
theorem d14_3 : decode prog_22_method_2_code 3 = .ok (.astore_n 3, 1) := by decide +kernel
theorem d14_4 : decode prog_22_method_2_code 4 = .ok (.iconst 0, 1) := by decide +kernel
theorem d14_5 : decode prog_22_method_2_code 5 = .ok (.istore 4, 2) := by decide +kernel
theorem d14_7 : decode prog_22_method_2_code 7 = .ok (.iload 4, 2) := by decide +kernel
theorem d14_9 : decode prog_22_method_2_code 9 = .ok (.iload_n 2, 1) := by decide +kernel
theorem d14_10 : decode prog_22_method_2_code 10 = .ok (.if_icmp .ge 22, 3) := by decide +kernel
theorem d14_13 : decode prog_22_method_2_code 13 = .ok (.aload_n 3, 1) := by decide +kernel
theorem d14_14 : decode prog_22_method_2_code 14 = .ok (.iload 4, 2) := by decide +kernel
theorem d14_16 : decode prog_22_method_2_code 16 = .ok (.lload_n 0, 1) := by decide +kernel
theorem d14_17 : decode prog_22_method_2_code 17 = .ok (.bipush 8, 2) := by decide +kernel
theorem d14_19 : decode prog_22_method_2_code 19 = .ok (.iload 4, 2) := by decide +kernel
theorem d14_21 : decode prog_22_method_2_code 21 = .ok (.imul, 1) := by decide +kernel
theorem d14_22 : decode prog_22_method_2_code 22 = .ok (.lushr, 1) := by decide +kernel
theorem d14_23 : decode prog_22_method_2_code 23 = .ok (.l2i, 1) := by decide +kernel
theorem d14_24 : decode prog_22_method_2_code 24 = .ok (.i2b, 1) := by decide +kernel
theorem d14_25 : decode prog_22_method_2_code 25 = .ok (.bastore, 1) := by decide +kernel
theorem d14_26 : decode prog_22_method_2_code 26 = .ok (.iinc 4 1, 3) := by decide +kernel
theorem d14_29 : decode prog_22_method_2_code 29 = .ok (.goto (-22), 3) := by decide +kernel
theorem d14_32 : decode prog_22_method_2_code 32 = .ok (.aload_n 3, 1) := by decide +kernel
theorem d14_33 : decode prog_22_method_2_code 33 = .ok (.areturn, 1) := by decide +kernel
theorem own_pn_14 : plainName "com/example/kern_tablet/kerntablet/schema/IntegerHandler" = true := by first | (simp [plainName, overriddenIn]; done) | decide +kernel
theorem own_ef_14 (m : MethodId) (q1 : Int64) : entryFrame m #[(.long q1), (.int (4 : Int32))] 5 = mkF m 0 #[.val (.long q1), .second, .val (.int (4 : Int32)), .unset, .unset] [] := by first | (simp [entryFrame, mkF, argsToLocals, Value.category]; done) | rfl
abbrev own_R14 : Room := { frames := 0, cells := 1, slots := 4, locals := 0 }
def own_Q14 (Z : State) (q1 : Int64) (h0 : Heap) (n0 : Nat) (v : Option Value) (h : Heap) (L : List Loc) : Prop := ∃ b : Addr, v = some (.ref b) ∧ Fr n0 L ∧ Keep h0 h [] ∧ n0 ≤ b ∧ own_AI Z h b .byte 4 (own_b q1)
set_option maxRecDepth 65536 in
set_option maxHeartbeats 40000000 in
theorem rm14 (l : Launch) (Z : State) (a0 : Array Value) (hw : ∀ d ∈ tables_1, d.before a0 Z = true) (ws : List Jvm.Cond) (q1 : Int64) (h0 : Heap) (n0 : Nat) (Z0 : n0 ≤ h0.size) :
    MetFree l (⟨"com/example/kern_tablet/kerntablet/schema/IntegerHandler", "littleEndian", "(JI)[B"⟩ : MethodName) (head1 (Jvm.Cond.code (⟨"com/example/kern_tablet/kerntablet/schema/IntegerHandler", "littleEndian", "(JI)[B"⟩ : MethodName) prog_22_method_2_code 5 (some (.array .byte)) :: ws) own_R14) (fun a U => a = #[(.long q1), (.int (4 : Int32))] ∧ Z.Warmed39 U.vm ∧ U.heap = h0) (fun _ _ _ _ _ => True) (fun _ U o U' => ∃ v L, o = .returned v ∧ own_Q14 Z q1 h0 n0 v U'.heap L ∧ FrameEnd U o U' L own_R14.cells own_R14.slots) := by
  refine MetFree.of_bodySF (plainFor_of_name own_pn_14) hisR ?_
  intro p e s m args below meth c s₁ Bd hml0 hP hK
  obtain ⟨rfl, hZ, hh⟩ := hP
  have hx := Bd.exec
  have hby := Bd.bytes
  have hlk := BodyLoose.notSynchronized Bd
  have hml : c.maxLocals = 5 := hml0
  have hown : s.vm.findClass "com/example/kern_tablet/kerntablet/schema/IntegerHandler" = some m.cls := (findClass_of_methodNamed Bd.named : s.vm.findClass (⟨"com/example/kern_tablet/kerntablet/schema/IntegerHandler", "littleEndian", "(JI)[B"⟩ : MethodName).cls = some m.cls)
  have hnm := (name_of_methodNamed Bd.named Bd.method).1
  have X0 : Stand p l e own_R14 s m #[(.long q1), (.int (4 : Int32))] below meth c s₁ [] 0 0 := Stand.of_body Bd
  have e0 : s₁.heap = h0 := by rw [← hh, Bd.state]; rfl
  have Nf := Fr.nil n0
  have Zs := Z0
  have K : Keep h0 h0 [] := Keep.refl _ _
  show own_Fin p e below s (own_Q14 Z q1 h0 n0) 1 4 s₁ (entryFrame m #[(.long q1), (.int (4 : Int32))] 5)
  rw [own_ef_14 m q1]
  show own_Fin _ _ _ _ _ _ _ _ (mkF m 0 #[.val (.long q1), .second, .val (.int (4 : Int32)), .unset, .unset] [])
  refine own_step (fun t k => XS.iloadN X0.here hx rfl (hb hby d14_0) rfl k) ?_
  show own_Fin _ _ _ _ _ _ _ _ (mkF m 1 #[.val (.long q1), .second, .val (.int (4 : Int32)), .unset, .unset] [(.int (4 : Int32))])
  obtain ⟨T1, h1, k1, X1, e1, E1, A1, st1⟩ := newP X0 hx hZ (hw _ (List.mem_of_getElem? (i := 4) rfl)) e0 (g := (mkF m 1 #[.val (.long q1), .second, .val (.int (4 : Int32)), .unset, .unset] [(.int (4 : Int32))])) rfl (hb hby d14_1) rfl (by decide) (cap := 4) (by decide) (by decide) (by decide) (by decide)
  obtain ⟨b1, g1⟩ : ∃ z, z = h0.size := ⟨_, rfl⟩
  rw [← g1] at A1 st1
  refine own_step st1 ?_
  have g_b1 : n0 ≤ b1 := Nat.le_trans Zs (Nat.le_of_eq g1.symm)
  have sz_b1 : h0.size ≤ b1 := Nat.le_trans K.1 (Nat.le_of_eq g1.symm)
  replace Zs := Nat.le_trans Zs E1.1
  replace K := K.ext E1
  have V_b1 := own_AI.newB (n := 4) A1 (by decide)
  show own_Fin _ _ _ _ _ _ _ _ (mkF m 3 #[.val (.long q1), .second, .val (.int (4 : Int32)), .unset, .unset] [(.ref b1)])
  refine own_step (fun t k => XS.astoreN X1.here hx rfl (hb hby d14_3) rfl rfl (l' := #[.val (.long q1), .second, .val (.int (4 : Int32)), .val (.ref b1), .unset]) rfl k) ?_
  show own_Fin _ _ _ _ _ _ _ _ (mkF m 4 #[.val (.long q1), .second, .val (.int (4 : Int32)), .val (.ref b1), .unset] [])
  refine own_step (fun t k => XS.iconst X1.here hx rfl (hb hby d14_4) k) ?_
  show own_Fin _ _ _ _ _ _ _ _ (mkF m 5 #[.val (.long q1), .second, .val (.int (4 : Int32)), .val (.ref b1), .unset] [(.int (0 : Int32))])
  refine own_step (fun t k => XS.istore X1.here hx rfl (hb hby d14_5) rfl (l' := #[.val (.long q1), .second, .val (.int (4 : Int32)), .val (.ref b1), .val (.int (0 : Int32))]) rfl k) ?_
  show own_Fin _ _ _ _ _ _ _ _ (mkF m 7 #[.val (.long q1), .second, .val (.int (4 : Int32)), .val (.ref b1), .val (.int (0 : Int32))] [])
  refine own_step (fun t k => XS.iload X1.here hx rfl (hb hby d14_7) rfl k) ?_
  show own_Fin _ _ _ _ _ _ _ _ (mkF m 9 #[.val (.long q1), .second, .val (.int (4 : Int32)), .val (.ref b1), .val (.int (0 : Int32))] [(.int (0 : Int32))])
  refine own_step (fun t k => XS.iloadN X1.here hx rfl (hb hby d14_9) rfl k) ?_
  show own_Fin _ _ _ _ _ _ _ _ (mkF m 10 #[.val (.long q1), .second, .val (.int (4 : Int32)), .val (.ref b1), .val (.int (0 : Int32))] [(.int (4 : Int32)), (.int (0 : Int32))])
  refine own_step (fun t k => XS.icmpNo X1.here hx rfl (hb hby d14_10) rfl (by decide) k) ?_
  show own_Fin _ _ _ _ _ _ _ _ (mkF m 13 #[.val (.long q1), .second, .val (.int (4 : Int32)), .val (.ref b1), .val (.int (0 : Int32))] [])
  refine own_step (fun t k => XS.aloadN X1.here hx rfl (hb hby d14_13) rfl rfl k) ?_
  show own_Fin _ _ _ _ _ _ _ _ (mkF m 14 #[.val (.long q1), .second, .val (.int (4 : Int32)), .val (.ref b1), .val (.int (0 : Int32))] [(.ref b1)])
  refine own_step (fun t k => XS.iload X1.here hx rfl (hb hby d14_14) rfl k) ?_
  show own_Fin _ _ _ _ _ _ _ _ (mkF m 16 #[.val (.long q1), .second, .val (.int (4 : Int32)), .val (.ref b1), .val (.int (0 : Int32))] [(.int (0 : Int32)), (.ref b1)])
  refine own_step (fun t k => XS.lloadN X1.here hx rfl (hb hby d14_16) rfl k) ?_
  show own_Fin _ _ _ _ _ _ _ _ (mkF m 17 #[.val (.long q1), .second, .val (.int (4 : Int32)), .val (.ref b1), .val (.int (0 : Int32))] [(.long q1), (.int (0 : Int32)), (.ref b1)])
  refine own_step (fun t k => XS.bipush X1.here hx rfl (hb hby d14_17) k) ?_
  show own_Fin _ _ _ _ _ _ _ _ (mkF m 19 #[.val (.long q1), .second, .val (.int (4 : Int32)), .val (.ref b1), .val (.int (0 : Int32))] [(.int (8 : Int32)), (.long q1), (.int (0 : Int32)), (.ref b1)])
  refine own_step (fun t k => XS.iload X1.here hx rfl (hb hby d14_19) rfl k) ?_
  show own_Fin _ _ _ _ _ _ _ _ (mkF m 21 #[.val (.long q1), .second, .val (.int (4 : Int32)), .val (.ref b1), .val (.int (0 : Int32))] [(.int (0 : Int32)), (.int (8 : Int32)), (.long q1), (.int (0 : Int32)), (.ref b1)])
  refine own_step (fun t k => XS.imul X1.here hx rfl (hb hby d14_21) rfl k) ?_
  show own_Fin _ _ _ _ _ _ _ _ (mkF m 22 #[.val (.long q1), .second, .val (.int (4 : Int32)), .val (.ref b1), .val (.int (0 : Int32))] [(.int (0 : Int32)), (.long q1), (.int (0 : Int32)), (.ref b1)])
  refine own_step (fun t k => XS.lushr X1.here hx rfl (hb hby d14_22) rfl k) ?_
  show own_Fin _ _ _ _ _ _ _ _ (mkF m 23 #[.val (.long q1), .second, .val (.int (4 : Int32)), .val (.ref b1), .val (.int (0 : Int32))] [(.long ((q1.toUInt64 >>> ((0 : Int32) &&& 0x3f).toInt64.toUInt64).toInt64)), (.int (0 : Int32)), (.ref b1)])
  refine own_step (fun t k => XS.l2i X1.here hx rfl (hb hby d14_23) rfl k) ?_
  show own_Fin _ _ _ _ _ _ _ _ (mkF m 24 #[.val (.long q1), .second, .val (.int (4 : Int32)), .val (.ref b1), .val (.int (0 : Int32))] [(.int (((q1.toUInt64 >>> ((0 : Int32) &&& 0x3f).toInt64.toUInt64).toInt64).toInt32)), (.int (0 : Int32)), (.ref b1)])
  refine own_step (fun t k => XS.i2b X1.here hx rfl (hb hby d14_24) rfl k) ?_
  show own_Fin _ _ _ _ _ _ _ _ (mkF m 25 #[.val (.long q1), .second, .val (.int (4 : Int32)), .val (.ref b1), .val (.int (0 : Int32))] [(.int ((((q1.toUInt64 >>> ((0 : Int32) &&& 0x3f).toInt64.toUInt64).toInt64).toInt32).toInt8.toInt32)), (.int (0 : Int32)), (.ref b1)])
  obtain ⟨T2, h2, X2, e2, W2, B2, st2⟩ := own_bastore X1 hx hZ e1 V_b1 (j := (0 : Int32)) (k := 0) rfl (by decide) (own_nar8 _) (x := ((((q1.toUInt64 >>> ((0 : Int32) &&& 0x3f).toInt64.toUInt64).toInt64).toInt32).toInt8.toInt32)) (pc := 25) (Ls := #[.val (.long q1), .second, .val (.int (4 : Int32)), .val (.ref b1), .val (.int (0 : Int32))]) (rest := []) (hb hby d14_25) rfl
  refine own_step st2 ?_
  replace Zs : n0 ≤ h2.size := by rw [W2.size]; exact Zs
  replace K := K.wr W2 (Or.inr sz_b1)
  replace V_b1 := B2
  replace Nf := Fr.snoc X2 Nf g_b1
  show own_Fin _ _ _ _ _ _ _ _ (mkF m 26 #[.val (.long q1), .second, .val (.int (4 : Int32)), .val (.ref b1), .val (.int (0 : Int32))] [])
  refine own_step (fun t k => XS.iinc X2.here hx rfl (hb hby d14_26) rfl (l' := #[.val (.long q1), .second, .val (.int (4 : Int32)), .val (.ref b1), .val (.int (1 : Int32))]) rfl k) ?_
  show own_Fin _ _ _ _ _ _ _ _ (mkF m 29 #[.val (.long q1), .second, .val (.int (4 : Int32)), .val (.ref b1), .val (.int (1 : Int32))] [])
  refine own_step (fun t k => XS.goto X2.here hx rfl (pc0 := 29) (pc' := 7) rfl (hb hby d14_29) (by decide) (by decide) k) ?_
  show own_Fin _ _ _ _ _ _ _ _ (mkF m 7 #[.val (.long q1), .second, .val (.int (4 : Int32)), .val (.ref b1), .val (.int (1 : Int32))] [])
  refine own_step (fun t k => XS.iload X2.here hx rfl (hb hby d14_7) rfl k) ?_
  show own_Fin _ _ _ _ _ _ _ _ (mkF m 9 #[.val (.long q1), .second, .val (.int (4 : Int32)), .val (.ref b1), .val (.int (1 : Int32))] [(.int (1 : Int32))])
  refine own_step (fun t k => XS.iloadN X2.here hx rfl (hb hby d14_9) rfl k) ?_
  show own_Fin _ _ _ _ _ _ _ _ (mkF m 10 #[.val (.long q1), .second, .val (.int (4 : Int32)), .val (.ref b1), .val (.int (1 : Int32))] [(.int (4 : Int32)), (.int (1 : Int32))])
  refine own_step (fun t k => XS.icmpNo X2.here hx rfl (hb hby d14_10) rfl (by decide) k) ?_
  show own_Fin _ _ _ _ _ _ _ _ (mkF m 13 #[.val (.long q1), .second, .val (.int (4 : Int32)), .val (.ref b1), .val (.int (1 : Int32))] [])
  refine own_step (fun t k => XS.aloadN X2.here hx rfl (hb hby d14_13) rfl rfl k) ?_
  show own_Fin _ _ _ _ _ _ _ _ (mkF m 14 #[.val (.long q1), .second, .val (.int (4 : Int32)), .val (.ref b1), .val (.int (1 : Int32))] [(.ref b1)])
  refine own_step (fun t k => XS.iload X2.here hx rfl (hb hby d14_14) rfl k) ?_
  show own_Fin _ _ _ _ _ _ _ _ (mkF m 16 #[.val (.long q1), .second, .val (.int (4 : Int32)), .val (.ref b1), .val (.int (1 : Int32))] [(.int (1 : Int32)), (.ref b1)])
  refine own_step (fun t k => XS.lloadN X2.here hx rfl (hb hby d14_16) rfl k) ?_
  show own_Fin _ _ _ _ _ _ _ _ (mkF m 17 #[.val (.long q1), .second, .val (.int (4 : Int32)), .val (.ref b1), .val (.int (1 : Int32))] [(.long q1), (.int (1 : Int32)), (.ref b1)])
  refine own_step (fun t k => XS.bipush X2.here hx rfl (hb hby d14_17) k) ?_
  show own_Fin _ _ _ _ _ _ _ _ (mkF m 19 #[.val (.long q1), .second, .val (.int (4 : Int32)), .val (.ref b1), .val (.int (1 : Int32))] [(.int (8 : Int32)), (.long q1), (.int (1 : Int32)), (.ref b1)])
  refine own_step (fun t k => XS.iload X2.here hx rfl (hb hby d14_19) rfl k) ?_
  show own_Fin _ _ _ _ _ _ _ _ (mkF m 21 #[.val (.long q1), .second, .val (.int (4 : Int32)), .val (.ref b1), .val (.int (1 : Int32))] [(.int (1 : Int32)), (.int (8 : Int32)), (.long q1), (.int (1 : Int32)), (.ref b1)])
  refine own_step (fun t k => XS.imul X2.here hx rfl (hb hby d14_21) rfl k) ?_
  show own_Fin _ _ _ _ _ _ _ _ (mkF m 22 #[.val (.long q1), .second, .val (.int (4 : Int32)), .val (.ref b1), .val (.int (1 : Int32))] [(.int (8 : Int32)), (.long q1), (.int (1 : Int32)), (.ref b1)])
  refine own_step (fun t k => XS.lushr X2.here hx rfl (hb hby d14_22) rfl k) ?_
  show own_Fin _ _ _ _ _ _ _ _ (mkF m 23 #[.val (.long q1), .second, .val (.int (4 : Int32)), .val (.ref b1), .val (.int (1 : Int32))] [(.long ((q1.toUInt64 >>> ((8 : Int32) &&& 0x3f).toInt64.toUInt64).toInt64)), (.int (1 : Int32)), (.ref b1)])
  refine own_step (fun t k => XS.l2i X2.here hx rfl (hb hby d14_23) rfl k) ?_
  show own_Fin _ _ _ _ _ _ _ _ (mkF m 24 #[.val (.long q1), .second, .val (.int (4 : Int32)), .val (.ref b1), .val (.int (1 : Int32))] [(.int (((q1.toUInt64 >>> ((8 : Int32) &&& 0x3f).toInt64.toUInt64).toInt64).toInt32)), (.int (1 : Int32)), (.ref b1)])
  refine own_step (fun t k => XS.i2b X2.here hx rfl (hb hby d14_24) rfl k) ?_
  show own_Fin _ _ _ _ _ _ _ _ (mkF m 25 #[.val (.long q1), .second, .val (.int (4 : Int32)), .val (.ref b1), .val (.int (1 : Int32))] [(.int ((((q1.toUInt64 >>> ((8 : Int32) &&& 0x3f).toInt64.toUInt64).toInt64).toInt32).toInt8.toInt32)), (.int (1 : Int32)), (.ref b1)])
  obtain ⟨T3, h3, X3, e3, W3, B3, st3⟩ := own_bastore X2 hx hZ e2 V_b1 (j := (1 : Int32)) (k := 1) rfl (by decide) (own_nar8 _) (x := ((((q1.toUInt64 >>> ((8 : Int32) &&& 0x3f).toInt64.toUInt64).toInt64).toInt32).toInt8.toInt32)) (pc := 25) (Ls := #[.val (.long q1), .second, .val (.int (4 : Int32)), .val (.ref b1), .val (.int (1 : Int32))]) (rest := []) (hb hby d14_25) rfl
  refine own_step st3 ?_
  replace Zs : n0 ≤ h3.size := by rw [W3.size]; exact Zs
  replace K := K.wr W3 (Or.inr sz_b1)
  replace V_b1 := B3
  replace Nf := Fr.snoc X3 Nf g_b1
  show own_Fin _ _ _ _ _ _ _ _ (mkF m 26 #[.val (.long q1), .second, .val (.int (4 : Int32)), .val (.ref b1), .val (.int (1 : Int32))] [])
  refine own_step (fun t k => XS.iinc X3.here hx rfl (hb hby d14_26) rfl (l' := #[.val (.long q1), .second, .val (.int (4 : Int32)), .val (.ref b1), .val (.int (2 : Int32))]) rfl k) ?_
  show own_Fin _ _ _ _ _ _ _ _ (mkF m 29 #[.val (.long q1), .second, .val (.int (4 : Int32)), .val (.ref b1), .val (.int (2 : Int32))] [])
  refine own_step (fun t k => XS.goto X3.here hx rfl (pc0 := 29) (pc' := 7) rfl (hb hby d14_29) (by decide) (by decide) k) ?_
  show own_Fin _ _ _ _ _ _ _ _ (mkF m 7 #[.val (.long q1), .second, .val (.int (4 : Int32)), .val (.ref b1), .val (.int (2 : Int32))] [])
  refine own_step (fun t k => XS.iload X3.here hx rfl (hb hby d14_7) rfl k) ?_
  show own_Fin _ _ _ _ _ _ _ _ (mkF m 9 #[.val (.long q1), .second, .val (.int (4 : Int32)), .val (.ref b1), .val (.int (2 : Int32))] [(.int (2 : Int32))])
  refine own_step (fun t k => XS.iloadN X3.here hx rfl (hb hby d14_9) rfl k) ?_
  show own_Fin _ _ _ _ _ _ _ _ (mkF m 10 #[.val (.long q1), .second, .val (.int (4 : Int32)), .val (.ref b1), .val (.int (2 : Int32))] [(.int (4 : Int32)), (.int (2 : Int32))])
  refine own_step (fun t k => XS.icmpNo X3.here hx rfl (hb hby d14_10) rfl (by decide) k) ?_
  show own_Fin _ _ _ _ _ _ _ _ (mkF m 13 #[.val (.long q1), .second, .val (.int (4 : Int32)), .val (.ref b1), .val (.int (2 : Int32))] [])
  refine own_step (fun t k => XS.aloadN X3.here hx rfl (hb hby d14_13) rfl rfl k) ?_
  show own_Fin _ _ _ _ _ _ _ _ (mkF m 14 #[.val (.long q1), .second, .val (.int (4 : Int32)), .val (.ref b1), .val (.int (2 : Int32))] [(.ref b1)])
  refine own_step (fun t k => XS.iload X3.here hx rfl (hb hby d14_14) rfl k) ?_
  show own_Fin _ _ _ _ _ _ _ _ (mkF m 16 #[.val (.long q1), .second, .val (.int (4 : Int32)), .val (.ref b1), .val (.int (2 : Int32))] [(.int (2 : Int32)), (.ref b1)])
  refine own_step (fun t k => XS.lloadN X3.here hx rfl (hb hby d14_16) rfl k) ?_
  show own_Fin _ _ _ _ _ _ _ _ (mkF m 17 #[.val (.long q1), .second, .val (.int (4 : Int32)), .val (.ref b1), .val (.int (2 : Int32))] [(.long q1), (.int (2 : Int32)), (.ref b1)])
  refine own_step (fun t k => XS.bipush X3.here hx rfl (hb hby d14_17) k) ?_
  show own_Fin _ _ _ _ _ _ _ _ (mkF m 19 #[.val (.long q1), .second, .val (.int (4 : Int32)), .val (.ref b1), .val (.int (2 : Int32))] [(.int (8 : Int32)), (.long q1), (.int (2 : Int32)), (.ref b1)])
  refine own_step (fun t k => XS.iload X3.here hx rfl (hb hby d14_19) rfl k) ?_
  show own_Fin _ _ _ _ _ _ _ _ (mkF m 21 #[.val (.long q1), .second, .val (.int (4 : Int32)), .val (.ref b1), .val (.int (2 : Int32))] [(.int (2 : Int32)), (.int (8 : Int32)), (.long q1), (.int (2 : Int32)), (.ref b1)])
  refine own_step (fun t k => XS.imul X3.here hx rfl (hb hby d14_21) rfl k) ?_
  show own_Fin _ _ _ _ _ _ _ _ (mkF m 22 #[.val (.long q1), .second, .val (.int (4 : Int32)), .val (.ref b1), .val (.int (2 : Int32))] [(.int (16 : Int32)), (.long q1), (.int (2 : Int32)), (.ref b1)])
  refine own_step (fun t k => XS.lushr X3.here hx rfl (hb hby d14_22) rfl k) ?_
  show own_Fin _ _ _ _ _ _ _ _ (mkF m 23 #[.val (.long q1), .second, .val (.int (4 : Int32)), .val (.ref b1), .val (.int (2 : Int32))] [(.long ((q1.toUInt64 >>> ((16 : Int32) &&& 0x3f).toInt64.toUInt64).toInt64)), (.int (2 : Int32)), (.ref b1)])
  refine own_step (fun t k => XS.l2i X3.here hx rfl (hb hby d14_23) rfl k) ?_
  show own_Fin _ _ _ _ _ _ _ _ (mkF m 24 #[.val (.long q1), .second, .val (.int (4 : Int32)), .val (.ref b1), .val (.int (2 : Int32))] [(.int (((q1.toUInt64 >>> ((16 : Int32) &&& 0x3f).toInt64.toUInt64).toInt64).toInt32)), (.int (2 : Int32)), (.ref b1)])
  refine own_step (fun t k => XS.i2b X3.here hx rfl (hb hby d14_24) rfl k) ?_
  show own_Fin _ _ _ _ _ _ _ _ (mkF m 25 #[.val (.long q1), .second, .val (.int (4 : Int32)), .val (.ref b1), .val (.int (2 : Int32))] [(.int ((((q1.toUInt64 >>> ((16 : Int32) &&& 0x3f).toInt64.toUInt64).toInt64).toInt32).toInt8.toInt32)), (.int (2 : Int32)), (.ref b1)])
  obtain ⟨T4, h4, X4, e4, W4, B4, st4⟩ := own_bastore X3 hx hZ e3 V_b1 (j := (2 : Int32)) (k := 2) rfl (by decide) (own_nar8 _) (x := ((((q1.toUInt64 >>> ((16 : Int32) &&& 0x3f).toInt64.toUInt64).toInt64).toInt32).toInt8.toInt32)) (pc := 25) (Ls := #[.val (.long q1), .second, .val (.int (4 : Int32)), .val (.ref b1), .val (.int (2 : Int32))]) (rest := []) (hb hby d14_25) rfl
  refine own_step st4 ?_
  replace Zs : n0 ≤ h4.size := by rw [W4.size]; exact Zs
  replace K := K.wr W4 (Or.inr sz_b1)
  replace V_b1 := B4
  replace Nf := Fr.snoc X4 Nf g_b1
  show own_Fin _ _ _ _ _ _ _ _ (mkF m 26 #[.val (.long q1), .second, .val (.int (4 : Int32)), .val (.ref b1), .val (.int (2 : Int32))] [])
  refine own_step (fun t k => XS.iinc X4.here hx rfl (hb hby d14_26) rfl (l' := #[.val (.long q1), .second, .val (.int (4 : Int32)), .val (.ref b1), .val (.int (3 : Int32))]) rfl k) ?_
  show own_Fin _ _ _ _ _ _ _ _ (mkF m 29 #[.val (.long q1), .second, .val (.int (4 : Int32)), .val (.ref b1), .val (.int (3 : Int32))] [])
  refine own_step (fun t k => XS.goto X4.here hx rfl (pc0 := 29) (pc' := 7) rfl (hb hby d14_29) (by decide) (by decide) k) ?_
  show own_Fin _ _ _ _ _ _ _ _ (mkF m 7 #[.val (.long q1), .second, .val (.int (4 : Int32)), .val (.ref b1), .val (.int (3 : Int32))] [])
  refine own_step (fun t k => XS.iload X4.here hx rfl (hb hby d14_7) rfl k) ?_
  show own_Fin _ _ _ _ _ _ _ _ (mkF m 9 #[.val (.long q1), .second, .val (.int (4 : Int32)), .val (.ref b1), .val (.int (3 : Int32))] [(.int (3 : Int32))])
  refine own_step (fun t k => XS.iloadN X4.here hx rfl (hb hby d14_9) rfl k) ?_
  show own_Fin _ _ _ _ _ _ _ _ (mkF m 10 #[.val (.long q1), .second, .val (.int (4 : Int32)), .val (.ref b1), .val (.int (3 : Int32))] [(.int (4 : Int32)), (.int (3 : Int32))])
  refine own_step (fun t k => XS.icmpNo X4.here hx rfl (hb hby d14_10) rfl (by decide) k) ?_
  show own_Fin _ _ _ _ _ _ _ _ (mkF m 13 #[.val (.long q1), .second, .val (.int (4 : Int32)), .val (.ref b1), .val (.int (3 : Int32))] [])
  refine own_step (fun t k => XS.aloadN X4.here hx rfl (hb hby d14_13) rfl rfl k) ?_
  show own_Fin _ _ _ _ _ _ _ _ (mkF m 14 #[.val (.long q1), .second, .val (.int (4 : Int32)), .val (.ref b1), .val (.int (3 : Int32))] [(.ref b1)])
  refine own_step (fun t k => XS.iload X4.here hx rfl (hb hby d14_14) rfl k) ?_
  show own_Fin _ _ _ _ _ _ _ _ (mkF m 16 #[.val (.long q1), .second, .val (.int (4 : Int32)), .val (.ref b1), .val (.int (3 : Int32))] [(.int (3 : Int32)), (.ref b1)])
  refine own_step (fun t k => XS.lloadN X4.here hx rfl (hb hby d14_16) rfl k) ?_
  show own_Fin _ _ _ _ _ _ _ _ (mkF m 17 #[.val (.long q1), .second, .val (.int (4 : Int32)), .val (.ref b1), .val (.int (3 : Int32))] [(.long q1), (.int (3 : Int32)), (.ref b1)])
  refine own_step (fun t k => XS.bipush X4.here hx rfl (hb hby d14_17) k) ?_
  show own_Fin _ _ _ _ _ _ _ _ (mkF m 19 #[.val (.long q1), .second, .val (.int (4 : Int32)), .val (.ref b1), .val (.int (3 : Int32))] [(.int (8 : Int32)), (.long q1), (.int (3 : Int32)), (.ref b1)])
  refine own_step (fun t k => XS.iload X4.here hx rfl (hb hby d14_19) rfl k) ?_
  show own_Fin _ _ _ _ _ _ _ _ (mkF m 21 #[.val (.long q1), .second, .val (.int (4 : Int32)), .val (.ref b1), .val (.int (3 : Int32))] [(.int (3 : Int32)), (.int (8 : Int32)), (.long q1), (.int (3 : Int32)), (.ref b1)])
  refine own_step (fun t k => XS.imul X4.here hx rfl (hb hby d14_21) rfl k) ?_
  show own_Fin _ _ _ _ _ _ _ _ (mkF m 22 #[.val (.long q1), .second, .val (.int (4 : Int32)), .val (.ref b1), .val (.int (3 : Int32))] [(.int (24 : Int32)), (.long q1), (.int (3 : Int32)), (.ref b1)])
  refine own_step (fun t k => XS.lushr X4.here hx rfl (hb hby d14_22) rfl k) ?_
  show own_Fin _ _ _ _ _ _ _ _ (mkF m 23 #[.val (.long q1), .second, .val (.int (4 : Int32)), .val (.ref b1), .val (.int (3 : Int32))] [(.long ((q1.toUInt64 >>> ((24 : Int32) &&& 0x3f).toInt64.toUInt64).toInt64)), (.int (3 : Int32)), (.ref b1)])
  refine own_step (fun t k => XS.l2i X4.here hx rfl (hb hby d14_23) rfl k) ?_
  show own_Fin _ _ _ _ _ _ _ _ (mkF m 24 #[.val (.long q1), .second, .val (.int (4 : Int32)), .val (.ref b1), .val (.int (3 : Int32))] [(.int (((q1.toUInt64 >>> ((24 : Int32) &&& 0x3f).toInt64.toUInt64).toInt64).toInt32)), (.int (3 : Int32)), (.ref b1)])
  refine own_step (fun t k => XS.i2b X4.here hx rfl (hb hby d14_24) rfl k) ?_
  show own_Fin _ _ _ _ _ _ _ _ (mkF m 25 #[.val (.long q1), .second, .val (.int (4 : Int32)), .val (.ref b1), .val (.int (3 : Int32))] [(.int ((((q1.toUInt64 >>> ((24 : Int32) &&& 0x3f).toInt64.toUInt64).toInt64).toInt32).toInt8.toInt32)), (.int (3 : Int32)), (.ref b1)])
  obtain ⟨T5, h5, X5, e5, W5, B5, st5⟩ := own_bastore X4 hx hZ e4 V_b1 (j := (3 : Int32)) (k := 3) rfl (by decide) (own_nar8 _) (x := ((((q1.toUInt64 >>> ((24 : Int32) &&& 0x3f).toInt64.toUInt64).toInt64).toInt32).toInt8.toInt32)) (pc := 25) (Ls := #[.val (.long q1), .second, .val (.int (4 : Int32)), .val (.ref b1), .val (.int (3 : Int32))]) (rest := []) (hb hby d14_25) rfl
  refine own_step st5 ?_
  replace Zs : n0 ≤ h5.size := by rw [W5.size]; exact Zs
  replace K := K.wr W5 (Or.inr sz_b1)
  replace V_b1 := B5
  replace Nf := Fr.snoc X5 Nf g_b1
  show own_Fin _ _ _ _ _ _ _ _ (mkF m 26 #[.val (.long q1), .second, .val (.int (4 : Int32)), .val (.ref b1), .val (.int (3 : Int32))] [])
  refine own_step (fun t k => XS.iinc X5.here hx rfl (hb hby d14_26) rfl (l' := #[.val (.long q1), .second, .val (.int (4 : Int32)), .val (.ref b1), .val (.int (4 : Int32))]) rfl k) ?_
  show own_Fin _ _ _ _ _ _ _ _ (mkF m 29 #[.val (.long q1), .second, .val (.int (4 : Int32)), .val (.ref b1), .val (.int (4 : Int32))] [])
  refine own_step (fun t k => XS.goto X5.here hx rfl (pc0 := 29) (pc' := 7) rfl (hb hby d14_29) (by decide) (by decide) k) ?_
  show own_Fin _ _ _ _ _ _ _ _ (mkF m 7 #[.val (.long q1), .second, .val (.int (4 : Int32)), .val (.ref b1), .val (.int (4 : Int32))] [])
  refine own_step (fun t k => XS.iload X5.here hx rfl (hb hby d14_7) rfl k) ?_
  show own_Fin _ _ _ _ _ _ _ _ (mkF m 9 #[.val (.long q1), .second, .val (.int (4 : Int32)), .val (.ref b1), .val (.int (4 : Int32))] [(.int (4 : Int32))])
  refine own_step (fun t k => XS.iloadN X5.here hx rfl (hb hby d14_9) rfl k) ?_
  show own_Fin _ _ _ _ _ _ _ _ (mkF m 10 #[.val (.long q1), .second, .val (.int (4 : Int32)), .val (.ref b1), .val (.int (4 : Int32))] [(.int (4 : Int32)), (.int (4 : Int32))])
  refine own_step (fun t k => XS.icmpYes X5.here hx rfl (pc0 := 10) (pc' := 32) rfl (hb hby d14_10) rfl (by decide) (by decide) (by decide) k) ?_
  show own_Fin _ _ _ _ _ _ _ _ (mkF m 32 #[.val (.long q1), .second, .val (.int (4 : Int32)), .val (.ref b1), .val (.int (4 : Int32))] [])
  refine own_step (fun t k => XS.aloadN X5.here hx rfl (hb hby d14_32) rfl rfl k) ?_
  show own_Fin _ _ _ _ _ _ _ _ (mkF m 33 #[.val (.long q1), .second, .val (.int (4 : Int32)), .val (.ref b1), .val (.int (4 : Int32))] [(.ref b1)])
  refine own_retR X5 hx hlk Bd.returns rfl rfl (hb hby d14_33) (by decide) (by decide) e5 ?_
  exact ⟨b1, rfl, Nf, K, g_b1, V_b1.congr (by intro i hi; rcases own_lt4 hi with rfl | rfl | rfl | rfl <;> rfl)⟩
theorem own_lt5 {i : Nat} (h : i < 5) : i = 0 ∨ i = 1 ∨ i = 2 ∨ i = 3 ∨ i = 4 := by omega
theorem d15_0 : decode prog_22_method_2_code 0 = .ok (.iload_n 2, 1) := by decide +kernel
theorem d15_1 : decode prog_22_method_2_code 1 = .ok (.newarray .byte, 2) := by decide +kernel
theorem d15_3 : decode prog_22_method_2_code 3 = .ok (.astore_n 3, 1) := by decide +kernel
theorem d15_4 : decode prog_22_method_2_code 4 = .ok (.iconst 0, 1) := by decide +kernel
theorem d15_5 : decode prog_22_method_2_code 5 = .ok (.istore 4, 2) := by decide +kernel
theorem d15_7 : decode prog_22_method_2_code 7 = .ok (.iload 4, 2) := by decide +kernel
theorem d15_9 : decode prog_22_method_2_code 9 = .ok (.iload_n 2, 1) := by decide +kernel
theorem d15_10 : decode prog_22_method_2_code 10 = .ok (.if_icmp .ge 22, 3) := by decide +kernel
theorem d15_13 : decode prog_22_method_2_code 13 = .ok (.aload_n 3, 1) := by decide +kernel
theorem d15_14 : decode prog_22_method_2_code 14 = .ok (.iload 4, 2) := by decide +kernel
theorem d15_16 : decode prog_22_method_2_code 16 = .ok (.lload_n 0, 1) := by decide +kernel
theorem d15_17 : decode prog_22_method_2_code 17 = .ok (.bipush 8, 2) := by decide +kernel
theorem d15_19 : decode prog_22_method_2_code 19 = .ok (.iload 4, 2) := by decide +kernel
theorem d15_21 : decode prog_22_method_2_code 21 = .ok (.imul, 1) := by decide +kernel
theorem d15_22 : decode prog_22_method_2_code 22 = .ok (.lushr, 1) := by decide +kernel
theorem d15_23 : decode prog_22_method_2_code 23 = .ok (.l2i, 1) := by decide +kernel
theorem d15_24 : decode prog_22_method_2_code 24 = .ok (.i2b, 1) := by decide +kernel
theorem d15_25 : decode prog_22_method_2_code 25 = .ok (.bastore, 1) := by decide +kernel
theorem d15_26 : decode prog_22_method_2_code 26 = .ok (.iinc 4 1, 3) := by decide +kernel
theorem d15_29 : decode prog_22_method_2_code 29 = .ok (.goto (-22), 3) := by decide +kernel
theorem d15_32 : decode prog_22_method_2_code 32 = .ok (.aload_n 3, 1) := by decide +kernel
theorem d15_33 : decode prog_22_method_2_code 33 = .ok (.areturn, 1) := by decide +kernel
theorem own_pn_15 : plainName "com/example/kern_tablet/kerntablet/schema/IntegerHandler" = true := by first | (simp [plainName, overriddenIn]; done) | decide +kernel
theorem own_ef_15 (m : MethodId) (q1 : Int64) : entryFrame m #[(.long q1), (.int (5 : Int32))] 5 = mkF m 0 #[.val (.long q1), .second, .val (.int (5 : Int32)), .unset, .unset] [] := by first | (simp [entryFrame, mkF, argsToLocals, Value.category]; done) | rfl
abbrev own_R15 : Room := { frames := 0, cells := 1, slots := 5, locals := 0 }
def own_Q15 (Z : State) (q1 : Int64) (h0 : Heap) (n0 : Nat) (v : Option Value) (h : Heap) (L : List Loc) : Prop := ∃ b : Addr, v = some (.ref b) ∧ Fr n0 L ∧ Keep h0 h [] ∧ n0 ≤ b ∧ own_AI Z h b .byte 5 (own_b q1)
set_option maxRecDepth 65536 in
set_option maxHeartbeats 40000000 in
theorem rm15 (l : Launch) (Z : State) (a0 : Array Value) (hw : ∀ d ∈ tables_1, d.before a0 Z = true) (ws : List Jvm.Cond) (q1 : Int64) (h0 : Heap) (n0 : Nat) (Z0 : n0 ≤ h0.size) :
    MetFree l (⟨"com/example/kern_tablet/kerntablet/schema/IntegerHandler", "littleEndian", "(JI)[B"⟩ : MethodName) (head1 (Jvm.Cond.code (⟨"com/example/kern_tablet/kerntablet/schema/IntegerHandler", "littleEndian", "(JI)[B"⟩ : MethodName) prog_22_method_2_code 5 (some (.array .byte)) :: ws) own_R15) (fun a U => a = #[(.long q1), (.int (5 : Int32))] ∧ Z.Warmed39 U.vm ∧ U.heap = h0) (fun _ _ _ _ _ => True) (fun _ U o U' => ∃ v L, o = .returned v ∧ own_Q15 Z q1 h0 n0 v U'.heap L ∧ FrameEnd U o U' L own_R15.cells own_R15.slots) := by
  refine MetFree.of_bodySF (plainFor_of_name own_pn_15) hisR ?_
  intro p e s m args below meth c s₁ Bd hml0 hP hK
  obtain ⟨rfl, hZ, hh⟩ := hP
  have hx := Bd.exec
  have hby := Bd.bytes
  have hlk := BodyLoose.notSynchronized Bd
  have hml : c.maxLocals = 5 := hml0
  have hown : s.vm.findClass "com/example/kern_tablet/kerntablet/schema/IntegerHandler" = some m.cls := (findClass_of_methodNamed Bd.named : s.vm.findClass (⟨"com/example/kern_tablet/kerntablet/schema/IntegerHandler", "littleEndian", "(JI)[B"⟩ : MethodName).cls = some m.cls)
  have hnm := (name_of_methodNamed Bd.named Bd.method).1
  have X0 : Stand p l e own_R15 s m #[(.long q1), (.int (5 : Int32))] below meth c s₁ [] 0 0 := Stand.of_body Bd
  have e0 : s₁.heap = h0 := by rw [← hh, Bd.state]; rfl
  have Nf := Fr.nil n0
  have Zs := Z0
  have K : Keep h0 h0 [] := Keep.refl _ _
  show own_Fin p e below s (own_Q15 Z q1 h0 n0) 1 5 s₁ (entryFrame m #[(.long q1), (.int (5 : Int32))] 5)
  rw [own_ef_15 m q1]
  show own_Fin _ _ _ _ _ _ _ _ (mkF m 0 #[.val (.long q1), .second, .val (.int (5 : Int32)), .unset, .unset] [])
  refine own_step (fun t k => XS.iloadN X0.here hx rfl (hb hby d15_0) rfl k) ?_
  show own_Fin _ _ _ _ _ _ _ _ (mkF m 1 #[.val (.long q1), .second, .val (.int (5 : Int32)), .unset, .unset] [(.int (5 : Int32))])
  obtain ⟨T1, h1, k1, X1, e1, E1, A1, st1⟩ := newP X0 hx hZ (hw _ (List.mem_of_getElem? (i := 4) rfl)) e0 (g := (mkF m 1 #[.val (.long q1), .second, .val (.int (5 : Int32)), .unset, .unset] [(.int (5 : Int32))])) rfl (hb hby d15_1) rfl (by decide) (cap := 5) (by decide) (by decide) (by decide) (by decide)
  obtain ⟨b1, g1⟩ : ∃ z, z = h0.size := ⟨_, rfl⟩
  rw [← g1] at A1 st1
  refine own_step st1 ?_
  have g_b1 : n0 ≤ b1 := Nat.le_trans Zs (Nat.le_of_eq g1.symm)
  have sz_b1 : h0.size ≤ b1 := Nat.le_trans K.1 (Nat.le_of_eq g1.symm)
  replace Zs := Nat.le_trans Zs E1.1
  replace K := K.ext E1
  have V_b1 := own_AI.newB (n := 5) A1 (by decide)
  show own_Fin _ _ _ _ _ _ _ _ (mkF m 3 #[.val (.long q1), .second, .val (.int (5 : Int32)), .unset, .unset] [(.ref b1)])
  refine own_step (fun t k => XS.astoreN X1.here hx rfl (hb hby d15_3) rfl rfl (l' := #[.val (.long q1), .second, .val (.int (5 : Int32)), .val (.ref b1), .unset]) rfl k) ?_
  show own_Fin _ _ _ _ _ _ _ _ (mkF m 4 #[.val (.long q1), .second, .val (.int (5 : Int32)), .val (.ref b1), .unset] [])
  refine own_step (fun t k => XS.iconst X1.here hx rfl (hb hby d15_4) k) ?_
  show own_Fin _ _ _ _ _ _ _ _ (mkF m 5 #[.val (.long q1), .second, .val (.int (5 : Int32)), .val (.ref b1), .unset] [(.int (0 : Int32))])
  refine own_step (fun t k => XS.istore X1.here hx rfl (hb hby d15_5) rfl (l' := #[.val (.long q1), .second, .val (.int (5 : Int32)), .val (.ref b1), .val (.int (0 : Int32))]) rfl k) ?_
  show own_Fin _ _ _ _ _ _ _ _ (mkF m 7 #[.val (.long q1), .second, .val (.int (5 : Int32)), .val (.ref b1), .val (.int (0 : Int32))] [])
  refine own_step (fun t k => XS.iload X1.here hx rfl (hb hby d15_7) rfl k) ?_
  show own_Fin _ _ _ _ _ _ _ _ (mkF m 9 #[.val (.long q1), .second, .val (.int (5 : Int32)), .val (.ref b1), .val (.int (0 : Int32))] [(.int (0 : Int32))])
  refine own_step (fun t k => XS.iloadN X1.here hx rfl (hb hby d15_9) rfl k) ?_
  show own_Fin _ _ _ _ _ _ _ _ (mkF m 10 #[.val (.long q1), .second, .val (.int (5 : Int32)), .val (.ref b1), .val (.int (0 : Int32))] [(.int (5 : Int32)), (.int (0 : Int32))])
  refine own_step (fun t k => XS.icmpNo X1.here hx rfl (hb hby d15_10) rfl (by decide) k) ?_
  show own_Fin _ _ _ _ _ _ _ _ (mkF m 13 #[.val (.long q1), .second, .val (.int (5 : Int32)), .val (.ref b1), .val (.int (0 : Int32))] [])
  refine own_step (fun t k => XS.aloadN X1.here hx rfl (hb hby d15_13) rfl rfl k) ?_
  show own_Fin _ _ _ _ _ _ _ _ (mkF m 14 #[.val (.long q1), .second, .val (.int (5 : Int32)), .val (.ref b1), .val (.int (0 : Int32))] [(.ref b1)])
  refine own_step (fun t k => XS.iload X1.here hx rfl (hb hby d15_14) rfl k) ?_
  show own_Fin _ _ _ _ _ _ _ _ (mkF m 16 #[.val (.long q1), .second, .val (.int (5 : Int32)), .val (.ref b1), .val (.int (0 : Int32))] [(.int (0 : Int32)), (.ref b1)])
  refine own_step (fun t k => XS.lloadN X1.here hx rfl (hb hby d15_16) rfl k) ?_
  show own_Fin _ _ _ _ _ _ _ _ (mkF m 17 #[.val (.long q1), .second, .val (.int (5 : Int32)), .val (.ref b1), .val (.int (0 : Int32))] [(.long q1), (.int (0 : Int32)), (.ref b1)])
  refine own_step (fun t k => XS.bipush X1.here hx rfl (hb hby d15_17) k) ?_
  show own_Fin _ _ _ _ _ _ _ _ (mkF m 19 #[.val (.long q1), .second, .val (.int (5 : Int32)), .val (.ref b1), .val (.int (0 : Int32))] [(.int (8 : Int32)), (.long q1), (.int (0 : Int32)), (.ref b1)])
  refine own_step (fun t k => XS.iload X1.here hx rfl (hb hby d15_19) rfl k) ?_
  show own_Fin _ _ _ _ _ _ _ _ (mkF m 21 #[.val (.long q1), .second, .val (.int (5 : Int32)), .val (.ref b1), .val (.int (0 : Int32))] [(.int (0 : Int32)), (.int (8 : Int32)), (.long q1), (.int (0 : Int32)), (.ref b1)])
  refine own_step (fun t k => XS.imul X1.here hx rfl (hb hby d15_21) rfl k) ?_
  show own_Fin _ _ _ _ _ _ _ _ (mkF m 22 #[.val (.long q1), .second, .val (.int (5 : Int32)), .val (.ref b1), .val (.int (0 : Int32))] [(.int (0 : Int32)), (.long q1), (.int (0 : Int32)), (.ref b1)])
  refine own_step (fun t k => XS.lushr X1.here hx rfl (hb hby d15_22) rfl k) ?_
  show own_Fin _ _ _ _ _ _ _ _ (mkF m 23 #[.val (.long q1), .second, .val (.int (5 : Int32)), .val (.ref b1), .val (.int (0 : Int32))] [(.long ((q1.toUInt64 >>> ((0 : Int32) &&& 0x3f).toInt64.toUInt64).toInt64)), (.int (0 : Int32)), (.ref b1)])
  refine own_step (fun t k => XS.l2i X1.here hx rfl (hb hby d15_23) rfl k) ?_
  show own_Fin _ _ _ _ _ _ _ _ (mkF m 24 #[.val (.long q1), .second, .val (.int (5 : Int32)), .val (.ref b1), .val (.int (0 : Int32))] [(.int (((q1.toUInt64 >>> ((0 : Int32) &&& 0x3f).toInt64.toUInt64).toInt64).toInt32)), (.int (0 : Int32)), (.ref b1)])
  refine own_step (fun t k => XS.i2b X1.here hx rfl (hb hby d15_24) rfl k) ?_
  show own_Fin _ _ _ _ _ _ _ _ (mkF m 25 #[.val (.long q1), .second, .val (.int (5 : Int32)), .val (.ref b1), .val (.int (0 : Int32))] [(.int ((((q1.toUInt64 >>> ((0 : Int32) &&& 0x3f).toInt64.toUInt64).toInt64).toInt32).toInt8.toInt32)), (.int (0 : Int32)), (.ref b1)])
  obtain ⟨T2, h2, X2, e2, W2, B2, st2⟩ := own_bastore X1 hx hZ e1 V_b1 (j := (0 : Int32)) (k := 0) rfl (by decide) (own_nar8 _) (x := ((((q1.toUInt64 >>> ((0 : Int32) &&& 0x3f).toInt64.toUInt64).toInt64).toInt32).toInt8.toInt32)) (pc := 25) (Ls := #[.val (.long q1), .second, .val (.int (5 : Int32)), .val (.ref b1), .val (.int (0 : Int32))]) (rest := []) (hb hby d15_25) rfl
  refine own_step st2 ?_
  replace Zs : n0 ≤ h2.size := by rw [W2.size]; exact Zs
  replace K := K.wr W2 (Or.inr sz_b1)
  replace V_b1 := B2
  replace Nf := Fr.snoc X2 Nf g_b1
  show own_Fin _ _ _ _ _ _ _ _ (mkF m 26 #[.val (.long q1), .second, .val (.int (5 : Int32)), .val (.ref b1), .val (.int (0 : Int32))] [])
  refine own_step (fun t k => XS.iinc X2.here hx rfl (hb hby d15_26) rfl (l' := #[.val (.long q1), .second, .val (.int (5 : Int32)), .val (.ref b1), .val (.int (1 : Int32))]) rfl k) ?_
  show own_Fin _ _ _ _ _ _ _ _ (mkF m 29 #[.val (.long q1), .second, .val (.int (5 : Int32)), .val (.ref b1), .val (.int (1 : Int32))] [])
  refine own_step (fun t k => XS.goto X2.here hx rfl (pc0 := 29) (pc' := 7) rfl (hb hby d15_29) (by decide) (by decide) k) ?_
  show own_Fin _ _ _ _ _ _ _ _ (mkF m 7 #[.val (.long q1), .second, .val (.int (5 : Int32)), .val (.ref b1), .val (.int (1 : Int32))] [])
  refine own_step (fun t k => XS.iload X2.here hx rfl (hb hby d15_7) rfl k) ?_
  show own_Fin _ _ _ _ _ _ _ _ (mkF m 9 #[.val (.long q1), .second, .val (.int (5 : Int32)), .val (.ref b1), .val (.int (1 : Int32))] [(.int (1 : Int32))])
  refine own_step (fun t k => XS.iloadN X2.here hx rfl (hb hby d15_9) rfl k) ?_
  show own_Fin _ _ _ _ _ _ _ _ (mkF m 10 #[.val (.long q1), .second, .val (.int (5 : Int32)), .val (.ref b1), .val (.int (1 : Int32))] [(.int (5 : Int32)), (.int (1 : Int32))])
  refine own_step (fun t k => XS.icmpNo X2.here hx rfl (hb hby d15_10) rfl (by decide) k) ?_
  show own_Fin _ _ _ _ _ _ _ _ (mkF m 13 #[.val (.long q1), .second, .val (.int (5 : Int32)), .val (.ref b1), .val (.int (1 : Int32))] [])
  refine own_step (fun t k => XS.aloadN X2.here hx rfl (hb hby d15_13) rfl rfl k) ?_
  show own_Fin _ _ _ _ _ _ _ _ (mkF m 14 #[.val (.long q1), .second, .val (.int (5 : Int32)), .val (.ref b1), .val (.int (1 : Int32))] [(.ref b1)])
  refine own_step (fun t k => XS.iload X2.here hx rfl (hb hby d15_14) rfl k) ?_
  show own_Fin _ _ _ _ _ _ _ _ (mkF m 16 #[.val (.long q1), .second, .val (.int (5 : Int32)), .val (.ref b1), .val (.int (1 : Int32))] [(.int (1 : Int32)), (.ref b1)])
  refine own_step (fun t k => XS.lloadN X2.here hx rfl (hb hby d15_16) rfl k) ?_
  show own_Fin _ _ _ _ _ _ _ _ (mkF m 17 #[.val (.long q1), .second, .val (.int (5 : Int32)), .val (.ref b1), .val (.int (1 : Int32))] [(.long q1), (.int (1 : Int32)), (.ref b1)])
  refine own_step (fun t k => XS.bipush X2.here hx rfl (hb hby d15_17) k) ?_
  show own_Fin _ _ _ _ _ _ _ _ (mkF m 19 #[.val (.long q1), .second, .val (.int (5 : Int32)), .val (.ref b1), .val (.int (1 : Int32))] [(.int (8 : Int32)), (.long q1), (.int (1 : Int32)), (.ref b1)])
  refine own_step (fun t k => XS.iload X2.here hx rfl (hb hby d15_19) rfl k) ?_
  show own_Fin _ _ _ _ _ _ _ _ (mkF m 21 #[.val (.long q1), .second, .val (.int (5 : Int32)), .val (.ref b1), .val (.int (1 : Int32))] [(.int (1 : Int32)), (.int (8 : Int32)), (.long q1), (.int (1 : Int32)), (.ref b1)])
  refine own_step (fun t k => XS.imul X2.here hx rfl (hb hby d15_21) rfl k) ?_
  show own_Fin _ _ _ _ _ _ _ _ (mkF m 22 #[.val (.long q1), .second, .val (.int (5 : Int32)), .val (.ref b1), .val (.int (1 : Int32))] [(.int (8 : Int32)), (.long q1), (.int (1 : Int32)), (.ref b1)])
  refine own_step (fun t k => XS.lushr X2.here hx rfl (hb hby d15_22) rfl k) ?_
  show own_Fin _ _ _ _ _ _ _ _ (mkF m 23 #[.val (.long q1), .second, .val (.int (5 : Int32)), .val (.ref b1), .val (.int (1 : Int32))] [(.long ((q1.toUInt64 >>> ((8 : Int32) &&& 0x3f).toInt64.toUInt64).toInt64)), (.int (1 : Int32)), (.ref b1)])
  refine own_step (fun t k => XS.l2i X2.here hx rfl (hb hby d15_23) rfl k) ?_
  show own_Fin _ _ _ _ _ _ _ _ (mkF m 24 #[.val (.long q1), .second, .val (.int (5 : Int32)), .val (.ref b1), .val (.int (1 : Int32))] [(.int (((q1.toUInt64 >>> ((8 : Int32) &&& 0x3f).toInt64.toUInt64).toInt64).toInt32)), (.int (1 : Int32)), (.ref b1)])
  refine own_step (fun t k => XS.i2b X2.here hx rfl (hb hby d15_24) rfl k) ?_
  show own_Fin _ _ _ _ _ _ _ _ (mkF m 25 #[.val (.long q1), .second, .val (.int (5 : Int32)), .val (.ref b1), .val (.int (1 : Int32))] [(.int ((((q1.toUInt64 >>> ((8 : Int32) &&& 0x3f).toInt64.toUInt64).toInt64).toInt32).toInt8.toInt32)), (.int (1 : Int32)), (.ref b1)])
  obtain ⟨T3, h3, X3, e3, W3, B3, st3⟩ := own_bastore X2 hx hZ e2 V_b1 (j := (1 : Int32)) (k := 1) rfl (by decide) (own_nar8 _) (x := ((((q1.toUInt64 >>> ((8 : Int32) &&& 0x3f).toInt64.toUInt64).toInt64).toInt32).toInt8.toInt32)) (pc := 25) (Ls := #[.val (.long q1), .second, .val (.int (5 : Int32)), .val (.ref b1), .val (.int (1 : Int32))]) (rest := []) (hb hby d15_25) rfl
  refine own_step st3 ?_
  replace Zs : n0 ≤ h3.size := by rw [W3.size]; exact Zs
  replace K := K.wr W3 (Or.inr sz_b1)
  replace V_b1 := B3
  replace Nf := Fr.snoc X3 Nf g_b1
  show own_Fin _ _ _ _ _ _ _ _ (mkF m 26 #[.val (.long q1), .second, .val (.int (5 : Int32)), .val (.ref b1), .val (.int (1 : Int32))] [])
  refine own_step (fun t k => XS.iinc X3.here hx rfl (hb hby d15_26) rfl (l' := #[.val (.long q1), .second, .val (.int (5 : Int32)), .val (.ref b1), .val (.int (2 : Int32))]) rfl k) ?_
  show own_Fin _ _ _ _ _ _ _ _ (mkF m 29 #[.val (.long q1), .second, .val (.int (5 : Int32)), .val (.ref b1), .val (.int (2 : Int32))] [])
  refine own_step (fun t k => XS.goto X3.here hx rfl (pc0 := 29) (pc' := 7) rfl (hb hby d15_29) (by decide) (by decide) k) ?_
  show own_Fin _ _ _ _ _ _ _ _ (mkF m 7 #[.val (.long q1), .second, .val (.int (5 : Int32)), .val (.ref b1), .val (.int (2 : Int32))] [])
  refine own_step (fun t k => XS.iload X3.here hx rfl (hb hby d15_7) rfl k) ?_
  show own_Fin _ _ _ _ _ _ _ _ (mkF m 9 #[.val (.long q1), .second, .val (.int (5 : Int32)), .val (.ref b1), .val (.int (2 : Int32))] [(.int (2 : Int32))])
  refine own_step (fun t k => XS.iloadN X3.here hx rfl (hb hby d15_9) rfl k) ?_
  show own_Fin _ _ _ _ _ _ _ _ (mkF m 10 #[.val (.long q1), .second, .val (.int (5 : Int32)), .val (.ref b1), .val (.int (2 : Int32))] [(.int (5 : Int32)), (.int (2 : Int32))])
  refine own_step (fun t k => XS.icmpNo X3.here hx rfl (hb hby d15_10) rfl (by decide) k) ?_
  show own_Fin _ _ _ _ _ _ _ _ (mkF m 13 #[.val (.long q1), .second, .val (.int (5 : Int32)), .val (.ref b1), .val (.int (2 : Int32))] [])
  refine own_step (fun t k => XS.aloadN X3.here hx rfl (hb hby d15_13) rfl rfl k) ?_
  show own_Fin _ _ _ _ _ _ _ _ (mkF m 14 #[.val (.long q1), .second, .val (.int (5 : Int32)), .val (.ref b1), .val (.int (2 : Int32))] [(.ref b1)])
  refine own_step (fun t k => XS.iload X3.here hx rfl (hb hby d15_14) rfl k) ?_
  show own_Fin _ _ _ _ _ _ _ _ (mkF m 16 #[.val (.long q1), .second, .val (.int (5 : Int32)), .val (.ref b1), .val (.int (2 : Int32))] [(.int (2 : Int32)), (.ref b1)])
  refine own_step (fun t k => XS.lloadN X3.here hx rfl (hb hby d15_16) rfl k) ?_
  show own_Fin _ _ _ _ _ _ _ _ (mkF m 17 #[.val (.long q1), .second, .val (.int (5 : Int32)), .val (.ref b1), .val (.int (2 : Int32))] [(.long q1), (.int (2 : Int32)), (.ref b1)])
  refine own_step (fun t k => XS.bipush X3.here hx rfl (hb hby d15_17) k) ?_
  show own_Fin _ _ _ _ _ _ _ _ (mkF m 19 #[.val (.long q1), .second, .val (.int (5 : Int32)), .val (.ref b1), .val (.int (2 : Int32))] [(.int (8 : Int32)), (.long q1), (.int (2 : Int32)), (.ref b1)])
  refine own_step (fun t k => XS.iload X3.here hx rfl (hb hby d15_19) rfl k) ?_
  show own_Fin _ _ _ _ _ _ _ _ (mkF m 21 #[.val (.long q1), .second, .val (.int (5 : Int32)), .val (.ref b1), .val (.int (2 : Int32))] [(.int (2 : Int32)), (.int (8 : Int32)), (.long q1), (.int (2 : Int32)), (.ref b1)])
  refine own_step (fun t k => XS.imul X3.here hx rfl (hb hby d15_21) rfl k) ?_
  show own_Fin _ _ _ _ _ _ _ _ (mkF m 22 #[.val (.long q1), .second, .val (.int (5 : Int32)), .val (.ref b1), .val (.int (2 : Int32))] [(.int (16 : Int32)), (.long q1), (.int (2 : Int32)), (.ref b1)])
  refine own_step (fun t k => XS.lushr X3.here hx rfl (hb hby d15_22) rfl k) ?_
  show own_Fin _ _ _ _ _ _ _ _ (mkF m 23 #[.val (.long q1), .second, .val (.int (5 : Int32)), .val (.ref b1), .val (.int (2 : Int32))] [(.long ((q1.toUInt64 >>> ((16 : Int32) &&& 0x3f).toInt64.toUInt64).toInt64)), (.int (2 : Int32)), (.ref b1)])
  refine own_step (fun t k => XS.l2i X3.here hx rfl (hb hby d15_23) rfl k) ?_
  show own_Fin _ _ _ _ _ _ _ _ (mkF m 24 #[.val (.long q1), .second, .val (.int (5 : Int32)), .val (.ref b1), .val (.int (2 : Int32))] [(.int (((q1.toUInt64 >>> ((16 : Int32) &&& 0x3f).toInt64.toUInt64).toInt64).toInt32)), (.int (2 : Int32)), (.ref b1)])
  refine own_step (fun t k => XS.i2b X3.here hx rfl (hb hby d15_24) rfl k) ?_
  show own_Fin _ _ _ _ _ _ _ _ (mkF m 25 #[.val (.long q1), .second, .val (.int (5 : Int32)), .val (.ref b1), .val (.int (2 : Int32))] [(.int ((((q1.toUInt64 >>> ((16 : Int32) &&& 0x3f).toInt64.toUInt64).toInt64).toInt32).toInt8.toInt32)), (.int (2 : Int32)), (.ref b1)])
  obtain ⟨T4, h4, X4, e4, W4, B4, st4⟩ := own_bastore X3 hx hZ e3 V_b1 (j := (2 : Int32)) (k := 2) rfl (by decide) (own_nar8 _) (x := ((((q1.toUInt64 >>> ((16 : Int32) &&& 0x3f).toInt64.toUInt64).toInt64).toInt32).toInt8.toInt32)) (pc := 25) (Ls := #[.val (.long q1), .second, .val (.int (5 : Int32)), .val (.ref b1), .val (.int (2 : Int32))]) (rest := []) (hb hby d15_25) rfl
  refine own_step st4 ?_
  replace Zs : n0 ≤ h4.size := by rw [W4.size]; exact Zs
  replace K := K.wr W4 (Or.inr sz_b1)
  replace V_b1 := B4
  replace Nf := Fr.snoc X4 Nf g_b1
  show own_Fin _ _ _ _ _ _ _ _ (mkF m 26 #[.val (.long q1), .second, .val (.int (5 : Int32)), .val (.ref b1), .val (.int (2 : Int32))] [])
  refine own_step (fun t k => XS.iinc X4.here hx rfl (hb hby d15_26) rfl (l' := #[.val (.long q1), .second, .val (.int (5 : Int32)), .val (.ref b1), .val (.int (3 : Int32))]) rfl k) ?_
  show own_Fin _ _ _ _ _ _ _ _ (mkF m 29 #[.val (.long q1), .second, .val (.int (5 : Int32)), .val (.ref b1), .val (.int (3 : Int32))] [])
  refine own_step (fun t k => XS.goto X4.here hx rfl (pc0 := 29) (pc' := 7) rfl (hb hby d15_29) (by decide) (by decide) k) ?_
  show own_Fin _ _ _ _ _ _ _ _ (mkF m 7 #[.val (.long q1), .second, .val (.int (5 : Int32)), .val (.ref b1), .val (.int (3 : Int32))] [])
  refine own_step (fun t k => XS.iload X4.here hx rfl (hb hby d15_7) rfl k) ?_
  show own_Fin _ _ _ _ _ _ _ _ (mkF m 9 #[.val (.long q1), .second, .val (.int (5 : Int32)), .val (.ref b1), .val (.int (3 : Int32))] [(.int (3 : Int32))])
  refine own_step (fun t k => XS.iloadN X4.here hx rfl (hb hby d15_9) rfl k) ?_
  show own_Fin _ _ _ _ _ _ _ _ (mkF m 10 #[.val (.long q1), .second, .val (.int (5 : Int32)), .val (.ref b1), .val (.int (3 : Int32))] [(.int (5 : Int32)), (.int (3 : Int32))])
  refine own_step (fun t k => XS.icmpNo X4.here hx rfl (hb hby d15_10) rfl (by decide) k) ?_
  show own_Fin _ _ _ _ _ _ _ _ (mkF m 13 #[.val (.long q1), .second, .val (.int (5 : Int32)), .val (.ref b1), .val (.int (3 : Int32))] [])
  refine own_step (fun t k => XS.aloadN X4.here hx rfl (hb hby d15_13) rfl rfl k) ?_
  show own_Fin _ _ _ _ _ _ _ _ (mkF m 14 #[.val (.long q1), .second, .val (.int (5 : Int32)), .val (.ref b1), .val (.int (3 : Int32))] [(.ref b1)])
  refine own_step (fun t k => XS.iload X4.here hx rfl (hb hby d15_14) rfl k) ?_
  show own_Fin _ _ _ _ _ _ _ _ (mkF m 16 #[.val (.long q1), .second, .val (.int (5 : Int32)), .val (.ref b1), .val (.int (3 : Int32))] [(.int (3 : Int32)), (.ref b1)])
  refine own_step (fun t k => XS.lloadN X4.here hx rfl (hb hby d15_16) rfl k) ?_
  show own_Fin _ _ _ _ _ _ _ _ (mkF m 17 #[.val (.long q1), .second, .val (.int (5 : Int32)), .val (.ref b1), .val (.int (3 : Int32))] [(.long q1), (.int (3 : Int32)), (.ref b1)])
  refine own_step (fun t k => XS.bipush X4.here hx rfl (hb hby d15_17) k) ?_
  show own_Fin _ _ _ _ _ _ _ _ (mkF m 19 #[.val (.long q1), .second, .val (.int (5 : Int32)), .val (.ref b1), .val (.int (3 : Int32))] [(.int (8 : Int32)), (.long q1), (.int (3 : Int32)), (.ref b1)])
  refine own_step (fun t k => XS.iload X4.here hx rfl (hb hby d15_19) rfl k) ?_
  show own_Fin _ _ _ _ _ _ _ _ (mkF m 21 #[.val (.long q1), .second, .val (.int (5 : Int32)), .val (.ref b1), .val (.int (3 : Int32))] [(.int (3 : Int32)), (.int (8 : Int32)), (.long q1), (.int (3 : Int32)), (.ref b1)])
  refine own_step (fun t k => XS.imul X4.here hx rfl (hb hby d15_21) rfl k) ?_
  show own_Fin _ _ _ _ _ _ _ _ (mkF m 22 #[.val (.long q1), .second, .val (.int (5 : Int32)), .val (.ref b1), .val (.int (3 : Int32))] [(.int (24 : Int32)), (.long q1), (.int (3 : Int32)), (.ref b1)])
  refine own_step (fun t k => XS.lushr X4.here hx rfl (hb hby d15_22) rfl k) ?_
  show own_Fin _ _ _ _ _ _ _ _ (mkF m 23 #[.val (.long q1), .second, .val (.int (5 : Int32)), .val (.ref b1), .val (.int (3 : Int32))] [(.long ((q1.toUInt64 >>> ((24 : Int32) &&& 0x3f).toInt64.toUInt64).toInt64)), (.int (3 : Int32)), (.ref b1)])
  refine own_step (fun t k => XS.l2i X4.here hx rfl (hb hby d15_23) rfl k) ?_
  show own_Fin _ _ _ _ _ _ _ _ (mkF m 24 #[.val (.long q1), .second, .val (.int (5 : Int32)), .val (.ref b1), .val (.int (3 : Int32))] [(.int (((q1.toUInt64 >>> ((24 : Int32) &&& 0x3f).toInt64.toUInt64).toInt64).toInt32)), (.int (3 : Int32)), (.ref b1)])
  refine own_step (fun t k => XS.i2b X4.here hx rfl (hb hby d15_24) rfl k) ?_
  show own_Fin _ _ _ _ _ _ _ _ (mkF m 25 #[.val (.long q1), .second, .val (.int (5 : Int32)), .val (.ref b1), .val (.int (3 : Int32))] [(.int ((((q1.toUInt64 >>> ((24 : Int32) &&& 0x3f).toInt64.toUInt64).toInt64).toInt32).toInt8.toInt32)), (.int (3 : Int32)), (.ref b1)])
  obtain ⟨T5, h5, X5, e5, W5, B5, st5⟩ := own_bastore X4 hx hZ e4 V_b1 (j := (3 : Int32)) (k := 3) rfl (by decide) (own_nar8 _) (x := ((((q1.toUInt64 >>> ((24 : Int32) &&& 0x3f).toInt64.toUInt64).toInt64).toInt32).toInt8.toInt32)) (pc := 25) (Ls := #[.val (.long q1), .second, .val (.int (5 : Int32)), .val (.ref b1), .val (.int (3 : Int32))]) (rest := []) (hb hby d15_25) rfl
  refine own_step st5 ?_
  replace Zs : n0 ≤ h5.size := by rw [W5.size]; exact Zs
  replace K := K.wr W5 (Or.inr sz_b1)
  replace V_b1 := B5
  replace Nf := Fr.snoc X5 Nf g_b1
  show own_Fin _ _ _ _ _ _ _ _ (mkF m 26 #[.val (.long q1), .second, .val (.int (5 : Int32)), .val (.ref b1), .val (.int (3 : Int32))] [])
  refine own_step (fun t k => XS.iinc X5.here hx rfl (hb hby d15_26) rfl (l' := #[.val (.long q1), .second, .val (.int (5 : Int32)), .val (.ref b1), .val (.int (4 : Int32))]) rfl k) ?_
  show own_Fin _ _ _ _ _ _ _ _ (mkF m 29 #[.val (.long q1), .second, .val (.int (5 : Int32)), .val (.ref b1), .val (.int (4 : Int32))] [])
  refine own_step (fun t k => XS.goto X5.here hx rfl (pc0 := 29) (pc' := 7) rfl (hb hby d15_29) (by decide) (by decide) k) ?_
  show own_Fin _ _ _ _ _ _ _ _ (mkF m 7 #[.val (.long q1), .second, .val (.int (5 : Int32)), .val (.ref b1), .val (.int (4 : Int32))] [])
  refine own_step (fun t k => XS.iload X5.here hx rfl (hb hby d15_7) rfl k) ?_
  show own_Fin _ _ _ _ _ _ _ _ (mkF m 9 #[.val (.long q1), .second, .val (.int (5 : Int32)), .val (.ref b1), .val (.int (4 : Int32))] [(.int (4 : Int32))])
  refine own_step (fun t k => XS.iloadN X5.here hx rfl (hb hby d15_9) rfl k) ?_
  show own_Fin _ _ _ _ _ _ _ _ (mkF m 10 #[.val (.long q1), .second, .val (.int (5 : Int32)), .val (.ref b1), .val (.int (4 : Int32))] [(.int (5 : Int32)), (.int (4 : Int32))])
  refine own_step (fun t k => XS.icmpNo X5.here hx rfl (hb hby d15_10) rfl (by decide) k) ?_
  show own_Fin _ _ _ _ _ _ _ _ (mkF m 13 #[.val (.long q1), .second, .val (.int (5 : Int32)), .val (.ref b1), .val (.int (4 : Int32))] [])
  refine own_step (fun t k => XS.aloadN X5.here hx rfl (hb hby d15_13) rfl rfl k) ?_
  show own_Fin _ _ _ _ _ _ _ _ (mkF m 14 #[.val (.long q1), .second, .val (.int (5 : Int32)), .val (.ref b1), .val (.int (4 : Int32))] [(.ref b1)])
  refine own_step (fun t k => XS.iload X5.here hx rfl (hb hby d15_14) rfl k) ?_
  show own_Fin _ _ _ _ _ _ _ _ (mkF m 16 #[.val (.long q1), .second, .val (.int (5 : Int32)), .val (.ref b1), .val (.int (4 : Int32))] [(.int (4 : Int32)), (.ref b1)])
  refine own_step (fun t k => XS.lloadN X5.here hx rfl (hb hby d15_16) rfl k) ?_
  show own_Fin _ _ _ _ _ _ _ _ (mkF m 17 #[.val (.long q1), .second, .val (.int (5 : Int32)), .val (.ref b1), .val (.int (4 : Int32))] [(.long q1), (.int (4 : Int32)), (.ref b1)])
  refine own_step (fun t k => XS.bipush X5.here hx rfl (hb hby d15_17) k) ?_
  show own_Fin _ _ _ _ _ _ _ _ (mkF m 19 #[.val (.long q1), .second, .val (.int (5 : Int32)), .val (.ref b1), .val (.int (4 : Int32))] [(.int (8 : Int32)), (.long q1), (.int (4 : Int32)), (.ref b1)])
  refine own_step (fun t k => XS.iload X5.here hx rfl (hb hby d15_19) rfl k) ?_
  show own_Fin _ _ _ _ _ _ _ _ (mkF m 21 #[.val (.long q1), .second, .val (.int (5 : Int32)), .val (.ref b1), .val (.int (4 : Int32))] [(.int (4 : Int32)), (.int (8 : Int32)), (.long q1), (.int (4 : Int32)), (.ref b1)])
  refine own_step (fun t k => XS.imul X5.here hx rfl (hb hby d15_21) rfl k) ?_
  show own_Fin _ _ _ _ _ _ _ _ (mkF m 22 #[.val (.long q1), .second, .val (.int (5 : Int32)), .val (.ref b1), .val (.int (4 : Int32))] [(.int (32 : Int32)), (.long q1), (.int (4 : Int32)), (.ref b1)])
  refine own_step (fun t k => XS.lushr X5.here hx rfl (hb hby d15_22) rfl k) ?_
  show own_Fin _ _ _ _ _ _ _ _ (mkF m 23 #[.val (.long q1), .second, .val (.int (5 : Int32)), .val (.ref b1), .val (.int (4 : Int32))] [(.long ((q1.toUInt64 >>> ((32 : Int32) &&& 0x3f).toInt64.toUInt64).toInt64)), (.int (4 : Int32)), (.ref b1)])
  refine own_step (fun t k => XS.l2i X5.here hx rfl (hb hby d15_23) rfl k) ?_
  show own_Fin _ _ _ _ _ _ _ _ (mkF m 24 #[.val (.long q1), .second, .val (.int (5 : Int32)), .val (.ref b1), .val (.int (4 : Int32))] [(.int (((q1.toUInt64 >>> ((32 : Int32) &&& 0x3f).toInt64.toUInt64).toInt64).toInt32)), (.int (4 : Int32)), (.ref b1)])
  refine own_step (fun t k => XS.i2b X5.here hx rfl (hb hby d15_24) rfl k) ?_
  show own_Fin _ _ _ _ _ _ _ _ (mkF m 25 #[.val (.long q1), .second, .val (.int (5 : Int32)), .val (.ref b1), .val (.int (4 : Int32))] [(.int ((((q1.toUInt64 >>> ((32 : Int32) &&& 0x3f).toInt64.toUInt64).toInt64).toInt32).toInt8.toInt32)), (.int (4 : Int32)), (.ref b1)])
  obtain ⟨T6, h6, X6, e6, W6, B6, st6⟩ := own_bastore X5 hx hZ e5 V_b1 (j := (4 : Int32)) (k := 4) rfl (by decide) (own_nar8 _) (x := ((((q1.toUInt64 >>> ((32 : Int32) &&& 0x3f).toInt64.toUInt64).toInt64).toInt32).toInt8.toInt32)) (pc := 25) (Ls := #[.val (.long q1), .second, .val (.int (5 : Int32)), .val (.ref b1), .val (.int (4 : Int32))]) (rest := []) (hb hby d15_25) rfl
  refine own_step st6 ?_
  replace Zs : n0 ≤ h6.size := by rw [W6.size]; exact Zs
  replace K := K.wr W6 (Or.inr sz_b1)
  replace V_b1 := B6
  replace Nf := Fr.snoc X6 Nf g_b1
  show own_Fin _ _ _ _ _ _ _ _ (mkF m 26 #[.val (.long q1), .second, .val (.int (5 : Int32)), .val (.ref b1), .val (.int (4 : Int32))] [])
  refine own_step (fun t k => XS.iinc X6.here hx rfl (hb hby d15_26) rfl (l' := #[.val (.long q1), .second, .val (.int (5 : Int32)), .val (.ref b1), .val (.int (5 : Int32))]) rfl k) ?_
  show own_Fin _ _ _ _ _ _ _ _ (mkF m 29 #[.val (.long q1), .second, .val (.int (5 : Int32)), .val (.ref b1), .val (.int (5 : Int32))] [])
  refine own_step (fun t k => XS.goto X6.here hx rfl (pc0 := 29) (pc' := 7) rfl (hb hby d15_29) (by decide) (by decide) k) ?_
  show own_Fin _ _ _ _ _ _ _ _ (mkF m 7 #[.val (.long q1), .second, .val (.int (5 : Int32)), .val (.ref b1), .val (.int (5 : Int32))] [])
  refine own_step (fun t k => XS.iload X6.here hx rfl (hb hby d15_7) rfl k) ?_
  show own_Fin _ _ _ _ _ _ _ _ (mkF m 9 #[.val (.long q1), .second, .val (.int (5 : Int32)), .val (.ref b1), .val (.int (5 : Int32))] [(.int (5 : Int32))])
  refine own_step (fun t k => XS.iloadN X6.here hx rfl (hb hby d15_9) rfl k) ?_
  show own_Fin _ _ _ _ _ _ _ _ (mkF m 10 #[.val (.long q1), .second, .val (.int (5 : Int32)), .val (.ref b1), .val (.int (5 : Int32))] [(.int (5 : Int32)), (.int (5 : Int32))])
  refine own_step (fun t k => XS.icmpYes X6.here hx rfl (pc0 := 10) (pc' := 32) rfl (hb hby d15_10) rfl (by decide) (by decide) (by decide) k) ?_
  show own_Fin _ _ _ _ _ _ _ _ (mkF m 32 #[.val (.long q1), .second, .val (.int (5 : Int32)), .val (.ref b1), .val (.int (5 : Int32))] [])
  refine own_step (fun t k => XS.aloadN X6.here hx rfl (hb hby d15_32) rfl rfl k) ?_
  show own_Fin _ _ _ _ _ _ _ _ (mkF m 33 #[.val (.long q1), .second, .val (.int (5 : Int32)), .val (.ref b1), .val (.int (5 : Int32))] [(.ref b1)])
  refine own_retR X6 hx hlk Bd.returns rfl rfl (hb hby d15_33) (by decide) (by decide) e6 ?_
  exact ⟨b1, rfl, Nf, K, g_b1, V_b1.congr (by intro i hi; rcases own_lt5 hi with rfl | rfl | rfl | rfl | rfl <;> rfl)⟩
theorem own_lt6 {i : Nat} (h : i < 6) : i = 0 ∨ i = 1 ∨ i = 2 ∨ i = 3 ∨ i = 4 ∨ i = 5 := by omega
theorem d16_0 : decode prog_22_method_2_code 0 = .ok (.iload_n 2, 1) := by decide +kernel
theorem d16_1 : decode prog_22_method_2_code 1 = .ok (.newarray .byte, 2) := by decide +kernel
theorem d16_3 : decode prog_22_method_2_code 3 = .ok (.astore_n 3, 1) := by decide +kernel
theorem d16_4 : decode prog_22_method_2_code 4 = .ok (.iconst 0, 1) := by decide +kernel
theorem d16_5 : decode prog_22_method_2_code 5 = .ok (.istore 4, 2) := by decide +kernel
theorem d16_7 : decode prog_22_method_2_code 7 = .ok (.iload 4, 2) := by decide +kernel
theorem d16_9 : decode prog_22_method_2_code 9 = .ok (.iload_n 2, 1) := by decide +kernel
theorem d16_10 : decode prog_22_method_2_code 10 = .ok (.if_icmp .ge 22, 3) := by decide +kernel
theorem d16_13 : decode prog_22_method_2_code 13 = .ok (.aload_n 3, 1) := by decide +kernel
theorem d16_14 : decode prog_22_method_2_code 14 = .ok (.iload 4, 2) := by decide +kernel
theorem d16_16 : decode prog_22_method_2_code 16 = .ok (.lload_n 0, 1) := by decide +kernel
theorem d16_17 : decode prog_22_method_2_code 17 = .ok (.bipush 8, 2) := by decide +kernel
theorem d16_19 : decode prog_22_method_2_code 19 = .ok (.iload 4, 2) := by decide +kernel
theorem d16_21 : decode prog_22_method_2_code 21 = .ok (.imul, 1) := by decide +kernel
theorem d16_22 : decode prog_22_method_2_code 22 = .ok (.lushr, 1) := by decide +kernel
theorem d16_23 : decode prog_22_method_2_code 23 = .ok (.l2i, 1) := by decide +kernel
theorem d16_24 : decode prog_22_method_2_code 24 = .ok (.i2b, 1) := by decide +kernel
theorem d16_25 : decode prog_22_method_2_code 25 = .ok (.bastore, 1) := by decide +kernel
theorem d16_26 : decode prog_22_method_2_code 26 = .ok (.iinc 4 1, 3) := by decide +kernel
theorem d16_29 : decode prog_22_method_2_code 29 = .ok (.goto (-22), 3) := by decide +kernel
theorem d16_32 : decode prog_22_method_2_code 32 = .ok (.aload_n 3, 1) := by decide +kernel
theorem d16_33 : decode prog_22_method_2_code 33 = .ok (.areturn, 1) := by decide +kernel
theorem own_pn_16 : plainName "com/example/kern_tablet/kerntablet/schema/IntegerHandler" = true := by first | (simp [plainName, overriddenIn]; done) | decide +kernel
theorem own_ef_16 (m : MethodId) (q1 : Int64) : entryFrame m #[(.long q1), (.int (6 : Int32))] 5 = mkF m 0 #[.val (.long q1), .second, .val (.int (6 : Int32)), .unset, .unset] [] := by first | (simp [entryFrame, mkF, argsToLocals, Value.category]; done) | rfl
abbrev own_R16 : Room := { frames := 0, cells := 1, slots := 6, locals := 0 }
def own_Q16 (Z : State) (q1 : Int64) (h0 : Heap) (n0 : Nat) (v : Option Value) (h : Heap) (L : List Loc) : Prop := ∃ b : Addr, v = some (.ref b) ∧ Fr n0 L ∧ Keep h0 h [] ∧ n0 ≤ b ∧ own_AI Z h b .byte 6 (own_b q1)
set_option maxRecDepth 65536 in
set_option maxHeartbeats 40000000 in
theorem rm16 (l : Launch) (Z : State) (a0 : Array Value) (hw : ∀ d ∈ tables_1, d.before a0 Z = true) (ws : List Jvm.Cond) (q1 : Int64) (h0 : Heap) (n0 : Nat) (Z0 : n0 ≤ h0.size) :
    MetFree l (⟨"com/example/kern_tablet/kerntablet/schema/IntegerHandler", "littleEndian", "(JI)[B"⟩ : MethodName) (head1 (Jvm.Cond.code (⟨"com/example/kern_tablet/kerntablet/schema/IntegerHandler", "littleEndian", "(JI)[B"⟩ : MethodName) prog_22_method_2_code 5 (some (.array .byte)) :: ws) own_R16) (fun a U => a = #[(.long q1), (.int (6 : Int32))] ∧ Z.Warmed39 U.vm ∧ U.heap = h0) (fun _ _ _ _ _ => True) (fun _ U o U' => ∃ v L, o = .returned v ∧ own_Q16 Z q1 h0 n0 v U'.heap L ∧ FrameEnd U o U' L own_R16.cells own_R16.slots) := by
  refine MetFree.of_bodySF (plainFor_of_name own_pn_16) hisR ?_
  intro p e s m args below meth c s₁ Bd hml0 hP hK
  obtain ⟨rfl, hZ, hh⟩ := hP
  have hx := Bd.exec
  have hby := Bd.bytes
  have hlk := BodyLoose.notSynchronized Bd
  have hml : c.maxLocals = 5 := hml0
  have hown : s.vm.findClass "com/example/kern_tablet/kerntablet/schema/IntegerHandler" = some m.cls := (findClass_of_methodNamed Bd.named : s.vm.findClass (⟨"com/example/kern_tablet/kerntablet/schema/IntegerHandler", "littleEndian", "(JI)[B"⟩ : MethodName).cls = some m.cls)
  have hnm := (name_of_methodNamed Bd.named Bd.method).1
  have X0 : Stand p l e own_R16 s m #[(.long q1), (.int (6 : Int32))] below meth c s₁ [] 0 0 := Stand.of_body Bd
  have e0 : s₁.heap = h0 := by rw [← hh, Bd.state]; rfl
  have Nf := Fr.nil n0
  have Zs := Z0
  have K : Keep h0 h0 [] := Keep.refl _ _
  show own_Fin p e below s (own_Q16 Z q1 h0 n0) 1 6 s₁ (entryFrame m #[(.long q1), (.int (6 : Int32))] 5)
  rw [own_ef_16 m q1]
  show own_Fin _ _ _ _ _ _ _ _ (mkF m 0 #[.val (.long q1), .second, .val (.int (6 : Int32)), .unset, .unset] [])
  refine own_step (fun t k => XS.iloadN X0.here hx rfl (hb hby d16_0) rfl k) ?_
  show own_Fin _ _ _ _ _ _ _ _ (mkF m 1 #[.val (.long q1), .second, .val (.int (6 : Int32)), .unset, .unset] [(.int (6 : Int32))])
  obtain ⟨T1, h1, k1, X1, e1, E1, A1, st1⟩ := newP X0 hx hZ (hw _ (List.mem_of_getElem? (i := 4) rfl)) e0 (g := (mkF m 1 #[.val (.long q1), .second, .val (.int (6 : Int32)), .unset, .unset] [(.int (6 : Int32))])) rfl (hb hby d16_1) rfl (by decide) (cap := 6) (by decide) (by decide) (by decide) (by decide)
  obtain ⟨b1, g1⟩ : ∃ z, z = h0.size := ⟨_, rfl⟩
  rw [← g1] at A1 st1
  refine own_step st1 ?_
  have g_b1 : n0 ≤ b1 := Nat.le_trans Zs (Nat.le_of_eq g1.symm)
  have sz_b1 : h0.size ≤ b1 := Nat.le_trans K.1 (Nat.le_of_eq g1.symm)
  replace Zs := Nat.le_trans Zs E1.1
  replace K := K.ext E1
  have V_b1 := own_AI.newB (n := 6) A1 (by decide)
  show own_Fin _ _ _ _ _ _ _ _ (mkF m 3 #[.val (.long q1), .second, .val (.int (6 : Int32)), .unset, .unset] [(.ref b1)])
  refine own_step (fun t k => XS.astoreN X1.here hx rfl (hb hby d16_3) rfl rfl (l' := #[.val (.long q1), .second, .val (.int (6 : Int32)), .val (.ref b1), .unset]) rfl k) ?_
  show own_Fin _ _ _ _ _ _ _ _ (mkF m 4 #[.val (.long q1), .second, .val (.int (6 : Int32)), .val (.ref b1), .unset] [])
  refine own_step (fun t k => XS.iconst X1.here hx rfl (hb hby d16_4) k) ?_
  show own_Fin _ _ _ _ _ _ _ _ (mkF m 5 #[.val (.long q1), .second, .val (.int (6 : Int32)), .val (.ref b1), .unset] [(.int (0 : Int32))])
  refine own_step (fun t k => XS.istore X1.here hx rfl (hb hby d16_5) rfl (l' := #[.val (.long q1), .second, .val (.int (6 : Int32)), .val (.ref b1), .val (.int (0 : Int32))]) rfl k) ?_
  show own_Fin _ _ _ _ _ _ _ _ (mkF m 7 #[.val (.long q1), .second, .val (.int (6 : Int32)), .val (.ref b1), .val (.int (0 : Int32))] [])
  refine own_step (fun t k => XS.iload X1.here hx rfl (hb hby d16_7) rfl k) ?_
  show own_Fin _ _ _ _ _ _ _ _ (mkF m 9 #[.val (.long q1), .second, .val (.int (6 : Int32)), .val (.ref b1), .val (.int (0 : Int32))] [(.int (0 : Int32))])
  refine own_step (fun t k => XS.iloadN X1.here hx rfl (hb hby d16_9) rfl k) ?_
  show own_Fin _ _ _ _ _ _ _ _ (mkF m 10 #[.val (.long q1), .second, .val (.int (6 : Int32)), .val (.ref b1), .val (.int (0 : Int32))] [(.int (6 : Int32)), (.int (0 : Int32))])
  refine own_step (fun t k => XS.icmpNo X1.here hx rfl (hb hby d16_10) rfl (by decide) k) ?_
  show own_Fin _ _ _ _ _ _ _ _ (mkF m 13 #[.val (.long q1), .second, .val (.int (6 : Int32)), .val (.ref b1), .val (.int (0 : Int32))] [])
  refine own_step (fun t k => XS.aloadN X1.here hx rfl (hb hby d16_13) rfl rfl k) ?_
  show own_Fin _ _ _ _ _ _ _ _ (mkF m 14 #[.val (.long q1), .second, .val (.int (6 : Int32)), .val (.ref b1), .val (.int (0 : Int32))] [(.ref b1)])
  refine own_step (fun t k => XS.iload X1.here hx rfl (hb hby d16_14) rfl k) ?_
  show own_Fin _ _ _ _ _ _ _ _ (mkF m 16 #[.val (.long q1), .second, .val (.int (6 : Int32)), .val (.ref b1), .val (.int (0 : Int32))] [(.int (0 : Int32)), (.ref b1)])
  refine own_step (fun t k => XS.lloadN X1.here hx rfl (hb hby d16_16) rfl k) ?_
  show own_Fin _ _ _ _ _ _ _ _ (mkF m 17 #[.val (.long q1), .second, .val (.int (6 : Int32)), .val (.ref b1), .val (.int (0 : Int32))] [(.long q1), (.int (0 : Int32)), (.ref b1)])
  refine own_step (fun t k => XS.bipush X1.here hx rfl (hb hby d16_17) k) ?_
  show own_Fin _ _ _ _ _ _ _ _ (mkF m 19 #[.val (.long q1), .second, .val (.int (6 : Int32)), .val (.ref b1), .val (.int (0 : Int32))] [(.int (8 : Int32)), (.long q1), (.int (0 : Int32)), (.ref b1)])
  refine own_step (fun t k => XS.iload X1.here hx rfl (hb hby d16_19) rfl k) ?_
  show own_Fin _ _ _ _ _ _ _ _ (mkF m 21 #[.val (.long q1), .second, .val (.int (6 : Int32)), .val (.ref b1), .val (.int (0 : Int32))] [(.int (0 : Int32)), (.int (8 : Int32)), (.long q1), (.int (0 : Int32)), (.ref b1)])
  refine own_step (fun t k => XS.imul X1.here hx rfl (hb hby d16_21) rfl k) ?_
  show own_Fin _ _ _ _ _ _ _ _ (mkF m 22 #[.val (.long q1), .second, .val (.int (6 : Int32)), .val (.ref b1), .val (.int (0 : Int32))] [(.int (0 : Int32)), (.long q1), (.int (0 : Int32)), (.ref b1)])
  refine own_step (fun t k => XS.lushr X1.here hx rfl (hb hby d16_22) rfl k) ?_
  show own_Fin _ _ _ _ _ _ _ _ (mkF m 23 #[.val (.long q1), .second, .val (.int (6 : Int32)), .val (.ref b1), .val (.int (0 : Int32))] [(.long ((q1.toUInt64 >>> ((0 : Int32) &&& 0x3f).toInt64.toUInt64).toInt64)), (.int (0 : Int32)), (.ref b1)])
  refine own_step (fun t k => XS.l2i X1.here hx rfl (hb hby d16_23) rfl k) ?_
  show own_Fin _ _ _ _ _ _ _ _ (mkF m 24 #[.val (.long q1), .second, .val (.int (6 : Int32)), .val (.ref b1), .val (.int (0 : Int32))] [(.int (((q1.toUInt64 >>> ((0 : Int32) &&& 0x3f).toInt64.toUInt64).toInt64).toInt32)), (.int (0 : Int32)), (.ref b1)])
  refine own_step (fun t k => XS.i2b X1.here hx rfl (hb hby d16_24) rfl k) ?_
  show own_Fin _ _ _ _ _ _ _ _ (mkF m 25 #[.val (.long q1), .second, .val (.int (6 : Int32)), .val (.ref b1), .val (.int (0 : Int32))] [(.int ((((q1.toUInt64 >>> ((0 : Int32) &&& 0x3f).toInt64.toUInt64).toInt64).toInt32).toInt8.toInt32)), (.int (0 : Int32)), (.ref b1)])
  obtain ⟨T2, h2, X2, e2, W2, B2, st2⟩ := own_bastore X1 hx hZ e1 V_b1 (j := (0 : Int32)) (k := 0) rfl (by decide) (own_nar8 _) (x := ((((q1.toUInt64 >>> ((0 : Int32) &&& 0x3f).toInt64.toUInt64).toInt64).toInt32).toInt8.toInt32)) (pc := 25) (Ls := #[.val (.long q1), .second, .val (.int (6 : Int32)), .val (.ref b1), .val (.int (0 : Int32))]) (rest := []) (hb hby d16_25) rfl
  refine own_step st2 ?_
  replace Zs : n0 ≤ h2.size := by rw [W2.size]; exact Zs
  replace K := K.wr W2 (Or.inr sz_b1)
  replace V_b1 := B2
  replace Nf := Fr.snoc X2 Nf g_b1
  show own_Fin _ _ _ _ _ _ _ _ (mkF m 26 #[.val (.long q1), .second, .val (.int (6 : Int32)), .val (.ref b1), .val (.int (0 : Int32))] [])
  refine own_step (fun t k => XS.iinc X2.here hx rfl (hb hby d16_26) rfl (l' := #[.val (.long q1), .second, .val (.int (6 : Int32)), .val (.ref b1), .val (.int (1 : Int32))]) rfl k) ?_
  show own_Fin _ _ _ _ _ _ _ _ (mkF m 29 #[.val (.long q1), .second, .val (.int (6 : Int32)), .val (.ref b1), .val (.int (1 : Int32))] [])
  refine own_step (fun t k => XS.goto X2.here hx rfl (pc0 := 29) (pc' := 7) rfl (hb hby d16_29) (by decide) (by decide) k) ?_
  show own_Fin _ _ _ _ _ _ _ _ (mkF m 7 #[.val (.long q1), .second, .val (.int (6 : Int32)), .val (.ref b1), .val (.int (1 : Int32))] [])
  refine own_step (fun t k => XS.iload X2.here hx rfl (hb hby d16_7) rfl k) ?_
  show own_Fin _ _ _ _ _ _ _ _ (mkF m 9 #[.val (.long q1), .second, .val (.int (6 : Int32)), .val (.ref b1), .val (.int (1 : Int32))] [(.int (1 : Int32))])
  refine own_step (fun t k => XS.iloadN X2.here hx rfl (hb hby d16_9) rfl k) ?_
  show own_Fin _ _ _ _ _ _ _ _ (mkF m 10 #[.val (.long q1), .second, .val (.int (6 : Int32)), .val (.ref b1), .val (.int (1 : Int32))] [(.int (6 : Int32)), (.int (1 : Int32))])
  refine own_step (fun t k => XS.icmpNo X2.here hx rfl (hb hby d16_10) rfl (by decide) k) ?_
  show own_Fin _ _ _ _ _ _ _ _ (mkF m 13 #[.val (.long q1), .second, .val (.int (6 : Int32)), .val (.ref b1), .val (.int (1 : Int32))] [])
  refine own_step (fun t k => XS.aloadN X2.here hx rfl (hb hby d16_13) rfl rfl k) ?_
  show own_Fin _ _ _ _ _ _ _ _ (mkF m 14 #[.val (.long q1), .second, .val (.int (6 : Int32)), .val (.ref b1), .val (.int (1 : Int32))] [(.ref b1)])
  refine own_step (fun t k => XS.iload X2.here hx rfl (hb hby d16_14) rfl k) ?_
  show own_Fin _ _ _ _ _ _ _ _ (mkF m 16 #[.val (.long q1), .second, .val (.int (6 : Int32)), .val (.ref b1), .val (.int (1 : Int32))] [(.int (1 : Int32)), (.ref b1)])
  refine own_step (fun t k => XS.lloadN X2.here hx rfl (hb hby d16_16) rfl k) ?_
  show own_Fin _ _ _ _ _ _ _ _ (mkF m 17 #[.val (.long q1), .second, .val (.int (6 : Int32)), .val (.ref b1), .val (.int (1 : Int32))] [(.long q1), (.int (1 : Int32)), (.ref b1)])
  refine own_step (fun t k => XS.bipush X2.here hx rfl (hb hby d16_17) k) ?_
  show own_Fin _ _ _ _ _ _ _ _ (mkF m 19 #[.val (.long q1), .second, .val (.int (6 : Int32)), .val (.ref b1), .val (.int (1 : Int32))] [(.int (8 : Int32)), (.long q1), (.int (1 : Int32)), (.ref b1)])
  refine own_step (fun t k => XS.iload X2.here hx rfl (hb hby d16_19) rfl k) ?_
  show own_Fin _ _ _ _ _ _ _ _ (mkF m 21 #[.val (.long q1), .second, .val (.int (6 : Int32)), .val (.ref b1), .val (.int (1 : Int32))] [(.int (1 : Int32)), (.int (8 : Int32)), (.long q1), (.int (1 : Int32)), (.ref b1)])
  refine own_step (fun t k => XS.imul X2.here hx rfl (hb hby d16_21) rfl k) ?_
  show own_Fin _ _ _ _ _ _ _ _ (mkF m 22 #[.val (.long q1), .second, .val (.int (6 : Int32)), .val (.ref b1), .val (.int (1 : Int32))] [(.int (8 : Int32)), (.long q1), (.int (1 : Int32)), (.ref b1)])
  refine own_step (fun t k => XS.lushr X2.here hx rfl (hb hby d16_22) rfl k) ?_
  show own_Fin _ _ _ _ _ _ _ _ (mkF m 23 #[.val (.long q1), .second, .val (.int (6 : Int32)), .val (.ref b1), .val (.int (1 : Int32))] [(.long ((q1.toUInt64 >>> ((8 : Int32) &&& 0x3f).toInt64.toUInt64).toInt64)), (.int (1 : Int32)), (.ref b1)])
  refine own_step (fun t k => XS.l2i X2.here hx rfl (hb hby d16_23) rfl k) ?_
  show own_Fin _ _ _ _ _ _ _ _ (mkF m 24 #[.val (.long q1), .second, .val (.int (6 : Int32)), .val (.ref b1), .val (.int (1 : Int32))] [(.int (((q1.toUInt64 >>> ((8 : Int32) &&& 0x3f).toInt64.toUInt64).toInt64).toInt32)), (.int (1 : Int32)), (.ref b1)])
  refine own_step (fun t k => XS.i2b X2.here hx rfl (hb hby d16_24) rfl k) ?_
  show own_Fin _ _ _ _ _ _ _ _ (mkF m 25 #[.val (.long q1), .second, .val (.int (6 : Int32)), .val (.ref b1), .val (.int (1 : Int32))] [(.int ((((q1.toUInt64 >>> ((8 : Int32) &&& 0x3f).toInt64.toUInt64).toInt64).toInt32).toInt8.toInt32)), (.int (1 : Int32)), (.ref b1)])
  obtain ⟨T3, h3, X3, e3, W3, B3, st3⟩ := own_bastore X2 hx hZ e2 V_b1 (j := (1 : Int32)) (k := 1) rfl (by decide) (own_nar8 _) (x := ((((q1.toUInt64 >>> ((8 : Int32) &&& 0x3f).toInt64.toUInt64).toInt64).toInt32).toInt8.toInt32)) (pc := 25) (Ls := #[.val (.long q1), .second, .val (.int (6 : Int32)), .val (.ref b1), .val (.int (1 : Int32))]) (rest := []) (hb hby d16_25) rfl
  refine own_step st3 ?_
  replace Zs : n0 ≤ h3.size := by rw [W3.size]; exact Zs
  replace K := K.wr W3 (Or.inr sz_b1)
  replace V_b1 := B3
  replace Nf := Fr.snoc X3 Nf g_b1
  show own_Fin _ _ _ _ _ _ _ _ (mkF m 26 #[.val (.long q1), .second, .val (.int (6 : Int32)), .val (.ref b1), .val (.int (1 : Int32))] [])
  refine own_step (fun t k => XS.iinc X3.here hx rfl (hb hby d16_26) rfl (l' := #[.val (.long q1), .second, .val (.int (6 : Int32)), .val (.ref b1), .val (.int (2 : Int32))]) rfl k) ?_
  show own_Fin _ _ _ _ _ _ _ _ (mkF m 29 #[.val (.long q1), .second, .val (.int (6 : Int32)), .val (.ref b1), .val (.int (2 : Int32))] [])
  refine own_step (fun t k => XS.goto X3.here hx rfl (pc0 := 29) (pc' := 7) rfl (hb hby d16_29) (by decide) (by decide) k) ?_
  show own_Fin _ _ _ _ _ _ _ _ (mkF m 7 #[.val (.long q1), .second, .val (.int (6 : Int32)), .val (.ref b1), .val (.int (2 : Int32))] [])
  refine own_step (fun t k => XS.iload X3.here hx rfl (hb hby d16_7) rfl k) ?_
  show own_Fin _ _ _ _ _ _ _ _ (mkF m 9 #[.val (.long q1), .second, .val (.int (6 : Int32)), .val (.ref b1), .val (.int (2 : Int32))] [(.int (2 : Int32))])
  refine own_step (fun t k => XS.iloadN X3.here hx rfl (hb hby d16_9) rfl k) ?_
  show own_Fin _ _ _ _ _ _ _ _ (mkF m 10 #[.val (.long q1), .second, .val (.int (6 : Int32)), .val (.ref b1), .val (.int (2 : Int32))] [(.int (6 : Int32)), (.int (2 : Int32))])
  refine own_step (fun t k => XS.icmpNo X3.here hx rfl (hb hby d16_10) rfl (by decide) k) ?_
  show own_Fin _ _ _ _ _ _ _ _ (mkF m 13 #[.val (.long q1), .second, .val (.int (6 : Int32)), .val (.ref b1), .val (.int (2 : Int32))] [])
  refine own_step (fun t k => XS.aloadN X3.here hx rfl (hb hby d16_13) rfl rfl k) ?_
  show own_Fin _ _ _ _ _ _ _ _ (mkF m 14 #[.val (.long q1), .second, .val (.int (6 : Int32)), .val (.ref b1), .val (.int (2 : Int32))] [(.ref b1)])
  refine own_step (fun t k => XS.iload X3.here hx rfl (hb hby d16_14) rfl k) ?_
  show own_Fin _ _ _ _ _ _ _ _ (mkF m 16 #[.val (.long q1), .second, .val (.int (6 : Int32)), .val (.ref b1), .val (.int (2 : Int32))] [(.int (2 : Int32)), (.ref b1)])
  refine own_step (fun t k => XS.lloadN X3.here hx rfl (hb hby d16_16) rfl k) ?_
  show own_Fin _ _ _ _ _ _ _ _ (mkF m 17 #[.val (.long q1), .second, .val (.int (6 : Int32)), .val (.ref b1), .val (.int (2 : Int32))] [(.long q1), (.int (2 : Int32)), (.ref b1)])
  refine own_step (fun t k => XS.bipush X3.here hx rfl (hb hby d16_17) k) ?_
  show own_Fin _ _ _ _ _ _ _ _ (mkF m 19 #[.val (.long q1), .second, .val (.int (6 : Int32)), .val (.ref b1), .val (.int (2 : Int32))] [(.int (8 : Int32)), (.long q1), (.int (2 : Int32)), (.ref b1)])
  refine own_step (fun t k => XS.iload X3.here hx rfl (hb hby d16_19) rfl k) ?_
  show own_Fin _ _ _ _ _ _ _ _ (mkF m 21 #[.val (.long q1), .second, .val (.int (6 : Int32)), .val (.ref b1), .val (.int (2 : Int32))] [(.int (2 : Int32)), (.int (8 : Int32)), (.long q1), (.int (2 : Int32)), (.ref b1)])
  refine own_step (fun t k => XS.imul X3.here hx rfl (hb hby d16_21) rfl k) ?_
  show own_Fin _ _ _ _ _ _ _ _ (mkF m 22 #[.val (.long q1), .second, .val (.int (6 : Int32)), .val (.ref b1), .val (.int (2 : Int32))] [(.int (16 : Int32)), (.long q1), (.int (2 : Int32)), (.ref b1)])
  refine own_step (fun t k => XS.lushr X3.here hx rfl (hb hby d16_22) rfl k) ?_
  show own_Fin _ _ _ _ _ _ _ _ (mkF m 23 #[.val (.long q1), .second, .val (.int (6 : Int32)), .val (.ref b1), .val (.int (2 : Int32))] [(.long ((q1.toUInt64 >>> ((16 : Int32) &&& 0x3f).toInt64.toUInt64).toInt64)), (.int (2 : Int32)), (.ref b1)])
  refine own_step (fun t k => XS.l2i X3.here hx rfl (hb hby d16_23) rfl k) ?_
  show own_Fin _ _ _ _ _ _ _ _ (mkF m 24 #[.val (.long q1), .second, .val (.int (6 : Int32)), .val (.ref b1), .val (.int (2 : Int32))] [(.int (((q1.toUInt64 >>> ((16 : Int32) &&& 0x3f).toInt64.toUInt64).toInt64).toInt32)), (.int (2 : Int32)), (.ref b1)])
  refine own_step (fun t k => XS.i2b X3.here hx rfl (hb hby d16_24) rfl k) ?_
  show own_Fin _ _ _ _ _ _ _ _ (mkF m 25 #[.val (.long q1), .second, .val (.int (6 : Int32)), .val (.ref b1), .val (.int (2 : Int32))] [(.int ((((q1.toUInt64 >>> ((16 : Int32) &&& 0x3f).toInt64.toUInt64).toInt64).toInt32).toInt8.toInt32)), (.int (2 : Int32)), (.ref b1)])
  obtain ⟨T4, h4, X4, e4, W4, B4, st4⟩ := own_bastore X3 hx hZ e3 V_b1 (j := (2 : Int32)) (k := 2) rfl (by decide) (own_nar8 _) (x := ((((q1.toUInt64 >>> ((16 : Int32) &&& 0x3f).toInt64.toUInt64).toInt64).toInt32).toInt8.toInt32)) (pc := 25) (Ls := #[.val (.long q1), .second, .val (.int (6 : Int32)), .val (.ref b1), .val (.int (2 : Int32))]) (rest := []) (hb hby d16_25) rfl
  refine own_step st4 ?_
  replace Zs : n0 ≤ h4.size := by rw [W4.size]; exact Zs
  replace K := K.wr W4 (Or.inr sz_b1)
  replace V_b1 := B4
  replace Nf := Fr.snoc X4 Nf g_b1
  show own_Fin _ _ _ _ _ _ _ _ (mkF m 26 #[.val (.long q1), .second, .val (.int (6 : Int32)), .val (.ref b1), .val (.int (2 : Int32))] [])
  refine own_step (fun t k => XS.iinc X4.here hx rfl (hb hby d16_26) rfl (l' := #[.val (.long q1), .second, .val (.int (6 : Int32)), .val (.ref b1), .val (.int (3 : Int32))]) rfl k) ?_
  show own_Fin _ _ _ _ _ _ _ _ (mkF m 29 #[.val (.long q1), .second, .val (.int (6 : Int32)), .val (.ref b1), .val (.int (3 : Int32))] [])
  refine own_step (fun t k => XS.goto X4.here hx rfl (pc0 := 29) (pc' := 7) rfl (hb hby d16_29) (by decide) (by decide) k) ?_
  show own_Fin _ _ _ _ _ _ _ _ (mkF m 7 #[.val (.long q1), .second, .val (.int (6 : Int32)), .val (.ref b1), .val (.int (3 : Int32))] [])
  refine own_step (fun t k => XS.iload X4.here hx rfl (hb hby d16_7) rfl k) ?_
  show own_Fin _ _ _ _ _ _ _ _ (mkF m 9 #[.val (.long q1), .second, .val (.int (6 : Int32)), .val (.ref b1), .val (.int (3 : Int32))] [(.int (3 : Int32))])
  refine own_step (fun t k => XS.iloadN X4.here hx rfl (hb hby d16_9) rfl k) ?_
  show own_Fin _ _ _ _ _ _ _ _ (mkF m 10 #[.val (.long q1), .second, .val (.int (6 : Int32)), .val (.ref b1), .val (.int (3 : Int32))] [(.int (6 : Int32)), (.int (3 : Int32))])
  refine own_step (fun t k => XS.icmpNo X4.here hx rfl (hb hby d16_10) rfl (by decide) k) ?_
  show own_Fin _ _ _ _ _ _ _ _ (mkF m 13 #[.val (.long q1), .second, .val (.int (6 : Int32)), .val (.ref b1), .val (.int (3 : Int32))] [])
  refine own_step (fun t k => XS.aloadN X4.here hx rfl (hb hby d16_13) rfl rfl k) ?_
  show own_Fin _ _ _ _ _ _ _ _ (mkF m 14 #[.val (.long q1), .second, .val (.int (6 : Int32)), .val (.ref b1), .val (.int (3 : Int32))] [(.ref b1)])
  refine own_step (fun t k => XS.iload X4.here hx rfl (hb hby d16_14) rfl k) ?_
  show own_Fin _ _ _ _ _ _ _ _ (mkF m 16 #[.val (.long q1), .second, .val (.int (6 : Int32)), .val (.ref b1), .val (.int (3 : Int32))] [(.int (3 : Int32)), (.ref b1)])
  refine own_step (fun t k => XS.lloadN X4.here hx rfl (hb hby d16_16) rfl k) ?_
  show own_Fin _ _ _ _ _ _ _ _ (mkF m 17 #[.val (.long q1), .second, .val (.int (6 : Int32)), .val (.ref b1), .val (.int (3 : Int32))] [(.long q1), (.int (3 : Int32)), (.ref b1)])
  refine own_step (fun t k => XS.bipush X4.here hx rfl (hb hby d16_17) k) ?_
  show own_Fin _ _ _ _ _ _ _ _ (mkF m 19 #[.val (.long q1), .second, .val (.int (6 : Int32)), .val (.ref b1), .val (.int (3 : Int32))] [(.int (8 : Int32)), (.long q1), (.int (3 : Int32)), (.ref b1)])
  refine own_step (fun t k => XS.iload X4.here hx rfl (hb hby d16_19) rfl k) ?_
  show own_Fin _ _ _ _ _ _ _ _ (mkF m 21 #[.val (.long q1), .second, .val (.int (6 : Int32)), .val (.ref b1), .val (.int (3 : Int32))] [(.int (3 : Int32)), (.int (8 : Int32)), (.long q1), (.int (3 : Int32)), (.ref b1)])
  refine own_step (fun t k => XS.imul X4.here hx rfl (hb hby d16_21) rfl k) ?_
  show own_Fin _ _ _ _ _ _ _ _ (mkF m 22 #[.val (.long q1), .second, .val (.int (6 : Int32)), .val (.ref b1), .val (.int (3 : Int32))] [(.int (24 : Int32)), (.long q1), (.int (3 : Int32)), (.ref b1)])
  refine own_step (fun t k => XS.lushr X4.here hx rfl (hb hby d16_22) rfl k) ?_
  show own_Fin _ _ _ _ _ _ _ _ (mkF m 23 #[.val (.long q1), .second, .val (.int (6 : Int32)), .val (.ref b1), .val (.int (3 : Int32))] [(.long ((q1.toUInt64 >>> ((24 : Int32) &&& 0x3f).toInt64.toUInt64).toInt64)), (.int (3 : Int32)), (.ref b1)])
  refine own_step (fun t k => XS.l2i X4.here hx rfl (hb hby d16_23) rfl k) ?_
  show own_Fin _ _ _ _ _ _ _ _ (mkF m 24 #[.val (.long q1), .second, .val (.int (6 : Int32)), .val (.ref b1), .val (.int (3 : Int32))] [(.int (((q1.toUInt64 >>> ((24 : Int32) &&& 0x3f).toInt64.toUInt64).toInt64).toInt32)), (.int (3 : Int32)), (.ref b1)])
  refine own_step (fun t k => XS.i2b X4.here hx rfl (hb hby d16_24) rfl k) ?_
  show own_Fin _ _ _ _ _ _ _ _ (mkF m 25 #[.val (.long q1), .second, .val (.int (6 : Int32)), .val (.ref b1), .val (.int (3 : Int32))] [(.int ((((q1.toUInt64 >>> ((24 : Int32) &&& 0x3f).toInt64.toUInt64).toInt64).toInt32).toInt8.toInt32)), (.int (3 : Int32)), (.ref b1)])
  obtain ⟨T5, h5, X5, e5, W5, B5, st5⟩ := own_bastore X4 hx hZ e4 V_b1 (j := (3 : Int32)) (k := 3) rfl (by decide) (own_nar8 _) (x := ((((q1.toUInt64 >>> ((24 : Int32) &&& 0x3f).toInt64.toUInt64).toInt64).toInt32).toInt8.toInt32)) (pc := 25) (Ls := #[.val (.long q1), .second, .val (.int (6 : Int32)), .val (.ref b1), .val (.int (3 : Int32))]) (rest := []) (hb hby d16_25) rfl
  refine own_step st5 ?_
  replace Zs : n0 ≤ h5.size := by rw [W5.size]; exact Zs
  replace K := K.wr W5 (Or.inr sz_b1)
  replace V_b1 := B5
  replace Nf := Fr.snoc X5 Nf g_b1
  show own_Fin _ _ _ _ _ _ _ _ (mkF m 26 #[.val (.long q1), .second, .val (.int (6 : Int32)), .val (.ref b1), .val (.int (3 : Int32))] [])
  refine own_step (fun t k => XS.iinc X5.here hx rfl (hb hby d16_26) rfl (l' := #[.val (.long q1), .second, .val (.int (6 : Int32)), .val (.ref b1), .val (.int (4 : Int32))]) rfl k) ?_
  show own_Fin _ _ _ _ _ _ _ _ (mkF m 29 #[.val (.long q1), .second, .val (.int (6 : Int32)), .val (.ref b1), .val (.int (4 : Int32))] [])
  refine own_step (fun t k => XS.goto X5.here hx rfl (pc0 := 29) (pc' := 7) rfl (hb hby d16_29) (by decide) (by decide) k) ?_
  show own_Fin _ _ _ _ _ _ _ _ (mkF m 7 #[.val (.long q1), .second, .val (.int (6 : Int32)), .val (.ref b1), .val (.int (4 : Int32))] [])
  refine own_step (fun t k => XS.iload X5.here hx rfl (hb hby d16_7) rfl k) ?_
  show own_Fin _ _ _ _ _ _ _ _ (mkF m 9 #[.val (.long q1), .second, .val (.int (6 : Int32)), .val (.ref b1), .val (.int (4 : Int32))] [(.int (4 : Int32))])
  refine own_step (fun t k => XS.iloadN X5.here hx rfl (hb hby d16_9) rfl k) ?_
  show own_Fin _ _ _ _ _ _ _ _ (mkF m 10 #[.val (.long q1), .second, .val (.int (6 : Int32)), .val (.ref b1), .val (.int (4 : Int32))] [(.int (6 : Int32)), (.int (4 : Int32))])
  refine own_step (fun t k => XS.icmpNo X5.here hx rfl (hb hby d16_10) rfl (by decide) k) ?_
  show own_Fin _ _ _ _ _ _ _ _ (mkF m 13 #[.val (.long q1), .second, .val (.int (6 : Int32)), .val (.ref b1), .val (.int (4 : Int32))] [])
  refine own_step (fun t k => XS.aloadN X5.here hx rfl (hb hby d16_13) rfl rfl k) ?_
  show own_Fin _ _ _ _ _ _ _ _ (mkF m 14 #[.val (.long q1), .second, .val (.int (6 : Int32)), .val (.ref b1), .val (.int (4 : Int32))] [(.ref b1)])
  refine own_step (fun t k => XS.iload X5.here hx rfl (hb hby d16_14) rfl k) ?_
  show own_Fin _ _ _ _ _ _ _ _ (mkF m 16 #[.val (.long q1), .second, .val (.int (6 : Int32)), .val (.ref b1), .val (.int (4 : Int32))] [(.int (4 : Int32)), (.ref b1)])
  refine own_step (fun t k => XS.lloadN X5.here hx rfl (hb hby d16_16) rfl k) ?_
  show own_Fin _ _ _ _ _ _ _ _ (mkF m 17 #[.val (.long q1), .second, .val (.int (6 : Int32)), .val (.ref b1), .val (.int (4 : Int32))] [(.long q1), (.int (4 : Int32)), (.ref b1)])
  refine own_step (fun t k => XS.bipush X5.here hx rfl (hb hby d16_17) k) ?_
  show own_Fin _ _ _ _ _ _ _ _ (mkF m 19 #[.val (.long q1), .second, .val (.int (6 : Int32)), .val (.ref b1), .val (.int (4 : Int32))] [(.int (8 : Int32)), (.long q1), (.int (4 : Int32)), (.ref b1)])
  refine own_step (fun t k => XS.iload X5.here hx rfl (hb hby d16_19) rfl k) ?_
  show own_Fin _ _ _ _ _ _ _ _ (mkF m 21 #[.val (.long q1), .second, .val (.int (6 : Int32)), .val (.ref b1), .val (.int (4 : Int32))] [(.int (4 : Int32)), (.int (8 : Int32)), (.long q1), (.int (4 : Int32)), (.ref b1)])
  refine own_step (fun t k => XS.imul X5.here hx rfl (hb hby d16_21) rfl k) ?_
  show own_Fin _ _ _ _ _ _ _ _ (mkF m 22 #[.val (.long q1), .second, .val (.int (6 : Int32)), .val (.ref b1), .val (.int (4 : Int32))] [(.int (32 : Int32)), (.long q1), (.int (4 : Int32)), (.ref b1)])
  refine own_step (fun t k => XS.lushr X5.here hx rfl (hb hby d16_22) rfl k) ?_
  show own_Fin _ _ _ _ _ _ _ _ (mkF m 23 #[.val (.long q1), .second, .val (.int (6 : Int32)), .val (.ref b1), .val (.int (4 : Int32))] [(.long ((q1.toUInt64 >>> ((32 : Int32) &&& 0x3f).toInt64.toUInt64).toInt64)), (.int (4 : Int32)), (.ref b1)])
  refine own_step (fun t k => XS.l2i X5.here hx rfl (hb hby d16_23) rfl k) ?_
  show own_Fin _ _ _ _ _ _ _ _ (mkF m 24 #[.val (.long q1), .second, .val (.int (6 : Int32)), .val (.ref b1), .val (.int (4 : Int32))] [(.int (((q1.toUInt64 >>> ((32 : Int32) &&& 0x3f).toInt64.toUInt64).toInt64).toInt32)), (.int (4 : Int32)), (.ref b1)])
  refine own_step (fun t k => XS.i2b X5.here hx rfl (hb hby d16_24) rfl k) ?_
  show own_Fin _ _ _ _ _ _ _ _ (mkF m 25 #[.val (.long q1), .second, .val (.int (6 : Int32)), .val (.ref b1), .val (.int (4 : Int32))] [(.int ((((q1.toUInt64 >>> ((32 : Int32) &&& 0x3f).toInt64.toUInt64).toInt64).toInt32).toInt8.toInt32)), (.int (4 : Int32)), (.ref b1)])
  obtain ⟨T6, h6, X6, e6, W6, B6, st6⟩ := own_bastore X5 hx hZ e5 V_b1 (j := (4 : Int32)) (k := 4) rfl (by decide) (own_nar8 _) (x := ((((q1.toUInt64 >>> ((32 : Int32) &&& 0x3f).toInt64.toUInt64).toInt64).toInt32).toInt8.toInt32)) (pc := 25) (Ls := #[.val (.long q1), .second, .val (.int (6 : Int32)), .val (.ref b1), .val (.int (4 : Int32))]) (rest := []) (hb hby d16_25) rfl
  refine own_step st6 ?_
  replace Zs : n0 ≤ h6.size := by rw [W6.size]; exact Zs
  replace K := K.wr W6 (Or.inr sz_b1)
  replace V_b1 := B6
  replace Nf := Fr.snoc X6 Nf g_b1
  show own_Fin _ _ _ _ _ _ _ _ (mkF m 26 #[.val (.long q1), .second, .val (.int (6 : Int32)), .val (.ref b1), .val (.int (4 : Int32))] [])
  refine own_step (fun t k => XS.iinc X6.here hx rfl (hb hby d16_26) rfl (l' := #[.val (.long q1), .second, .val (.int (6 : Int32)), .val (.ref b1), .val (.int (5 : Int32))]) rfl k) ?_
  show own_Fin _ _ _ _ _ _ _ _ (mkF m 29 #[.val (.long q1), .second, .val (.int (6 : Int32)), .val (.ref b1), .val (.int (5 : Int32))] [])
  refine own_step (fun t k => XS.goto X6.here hx rfl (pc0 := 29) (pc' := 7) rfl (hb hby d16_29) (by decide) (by decide) k) ?_
  show own_Fin _ _ _ _ _ _ _ _ (mkF m 7 #[.val (.long q1), .second, .val (.int (6 : Int32)), .val (.ref b1), .val (.int (5 : Int32))] [])
  refine own_step (fun t k => XS.iload X6.here hx rfl (hb hby d16_7) rfl k) ?_
  show own_Fin _ _ _ _ _ _ _ _ (mkF m 9 #[.val (.long q1), .second, .val (.int (6 : Int32)), .val (.ref b1), .val (.int (5 : Int32))] [(.int (5 : Int32))])
  refine own_step (fun t k => XS.iloadN X6.here hx rfl (hb hby d16_9) rfl k) ?_
  show own_Fin _ _ _ _ _ _ _ _ (mkF m 10 #[.val (.long q1), .second, .val (.int (6 : Int32)), .val (.ref b1), .val (.int (5 : Int32))] [(.int (6 : Int32)), (.int (5 : Int32))])
  refine own_step (fun t k => XS.icmpNo X6.here hx rfl (hb hby d16_10) rfl (by decide) k) ?_
  show own_Fin _ _ _ _ _ _ _ _ (mkF m 13 #[.val (.long q1), .second, .val (.int (6 : Int32)), .val (.ref b1), .val (.int (5 : Int32))] [])
  refine own_step (fun t k => XS.aloadN X6.here hx rfl (hb hby d16_13) rfl rfl k) ?_
  show own_Fin _ _ _ _ _ _ _ _ (mkF m 14 #[.val (.long q1), .second, .val (.int (6 : Int32)), .val (.ref b1), .val (.int (5 : Int32))] [(.ref b1)])
  refine own_step (fun t k => XS.iload X6.here hx rfl (hb hby d16_14) rfl k) ?_
  show own_Fin _ _ _ _ _ _ _ _ (mkF m 16 #[.val (.long q1), .second, .val (.int (6 : Int32)), .val (.ref b1), .val (.int (5 : Int32))] [(.int (5 : Int32)), (.ref b1)])
  refine own_step (fun t k => XS.lloadN X6.here hx rfl (hb hby d16_16) rfl k) ?_
  show own_Fin _ _ _ _ _ _ _ _ (mkF m 17 #[.val (.long q1), .second, .val (.int (6 : Int32)), .val (.ref b1), .val (.int (5 : Int32))] [(.long q1), (.int (5 : Int32)), (.ref b1)])
  refine own_step (fun t k => XS.bipush X6.here hx rfl (hb hby d16_17) k) ?_
  show own_Fin _ _ _ _ _ _ _ _ (mkF m 19 #[.val (.long q1), .second, .val (.int (6 : Int32)), .val (.ref b1), .val (.int (5 : Int32))] [(.int (8 : Int32)), (.long q1), (.int (5 : Int32)), (.ref b1)])
  refine own_step (fun t k => XS.iload X6.here hx rfl (hb hby d16_19) rfl k) ?_
  show own_Fin _ _ _ _ _ _ _ _ (mkF m 21 #[.val (.long q1), .second, .val (.int (6 : Int32)), .val (.ref b1), .val (.int (5 : Int32))] [(.int (5 : Int32)), (.int (8 : Int32)), (.long q1), (.int (5 : Int32)), (.ref b1)])
  refine own_step (fun t k => XS.imul X6.here hx rfl (hb hby d16_21) rfl k) ?_
  show own_Fin _ _ _ _ _ _ _ _ (mkF m 22 #[.val (.long q1), .second, .val (.int (6 : Int32)), .val (.ref b1), .val (.int (5 : Int32))] [(.int (40 : Int32)), (.long q1), (.int (5 : Int32)), (.ref b1)])
  refine own_step (fun t k => XS.lushr X6.here hx rfl (hb hby d16_22) rfl k) ?_
  show own_Fin _ _ _ _ _ _ _ _ (mkF m 23 #[.val (.long q1), .second, .val (.int (6 : Int32)), .val (.ref b1), .val (.int (5 : Int32))] [(.long ((q1.toUInt64 >>> ((40 : Int32) &&& 0x3f).toInt64.toUInt64).toInt64)), (.int (5 : Int32)), (.ref b1)])
  refine own_step (fun t k => XS.l2i X6.here hx rfl (hb hby d16_23) rfl k) ?_
  show own_Fin _ _ _ _ _ _ _ _ (mkF m 24 #[.val (.long q1), .second, .val (.int (6 : Int32)), .val (.ref b1), .val (.int (5 : Int32))] [(.int (((q1.toUInt64 >>> ((40 : Int32) &&& 0x3f).toInt64.toUInt64).toInt64).toInt32)), (.int (5 : Int32)), (.ref b1)])
  refine own_step (fun t k => XS.i2b X6.here hx rfl (hb hby d16_24) rfl k) ?_
  show own_Fin _ _ _ _ _ _ _ _ (mkF m 25 #[.val (.long q1), .second, .val (.int (6 : Int32)), .val (.ref b1), .val (.int (5 : Int32))] [(.int ((((q1.toUInt64 >>> ((40 : Int32) &&& 0x3f).toInt64.toUInt64).toInt64).toInt32).toInt8.toInt32)), (.int (5 : Int32)), (.ref b1)])
  obtain ⟨T7, h7, X7, e7, W7, B7, st7⟩ := own_bastore X6 hx hZ e6 V_b1 (j := (5 : Int32)) (k := 5) rfl (by decide) (own_nar8 _) (x := ((((q1.toUInt64 >>> ((40 : Int32) &&& 0x3f).toInt64.toUInt64).toInt64).toInt32).toInt8.toInt32)) (pc := 25) (Ls := #[.val (.long q1), .second, .val (.int (6 : Int32)), .val (.ref b1), .val (.int (5 : Int32))]) (rest := []) (hb hby d16_25) rfl
  refine own_step st7 ?_
  replace Zs : n0 ≤ h7.size := by rw [W7.size]; exact Zs
  replace K := K.wr W7 (Or.inr sz_b1)
  replace V_b1 := B7
  replace Nf := Fr.snoc X7 Nf g_b1
  show own_Fin _ _ _ _ _ _ _ _ (mkF m 26 #[.val (.long q1), .second, .val (.int (6 : Int32)), .val (.ref b1), .val (.int (5 : Int32))] [])
  refine own_step (fun t k => XS.iinc X7.here hx rfl (hb hby d16_26) rfl (l' := #[.val (.long q1), .second, .val (.int (6 : Int32)), .val (.ref b1), .val (.int (6 : Int32))]) rfl k) ?_
  show own_Fin _ _ _ _ _ _ _ _ (mkF m 29 #[.val (.long q1), .second, .val (.int (6 : Int32)), .val (.ref b1), .val (.int (6 : Int32))] [])
  refine own_step (fun t k => XS.goto X7.here hx rfl (pc0 := 29) (pc' := 7) rfl (hb hby d16_29) (by decide) (by decide) k) ?_
  show own_Fin _ _ _ _ _ _ _ _ (mkF m 7 #[.val (.long q1), .second, .val (.int (6 : Int32)), .val (.ref b1), .val (.int (6 : Int32))] [])
  refine own_step (fun t k => XS.iload X7.here hx rfl (hb hby d16_7) rfl k) ?_
  show own_Fin _ _ _ _ _ _ _ _ (mkF m 9 #[.val (.long q1), .second, .val (.int (6 : Int32)), .val (.ref b1), .val (.int (6 : Int32))] [(.int (6 : Int32))])
  refine own_step (fun t k => XS.iloadN X7.here hx rfl (hb hby d16_9) rfl k) ?_
  show own_Fin _ _ _ _ _ _ _ _ (mkF m 10 #[.val (.long q1), .second, .val (.int (6 : Int32)), .val (.ref b1), .val (.int (6 : Int32))] [(.int (6 : Int32)), (.int (6 : Int32))])
  refine own_step (fun t k => XS.icmpYes X7.here hx rfl (pc0 := 10) (pc' := 32) rfl (hb hby d16_10) rfl (by decide) (by decide) (by decide) k) ?_
  show own_Fin _ _ _ _ _ _ _ _ (mkF m 32 #[.val (.long q1), .second, .val (.int (6 : Int32)), .val (.ref b1), .val (.int (6 : Int32))] [])
  refine own_step (fun t k => XS.aloadN X7.here hx rfl (hb hby d16_32) rfl rfl k) ?_
  show own_Fin _ _ _ _ _ _ _ _ (mkF m 33 #[.val (.long q1), .second, .val (.int (6 : Int32)), .val (.ref b1), .val (.int (6 : Int32))] [(.ref b1)])
  refine own_retR X7 hx hlk Bd.returns rfl rfl (hb hby d16_33) (by decide) (by decide) e7 ?_
  exact ⟨b1, rfl, Nf, K, g_b1, V_b1.congr (by intro i hi; rcases own_lt6 hi with rfl | rfl | rfl | rfl | rfl | rfl <;> rfl)⟩
theorem own_lt7 {i : Nat} (h : i < 7) : i = 0 ∨ i = 1 ∨ i = 2 ∨ i = 3 ∨ i = 4 ∨ i = 5 ∨ i = 6 := by omega
theorem d17_0 : decode prog_22_method_2_code 0 = .ok (.iload_n 2, 1) := by decide +kernel
theorem d17_1 : decode prog_22_method_2_code 1 = .ok (.newarray .byte, 2) := by decide +kernel
theorem d17_3 : decode prog_22_method_2_code 3 = .ok (.astore_n 3, 1) := by decide +kernel
theorem d17_4 : decode prog_22_method_2_code 4 = .ok (.iconst 0, 1) := by decide +kernel
theorem d17_5 : decode prog_22_method_2_code 5 = .ok (.istore 4, 2) := by decide +kernel
theorem d17_7 : decode prog_22_method_2_code 7 = .ok (.iload 4, 2) := by decide +kernel
theorem d17_9 : decode prog_22_method_2_code 9 = .ok (.iload_n 2, 1) := by decide +kernel
theorem d17_10 : decode prog_22_method_2_code 10 = .ok (.if_icmp .ge 22, 3) := by decide +kernel
theorem d17_13 : decode prog_22_method_2_code 13 = .ok (.aload_n 3, 1) := by decide +kernel
theorem d17_14 : decode prog_22_method_2_code 14 = .ok (.iload 4, 2) := by decide +kernel
theorem d17_16 : decode prog_22_method_2_code 16 = .ok (.lload_n 0, 1) := by decide +kernel
theorem d17_17 : decode prog_22_method_2_code 17 = .ok (.bipush 8, 2) := by decide +kernel
theorem d17_19 : decode prog_22_method_2_code 19 = .ok (.iload 4, 2) := by decide +kernel
theorem d17_21 : decode prog_22_method_2_code 21 = .ok (.imul, 1) := by decide +kernel
theorem d17_22 : decode prog_22_method_2_code 22 = .ok (.lushr, 1) := by decide +kernel
theorem d17_23 : decode prog_22_method_2_code 23 = .ok (.l2i, 1) := by decide +kernel
theorem d17_24 : decode prog_22_method_2_code 24 = .ok (.i2b, 1) := by decide +kernel
theorem d17_25 : decode prog_22_method_2_code 25 = .ok (.bastore, 1) := by decide +kernel
theorem d17_26 : decode prog_22_method_2_code 26 = .ok (.iinc 4 1, 3) := by decide +kernel
theorem d17_29 : decode prog_22_method_2_code 29 = .ok (.goto (-22), 3) := by decide +kernel
theorem d17_32 : decode prog_22_method_2_code 32 = .ok (.aload_n 3, 1) := by decide +kernel
theorem d17_33 : decode prog_22_method_2_code 33 = .ok (.areturn, 1) := by decide +kernel
theorem own_pn_17 : plainName "com/example/kern_tablet/kerntablet/schema/IntegerHandler" = true := by first | (simp [plainName, overriddenIn]; done) | decide +kernel
theorem own_ef_17 (m : MethodId) (q1 : Int64) : entryFrame m #[(.long q1), (.int (7 : Int32))] 5 = mkF m 0 #[.val (.long q1), .second, .val (.int (7 : Int32)), .unset, .unset] [] := by first | (simp [entryFrame, mkF, argsToLocals, Value.category]; done) | rfl
abbrev own_R17 : Room := { frames := 0, cells := 1, slots := 7, locals := 0 }
def own_Q17 (Z : State) (q1 : Int64) (h0 : Heap) (n0 : Nat) (v : Option Value) (h : Heap) (L : List Loc) : Prop := ∃ b : Addr, v = some (.ref b) ∧ Fr n0 L ∧ Keep h0 h [] ∧ n0 ≤ b ∧ own_AI Z h b .byte 7 (own_b q1)
set_option maxRecDepth 65536 in
set_option maxHeartbeats 40000000 in
theorem rm17 (l : Launch) (Z : State) (a0 : Array Value) (hw : ∀ d ∈ tables_1, d.before a0 Z = true) (ws : List Jvm.Cond) (q1 : Int64) (h0 : Heap) (n0 : Nat) (Z0 : n0 ≤ h0.size) :
    MetFree l (⟨"com/example/kern_tablet/kerntablet/schema/IntegerHandler", "littleEndian", "(JI)[B"⟩ : MethodName) (head1 (Jvm.Cond.code (⟨"com/example/kern_tablet/kerntablet/schema/IntegerHandler", "littleEndian", "(JI)[B"⟩ : MethodName) prog_22_method_2_code 5 (some (.array .byte)) :: ws) own_R17) (fun a U => a = #[(.long q1), (.int (7 : Int32))] ∧ Z.Warmed39 U.vm ∧ U.heap = h0) (fun _ _ _ _ _ => True) (fun _ U o U' => ∃ v L, o = .returned v ∧ own_Q17 Z q1 h0 n0 v U'.heap L ∧ FrameEnd U o U' L own_R17.cells own_R17.slots) := by
  refine MetFree.of_bodySF (plainFor_of_name own_pn_17) hisR ?_
  intro p e s m args below meth c s₁ Bd hml0 hP hK
  obtain ⟨rfl, hZ, hh⟩ := hP
  have hx := Bd.exec
  have hby := Bd.bytes
  have hlk := BodyLoose.notSynchronized Bd
  have hml : c.maxLocals = 5 := hml0
  have hown : s.vm.findClass "com/example/kern_tablet/kerntablet/schema/IntegerHandler" = some m.cls := (findClass_of_methodNamed Bd.named : s.vm.findClass (⟨"com/example/kern_tablet/kerntablet/schema/IntegerHandler", "littleEndian", "(JI)[B"⟩ : MethodName).cls = some m.cls)
  have hnm := (name_of_methodNamed Bd.named Bd.method).1
  have X0 : Stand p l e own_R17 s m #[(.long q1), (.int (7 : Int32))] below meth c s₁ [] 0 0 := Stand.of_body Bd
  have e0 : s₁.heap = h0 := by rw [← hh, Bd.state]; rfl
  have Nf := Fr.nil n0
  have Zs := Z0
  have K : Keep h0 h0 [] := Keep.refl _ _
  show own_Fin p e below s (own_Q17 Z q1 h0 n0) 1 7 s₁ (entryFrame m #[(.long q1), (.int (7 : Int32))] 5)
  rw [own_ef_17 m q1]
  show own_Fin _ _ _ _ _ _ _ _ (mkF m 0 #[.val (.long q1), .second, .val (.int (7 : Int32)), .unset, .unset] [])
  refine own_step (fun t k => XS.iloadN X0.here hx rfl (hb hby d17_0) rfl k) ?_
  show own_Fin _ _ _ _ _ _ _ _ (mkF m 1 #[.val (.long q1), .second, .val (.int (7 : Int32)), .unset, .unset] [(.int (7 : Int32))])
  obtain ⟨T1, h1, k1, X1, e1, E1, A1, st1⟩ := newP X0 hx hZ (hw _ (List.mem_of_getElem? (i := 4) rfl)) e0 (g := (mkF m 1 #[.val (.long q1), .second, .val (.int (7 : Int32)), .unset, .unset] [(.int (7 : Int32))])) rfl (hb hby d17_1) rfl (by decide) (cap := 7) (by decide) (by decide) (by decide) (by decide)
  obtain ⟨b1, g1⟩ : ∃ z, z = h0.size := ⟨_, rfl⟩
  rw [← g1] at A1 st1
  refine own_step st1 ?_
  have g_b1 : n0 ≤ b1 := Nat.le_trans Zs (Nat.le_of_eq g1.symm)
  have sz_b1 : h0.size ≤ b1 := Nat.le_trans K.1 (Nat.le_of_eq g1.symm)
  replace Zs := Nat.le_trans Zs E1.1
  replace K := K.ext E1
  have V_b1 := own_AI.newB (n := 7) A1 (by decide)
  show own_Fin _ _ _ _ _ _ _ _ (mkF m 3 #[.val (.long q1), .second, .val (.int (7 : Int32)), .unset, .unset] [(.ref b1)])
  refine own_step (fun t k => XS.astoreN X1.here hx rfl (hb hby d17_3) rfl rfl (l' := #[.val (.long q1), .second, .val (.int (7 : Int32)), .val (.ref b1), .unset]) rfl k) ?_
  show own_Fin _ _ _ _ _ _ _ _ (mkF m 4 #[.val (.long q1), .second, .val (.int (7 : Int32)), .val (.ref b1), .unset] [])
  refine own_step (fun t k => XS.iconst X1.here hx rfl (hb hby d17_4) k) ?_
  show own_Fin _ _ _ _ _ _ _ _ (mkF m 5 #[.val (.long q1), .second, .val (.int (7 : Int32)), .val (.ref b1), .unset] [(.int (0 : Int32))])
  refine own_step (fun t k => XS.istore X1.here hx rfl (hb hby d17_5) rfl (l' := #[.val (.long q1), .second, .val (.int (7 : Int32)), .val (.ref b1), .val (.int (0 : Int32))]) rfl k) ?_
  show own_Fin _ _ _ _ _ _ _ _ (mkF m 7 #[.val (.long q1), .second, .val (.int (7 : Int32)), .val (.ref b1), .val (.int (0 : Int32))] [])
  refine own_step (fun t k => XS.iload X1.here hx rfl (hb hby d17_7) rfl k) ?_
  show own_Fin _ _ _ _ _ _ _ _ (mkF m 9 #[.val (.long q1), .second, .val (.int (7 : Int32)), .val (.ref b1), .val (.int (0 : Int32))] [(.int (0 : Int32))])
  refine own_step (fun t k => XS.iloadN X1.here hx rfl (hb hby d17_9) rfl k) ?_
  show own_Fin _ _ _ _ _ _ _ _ (mkF m 10 #[.val (.long q1), .second, .val (.int (7 : Int32)), .val (.ref b1), .val (.int (0 : Int32))] [(.int (7 : Int32)), (.int (0 : Int32))])
  refine own_step (fun t k => XS.icmpNo X1.here hx rfl (hb hby d17_10) rfl (by decide) k) ?_
  show own_Fin _ _ _ _ _ _ _ _ (mkF m 13 #[.val (.long q1), .second, .val (.int (7 : Int32)), .val (.ref b1), .val (.int (0 : Int32))] [])
  refine own_step (fun t k => XS.aloadN X1.here hx rfl (hb hby d17_13) rfl rfl k) ?_
  show own_Fin _ _ _ _ _ _ _ _ (mkF m 14 #[.val (.long q1), .second, .val (.int (7 : Int32)), .val (.ref b1), .val (.int (0 : Int32))] [(.ref b1)])
  refine own_step (fun t k => XS.iload X1.here hx rfl (hb hby d17_14) rfl k) ?_
  show own_Fin _ _ _ _ _ _ _ _ (mkF m 16 #[.val (.long q1), .second, .val (.int (7 : Int32)), .val (.ref b1), .val (.int (0 : Int32))] [(.int (0 : Int32)), (.ref b1)])
  refine own_step (fun t k => XS.lloadN X1.here hx rfl (hb hby d17_16) rfl k) ?_
  show own_Fin _ _ _ _ _ _ _ _ (mkF m 17 #[.val (.long q1), .second, .val (.int (7 : Int32)), .val (.ref b1), .val (.int (0 : Int32))] [(.long q1), (.int (0 : Int32)), (.ref b1)])
  refine own_step (fun t k => XS.bipush X1.here hx rfl (hb hby d17_17) k) ?_
  show own_Fin _ _ _ _ _ _ _ _ (mkF m 19 #[.val (.long q1), .second, .val (.int (7 : Int32)), .val (.ref b1), .val (.int (0 : Int32))] [(.int (8 : Int32)), (.long q1), (.int (0 : Int32)), (.ref b1)])
  refine own_step (fun t k => XS.iload X1.here hx rfl (hb hby d17_19) rfl k) ?_
  show own_Fin _ _ _ _ _ _ _ _ (mkF m 21 #[.val (.long q1), .second, .val (.int (7 : Int32)), .val (.ref b1), .val (.int (0 : Int32))] [(.int (0 : Int32)), (.int (8 : Int32)), (.long q1), (.int (0 : Int32)), (.ref b1)])
  refine own_step (fun t k => XS.imul X1.here hx rfl (hb hby d17_21) rfl k) ?_
  show own_Fin _ _ _ _ _ _ _ _ (mkF m 22 #[.val (.long q1), .second, .val (.int (7 : Int32)), .val (.ref b1), .val (.int (0 : Int32))] [(.int (0 : Int32)), (.long q1), (.int (0 : Int32)), (.ref b1)])
  refine own_step (fun t k => XS.lushr X1.here hx rfl (hb hby d17_22) rfl k) ?_
  show own_Fin _ _ _ _ _ _ _ _ (mkF m 23 #[.val (.long q1), .second, .val (.int (7 : Int32)), .val (.ref b1), .val (.int (0 : Int32))] [(.long ((q1.toUInt64 >>> ((0 : Int32) &&& 0x3f).toInt64.toUInt64).toInt64)), (.int (0 : Int32)), (.ref b1)])
  refine own_step (fun t k => XS.l2i X1.here hx rfl (hb hby d17_23) rfl k) ?_
  show own_Fin _ _ _ _ _ _ _ _ (mkF m 24 #[.val (.long q1), .second, .val (.int (7 : Int32)), .val (.ref b1), .val (.int (0 : Int32))] [(.int (((q1.toUInt64 >>> ((0 : Int32) &&& 0x3f).toInt64.toUInt64).toInt64).toInt32)), (.int (0 : Int32)), (.ref b1)])
  refine own_step (fun t k => XS.i2b X1.here hx rfl (hb hby d17_24) rfl k) ?_
  show own_Fin _ _ _ _ _ _ _ _ (mkF m 25 #[.val (.long q1), .second, .val (.int (7 : Int32)), .val (.ref b1), .val (.int (0 : Int32))] [(.int ((((q1.toUInt64 >>> ((0 : Int32) &&& 0x3f).toInt64.toUInt64).toInt64).toInt32).toInt8.toInt32)), (.int (0 : Int32)), (.ref b1)])
  obtain ⟨T2, h2, X2, e2, W2, B2, st2⟩ := own_bastore X1 hx hZ e1 V_b1 (j := (0 : Int32)) (k := 0) rfl (by decide) (own_nar8 _) (x := ((((q1.toUInt64 >>> ((0 : Int32) &&& 0x3f).toInt64.toUInt64).toInt64).toInt32).toInt8.toInt32)) (pc := 25) (Ls := #[.val (.long q1), .second, .val (.int (7 : Int32)), .val (.ref b1), .val (.int (0 : Int32))]) (rest := []) (hb hby d17_25) rfl
  refine own_step st2 ?_
  replace Zs : n0 ≤ h2.size := by rw [W2.size]; exact Zs
  replace K := K.wr W2 (Or.inr sz_b1)
  replace V_b1 := B2
  replace Nf := Fr.snoc X2 Nf g_b1
  show own_Fin _ _ _ _ _ _ _ _ (mkF m 26 #[.val (.long q1), .second, .val (.int (7 : Int32)), .val (.ref b1), .val (.int (0 : Int32))] [])
  refine own_step (fun t k => XS.iinc X2.here hx rfl (hb hby d17_26) rfl (l' := #[.val (.long q1), .second, .val (.int (7 : Int32)), .val (.ref b1), .val (.int (1 : Int32))]) rfl k) ?_
  show own_Fin _ _ _ _ _ _ _ _ (mkF m 29 #[.val (.long q1), .second, .val (.int (7 : Int32)), .val (.ref b1), .val (.int (1 : Int32))] [])
  refine own_step (fun t k => XS.goto X2.here hx rfl (pc0 := 29) (pc' := 7) rfl (hb hby d17_29) (by decide) (by decide) k) ?_
  show own_Fin _ _ _ _ _ _ _ _ (mkF m 7 #[.val (.long q1), .second, .val (.int (7 : Int32)), .val (.ref b1), .val (.int (1 : Int32))] [])
  refine own_step (fun t k => XS.iload X2.here hx rfl (hb hby d17_7) rfl k) ?_
  show own_Fin _ _ _ _ _ _ _ _ (mkF m 9 #[.val (.long q1), .second, .val (.int (7 : Int32)), .val (.ref b1), .val (.int (1 : Int32))] [(.int (1 : Int32))])
  refine own_step (fun t k => XS.iloadN X2.here hx rfl (hb hby d17_9) rfl k) ?_
  show own_Fin _ _ _ _ _ _ _ _ (mkF m 10 #[.val (.long q1), .second, .val (.int (7 : Int32)), .val (.ref b1), .val (.int (1 : Int32))] [(.int (7 : Int32)), (.int (1 : Int32))])
  refine own_step (fun t k => XS.icmpNo X2.here hx rfl (hb hby d17_10) rfl (by decide) k) ?_
  show own_Fin _ _ _ _ _ _ _ _ (mkF m 13 #[.val (.long q1), .second, .val (.int (7 : Int32)), .val (.ref b1), .val (.int (1 : Int32))] [])
  refine own_step (fun t k => XS.aloadN X2.here hx rfl (hb hby d17_13) rfl rfl k) ?_
  show own_Fin _ _ _ _ _ _ _ _ (mkF m 14 #[.val (.long q1), .second, .val (.int (7 : Int32)), .val (.ref b1), .val (.int (1 : Int32))] [(.ref b1)])
  refine own_step (fun t k => XS.iload X2.here hx rfl (hb hby d17_14) rfl k) ?_
  show own_Fin _ _ _ _ _ _ _ _ (mkF m 16 #[.val (.long q1), .second, .val (.int (7 : Int32)), .val (.ref b1), .val (.int (1 : Int32))] [(.int (1 : Int32)), (.ref b1)])
  refine own_step (fun t k => XS.lloadN X2.here hx rfl (hb hby d17_16) rfl k) ?_
  show own_Fin _ _ _ _ _ _ _ _ (mkF m 17 #[.val (.long q1), .second, .val (.int (7 : Int32)), .val (.ref b1), .val (.int (1 : Int32))] [(.long q1), (.int (1 : Int32)), (.ref b1)])
  refine own_step (fun t k => XS.bipush X2.here hx rfl (hb hby d17_17) k) ?_
  show own_Fin _ _ _ _ _ _ _ _ (mkF m 19 #[.val (.long q1), .second, .val (.int (7 : Int32)), .val (.ref b1), .val (.int (1 : Int32))] [(.int (8 : Int32)), (.long q1), (.int (1 : Int32)), (.ref b1)])
  refine own_step (fun t k => XS.iload X2.here hx rfl (hb hby d17_19) rfl k) ?_
  show own_Fin _ _ _ _ _ _ _ _ (mkF m 21 #[.val (.long q1), .second, .val (.int (7 : Int32)), .val (.ref b1), .val (.int (1 : Int32))] [(.int (1 : Int32)), (.int (8 : Int32)), (.long q1), (.int (1 : Int32)), (.ref b1)])
  refine own_step (fun t k => XS.imul X2.here hx rfl (hb hby d17_21) rfl k) ?_
  show own_Fin _ _ _ _ _ _ _ _ (mkF m 22 #[.val (.long q1), .second, .val (.int (7 : Int32)), .val (.ref b1), .val (.int (1 : Int32))] [(.int (8 : Int32)), (.long q1), (.int (1 : Int32)), (.ref b1)])
  refine own_step (fun t k => XS.lushr X2.here hx rfl (hb hby d17_22) rfl k) ?_
  show own_Fin _ _ _ _ _ _ _ _ (mkF m 23 #[.val (.long q1), .second, .val (.int (7 : Int32)), .val (.ref b1), .val (.int (1 : Int32))] [(.long ((q1.toUInt64 >>> ((8 : Int32) &&& 0x3f).toInt64.toUInt64).toInt64)), (.int (1 : Int32)), (.ref b1)])
  refine own_step (fun t k => XS.l2i X2.here hx rfl (hb hby d17_23) rfl k) ?_
  show own_Fin _ _ _ _ _ _ _ _ (mkF m 24 #[.val (.long q1), .second, .val (.int (7 : Int32)), .val (.ref b1), .val (.int (1 : Int32))] [(.int (((q1.toUInt64 >>> ((8 : Int32) &&& 0x3f).toInt64.toUInt64).toInt64).toInt32)), (.int (1 : Int32)), (.ref b1)])
  refine own_step (fun t k => XS.i2b X2.here hx rfl (hb hby d17_24) rfl k) ?_
  show own_Fin _ _ _ _ _ _ _ _ (mkF m 25 #[.val (.long q1), .second, .val (.int (7 : Int32)), .val (.ref b1), .val (.int (1 : Int32))] [(.int ((((q1.toUInt64 >>> ((8 : Int32) &&& 0x3f).toInt64.toUInt64).toInt64).toInt32).toInt8.toInt32)), (.int (1 : Int32)), (.ref b1)])
  obtain ⟨T3, h3, X3, e3, W3, B3, st3⟩ := own_bastore X2 hx hZ e2 V_b1 (j := (1 : Int32)) (k := 1) rfl (by decide) (own_nar8 _) (x := ((((q1.toUInt64 >>> ((8 : Int32) &&& 0x3f).toInt64.toUInt64).toInt64).toInt32).toInt8.toInt32)) (pc := 25) (Ls := #[.val (.long q1), .second, .val (.int (7 : Int32)), .val (.ref b1), .val (.int (1 : Int32))]) (rest := []) (hb hby d17_25) rfl
  refine own_step st3 ?_
  replace Zs : n0 ≤ h3.size := by rw [W3.size]; exact Zs
  replace K := K.wr W3 (Or.inr sz_b1)
  replace V_b1 := B3
  replace Nf := Fr.snoc X3 Nf g_b1
  show own_Fin _ _ _ _ _ _ _ _ (mkF m 26 #[.val (.long q1), .second, .val (.int (7 : Int32)), .val (.ref b1), .val (.int (1 : Int32))] [])
  refine own_step (fun t k => XS.iinc X3.here hx rfl (hb hby d17_26) rfl (l' := #[.val (.long q1), .second, .val (.int (7 : Int32)), .val (.ref b1), .val (.int (2 : Int32))]) rfl k) ?_
  show own_Fin _ _ _ _ _ _ _ _ (mkF m 29 #[.val (.long q1), .second, .val (.int (7 : Int32)), .val (.ref b1), .val (.int (2 : Int32))] [])
  refine own_step (fun t k => XS.goto X3.here hx rfl (pc0 := 29) (pc' := 7) rfl (hb hby d17_29) (by decide) (by decide) k) ?_
  show own_Fin _ _ _ _ _ _ _ _ (mkF m 7 #[.val (.long q1), .second, .val (.int (7 : Int32)), .val (.ref b1), .val (.int (2 : Int32))] [])
  refine own_step (fun t k => XS.iload X3.here hx rfl (hb hby d17_7) rfl k) ?_
  show own_Fin _ _ _ _ _ _ _ _ (mkF m 9 #[.val (.long q1), .second, .val (.int (7 : Int32)), .val (.ref b1), .val (.int (2 : Int32))] [(.int (2 : Int32))])
  refine own_step (fun t k => XS.iloadN X3.here hx rfl (hb hby d17_9) rfl k) ?_
  show own_Fin _ _ _ _ _ _ _ _ (mkF m 10 #[.val (.long q1), .second, .val (.int (7 : Int32)), .val (.ref b1), .val (.int (2 : Int32))] [(.int (7 : Int32)), (.int (2 : Int32))])
  refine own_step (fun t k => XS.icmpNo X3.here hx rfl (hb hby d17_10) rfl (by decide) k) ?_
  show own_Fin _ _ _ _ _ _ _ _ (mkF m 13 #[.val (.long q1), .second, .val (.int (7 : Int32)), .val (.ref b1), .val (.int (2 : Int32))] [])
  refine own_step (fun t k => XS.aloadN X3.here hx rfl (hb hby d17_13) rfl rfl k) ?_
  show own_Fin _ _ _ _ _ _ _ _ (mkF m 14 #[.val (.long q1), .second, .val (.int (7 : Int32)), .val (.ref b1), .val (.int (2 : Int32))] [(.ref b1)])
  refine own_step (fun t k => XS.iload X3.here hx rfl (hb hby d17_14) rfl k) ?_
  show own_Fin _ _ _ _ _ _ _ _ (mkF m 16 #[.val (.long q1), .second, .val (.int (7 : Int32)), .val (.ref b1), .val (.int (2 : Int32))] [(.int (2 : Int32)), (.ref b1)])
  refine own_step (fun t k => XS.lloadN X3.here hx rfl (hb hby d17_16) rfl k) ?_
  show own_Fin _ _ _ _ _ _ _ _ (mkF m 17 #[.val (.long q1), .second, .val (.int (7 : Int32)), .val (.ref b1), .val (.int (2 : Int32))] [(.long q1), (.int (2 : Int32)), (.ref b1)])
  refine own_step (fun t k => XS.bipush X3.here hx rfl (hb hby d17_17) k) ?_
  show own_Fin _ _ _ _ _ _ _ _ (mkF m 19 #[.val (.long q1), .second, .val (.int (7 : Int32)), .val (.ref b1), .val (.int (2 : Int32))] [(.int (8 : Int32)), (.long q1), (.int (2 : Int32)), (.ref b1)])
  refine own_step (fun t k => XS.iload X3.here hx rfl (hb hby d17_19) rfl k) ?_
  show own_Fin _ _ _ _ _ _ _ _ (mkF m 21 #[.val (.long q1), .second, .val (.int (7 : Int32)), .val (.ref b1), .val (.int (2 : Int32))] [(.int (2 : Int32)), (.int (8 : Int32)), (.long q1), (.int (2 : Int32)), (.ref b1)])
  refine own_step (fun t k => XS.imul X3.here hx rfl (hb hby d17_21) rfl k) ?_
  show own_Fin _ _ _ _ _ _ _ _ (mkF m 22 #[.val (.long q1), .second, .val (.int (7 : Int32)), .val (.ref b1), .val (.int (2 : Int32))] [(.int (16 : Int32)), (.long q1), (.int (2 : Int32)), (.ref b1)])
  refine own_step (fun t k => XS.lushr X3.here hx rfl (hb hby d17_22) rfl k) ?_
  show own_Fin _ _ _ _ _ _ _ _ (mkF m 23 #[.val (.long q1), .second, .val (.int (7 : Int32)), .val (.ref b1), .val (.int (2 : Int32))] [(.long ((q1.toUInt64 >>> ((16 : Int32) &&& 0x3f).toInt64.toUInt64).toInt64)), (.int (2 : Int32)), (.ref b1)])
  refine own_step (fun t k => XS.l2i X3.here hx rfl (hb hby d17_23) rfl k) ?_
  show own_Fin _ _ _ _ _ _ _ _ (mkF m 24 #[.val (.long q1), .second, .val (.int (7 : Int32)), .val (.ref b1), .val (.int (2 : Int32))] [(.int (((q1.toUInt64 >>> ((16 : Int32) &&& 0x3f).toInt64.toUInt64).toInt64).toInt32)), (.int (2 : Int32)), (.ref b1)])
  refine own_step (fun t k => XS.i2b X3.here hx rfl (hb hby d17_24) rfl k) ?_
  show own_Fin _ _ _ _ _ _ _ _ (mkF m 25 #[.val (.long q1), .second, .val (.int (7 : Int32)), .val (.ref b1), .val (.int (2 : Int32))] [(.int ((((q1.toUInt64 >>> ((16 : Int32) &&& 0x3f).toInt64.toUInt64).toInt64).toInt32).toInt8.toInt32)), (.int (2 : Int32)), (.ref b1)])
  obtain ⟨T4, h4, X4, e4, W4, B4, st4⟩ := own_bastore X3 hx hZ e3 V_b1 (j := (2 : Int32)) (k := 2) rfl (by decide) (own_nar8 _) (x := ((((q1.toUInt64 >>> ((16 : Int32) &&& 0x3f).toInt64.toUInt64).toInt64).toInt32).toInt8.toInt32)) (pc := 25) (Ls := #[.val (.long q1), .second, .val (.int (7 : Int32)), .val (.ref b1), .val (.int (2 : Int32))]) (rest := []) (hb hby d17_25) rfl
  refine own_step st4 ?_
  replace Zs : n0 ≤ h4.size := by rw [W4.size]; exact Zs
  replace K := K.wr W4 (Or.inr sz_b1)
  replace V_b1 := B4
  replace Nf := Fr.snoc X4 Nf g_b1
  show own_Fin _ _ _ _ _ _ _ _ (mkF m 26 #[.val (.long q1), .second, .val (.int (7 : Int32)), .val (.ref b1), .val (.int (2 : Int32))] [])
  refine own_step (fun t k => XS.iinc X4.here hx rfl (hb hby d17_26) rfl (l' := #[.val (.long q1), .second, .val (.int (7 : Int32)), .val (.ref b1), .val (.int (3 : Int32))]) rfl k) ?_
  show own_Fin _ _ _ _ _ _ _ _ (mkF m 29 #[.val (.long q1), .second, .val (.int (7 : Int32)), .val (.ref b1), .val (.int (3 : Int32))] [])
  refine own_step (fun t k => XS.goto X4.here hx rfl (pc0 := 29) (pc' := 7) rfl (hb hby d17_29) (by decide) (by decide) k) ?_
  show own_Fin _ _ _ _ _ _ _ _ (mkF m 7 #[.val (.long q1), .second, .val (.int (7 : Int32)), .val (.ref b1), .val (.int (3 : Int32))] [])
  refine own_step (fun t k => XS.iload X4.here hx rfl (hb hby d17_7) rfl k) ?_
  show own_Fin _ _ _ _ _ _ _ _ (mkF m 9 #[.val (.long q1), .second, .val (.int (7 : Int32)), .val (.ref b1), .val (.int (3 : Int32))] [(.int (3 : Int32))])
  refine own_step (fun t k => XS.iloadN X4.here hx rfl (hb hby d17_9) rfl k) ?_
  show own_Fin _ _ _ _ _ _ _ _ (mkF m 10 #[.val (.long q1), .second, .val (.int (7 : Int32)), .val (.ref b1), .val (.int (3 : Int32))] [(.int (7 : Int32)), (.int (3 : Int32))])
  refine own_step (fun t k => XS.icmpNo X4.here hx rfl (hb hby d17_10) rfl (by decide) k) ?_
  show own_Fin _ _ _ _ _ _ _ _ (mkF m 13 #[.val (.long q1), .second, .val (.int (7 : Int32)), .val (.ref b1), .val (.int (3 : Int32))] [])
  refine own_step (fun t k => XS.aloadN X4.here hx rfl (hb hby d17_13) rfl rfl k) ?_
  show own_Fin _ _ _ _ _ _ _ _ (mkF m 14 #[.val (.long q1), .second, .val (.int (7 : Int32)), .val (.ref b1), .val (.int (3 : Int32))] [(.ref b1)])
  refine own_step (fun t k => XS.iload X4.here hx rfl (hb hby d17_14) rfl k) ?_
  show own_Fin _ _ _ _ _ _ _ _ (mkF m 16 #[.val (.long q1), .second, .val (.int (7 : Int32)), .val (.ref b1), .val (.int (3 : Int32))] [(.int (3 : Int32)), (.ref b1)])
  refine own_step (fun t k => XS.lloadN X4.here hx rfl (hb hby d17_16) rfl k) ?_
  show own_Fin _ _ _ _ _ _ _ _ (mkF m 17 #[.val (.long q1), .second, .val (.int (7 : Int32)), .val (.ref b1), .val (.int (3 : Int32))] [(.long q1), (.int (3 : Int32)), (.ref b1)])
  refine own_step (fun t k => XS.bipush X4.here hx rfl (hb hby d17_17) k) ?_
  show own_Fin _ _ _ _ _ _ _ _ (mkF m 19 #[.val (.long q1), .second, .val (.int (7 : Int32)), .val (.ref b1), .val (.int (3 : Int32))] [(.int (8 : Int32)), (.long q1), (.int (3 : Int32)), (.ref b1)])
  refine own_step (fun t k => XS.iload X4.here hx rfl (hb hby d17_19) rfl k) ?_
  show own_Fin _ _ _ _ _ _ _ _ (mkF m 21 #[.val (.long q1), .second, .val (.int (7 : Int32)), .val (.ref b1), .val (.int (3 : Int32))] [(.int (3 : Int32)), (.int (8 : Int32)), (.long q1), (.int (3 : Int32)), (.ref b1)])
  refine own_step (fun t k => XS.imul X4.here hx rfl (hb hby d17_21) rfl k) ?_
  show own_Fin _ _ _ _ _ _ _ _ (mkF m 22 #[.val (.long q1), .second, .val (.int (7 : Int32)), .val (.ref b1), .val (.int (3 : Int32))] [(.int (24 : Int32)), (.long q1), (.int (3 : Int32)), (.ref b1)])
  refine own_step (fun t k => XS.lushr X4.here hx rfl (hb hby d17_22) rfl k) ?_
  show own_Fin _ _ _ _ _ _ _ _ (mkF m 23 #[.val (.long q1), .second, .val (.int (7 : Int32)), .val (.ref b1), .val (.int (3 : Int32))] [(.long ((q1.toUInt64 >>> ((24 : Int32) &&& 0x3f).toInt64.toUInt64).toInt64)), (.int (3 : Int32)), (.ref b1)])
  refine own_step (fun t k => XS.l2i X4.here hx rfl (hb hby d17_23) rfl k) ?_
  show own_Fin _ _ _ _ _ _ _ _ (mkF m 24 #[.val (.long q1), .second, .val (.int (7 : Int32)), .val (.ref b1), .val (.int (3 : Int32))] [(.int (((q1.toUInt64 >>> ((24 : Int32) &&& 0x3f).toInt64.toUInt64).toInt64).toInt32)), (.int (3 : Int32)), (.ref b1)])
  refine own_step (fun t k => XS.i2b X4.here hx rfl (hb hby d17_24) rfl k) ?_
  show own_Fin _ _ _ _ _ _ _ _ (mkF m 25 #[.val (.long q1), .second, .val (.int (7 : Int32)), .val (.ref b1), .val (.int (3 : Int32))] [(.int ((((q1.toUInt64 >>> ((24 : Int32) &&& 0x3f).toInt64.toUInt64).toInt64).toInt32).toInt8.toInt32)), (.int (3 : Int32)), (.ref b1)])
  obtain ⟨T5, h5, X5, e5, W5, B5, st5⟩ := own_bastore X4 hx hZ e4 V_b1 (j := (3 : Int32)) (k := 3) rfl (by decide) (own_nar8 _) (x := ((((q1.toUInt64 >>> ((24 : Int32) &&& 0x3f).toInt64.toUInt64).toInt64).toInt32).toInt8.toInt32)) (pc := 25) (Ls := #[.val (.long q1), .second, .val (.int (7 : Int32)), .val (.ref b1), .val (.int (3 : Int32))]) (rest := []) (hb hby d17_25) rfl
  refine own_step st5 ?_
  replace Zs : n0 ≤ h5.size := by rw [W5.size]; exact Zs
  replace K := K.wr W5 (Or.inr sz_b1)
  replace V_b1 := B5
  replace Nf := Fr.snoc X5 Nf g_b1
  show own_Fin _ _ _ _ _ _ _ _ (mkF m 26 #[.val (.long q1), .second, .val (.int (7 : Int32)), .val (.ref b1), .val (.int (3 : Int32))] [])
  refine own_step (fun t k => XS.iinc X5.here hx rfl (hb hby d17_26) rfl (l' := #[.val (.long q1), .second, .val (.int (7 : Int32)), .val (.ref b1), .val (.int (4 : Int32))]) rfl k) ?_
  show own_Fin _ _ _ _ _ _ _ _ (mkF m 29 #[.val (.long q1), .second, .val (.int (7 : Int32)), .val (.ref b1), .val (.int (4 : Int32))] [])
  refine own_step (fun t k => XS.goto X5.here hx rfl (pc0 := 29) (pc' := 7) rfl (hb hby d17_29) (by decide) (by decide) k) ?_
  show own_Fin _ _ _ _ _ _ _ _ (mkF m 7 #[.val (.long q1), .second, .val (.int (7 : Int32)), .val (.ref b1), .val (.int (4 : Int32))] [])
  refine own_step (fun t k => XS.iload X5.here hx rfl (hb hby d17_7) rfl k) ?_
  show own_Fin _ _ _ _ _ _ _ _ (mkF m 9 #[.val (.long q1), .second, .val (.int (7 : Int32)), .val (.ref b1), .val (.int (4 : Int32))] [(.int (4 : Int32))])
  refine own_step (fun t k => XS.iloadN X5.here hx rfl (hb hby d17_9) rfl k) ?_
  show own_Fin _ _ _ _ _ _ _ _ (mkF m 10 #[.val (.long q1), .second, .val (.int (7 : Int32)), .val (.ref b1), .val (.int (4 : Int32))] [(.int (7 : Int32)), (.int (4 : Int32))])
  refine own_step (fun t k => XS.icmpNo X5.here hx rfl (hb hby d17_10) rfl (by decide) k) ?_
  show own_Fin _ _ _ _ _ _ _ _ (mkF m 13 #[.val (.long q1), .second, .val (.int (7 : Int32)), .val (.ref b1), .val (.int (4 : Int32))] [])
  refine own_step (fun t k => XS.aloadN X5.here hx rfl (hb hby d17_13) rfl rfl k) ?_
  show own_Fin _ _ _ _ _ _ _ _ (mkF m 14 #[.val (.long q1), .second, .val (.int (7 : Int32)), .val (.ref b1), .val (.int (4 : Int32))] [(.ref b1)])
  refine own_step (fun t k => XS.iload X5.here hx rfl (hb hby d17_14) rfl k) ?_
  show own_Fin _ _ _ _ _ _ _ _ (mkF m 16 #[.val (.long q1), .second, .val (.int (7 : Int32)), .val (.ref b1), .val (.int (4 : Int32))] [(.int (4 : Int32)), (.ref b1)])
  refine own_step (fun t k => XS.lloadN X5.here hx rfl (hb hby d17_16) rfl k) ?_
  show own_Fin _ _ _ _ _ _ _ _ (mkF m 17 #[.val (.long q1), .second, .val (.int (7 : Int32)), .val (.ref b1), .val (.int (4 : Int32))] [(.long q1), (.int (4 : Int32)), (.ref b1)])
  refine own_step (fun t k => XS.bipush X5.here hx rfl (hb hby d17_17) k) ?_
  show own_Fin _ _ _ _ _ _ _ _ (mkF m 19 #[.val (.long q1), .second, .val (.int (7 : Int32)), .val (.ref b1), .val (.int (4 : Int32))] [(.int (8 : Int32)), (.long q1), (.int (4 : Int32)), (.ref b1)])
  refine own_step (fun t k => XS.iload X5.here hx rfl (hb hby d17_19) rfl k) ?_
  show own_Fin _ _ _ _ _ _ _ _ (mkF m 21 #[.val (.long q1), .second, .val (.int (7 : Int32)), .val (.ref b1), .val (.int (4 : Int32))] [(.int (4 : Int32)), (.int (8 : Int32)), (.long q1), (.int (4 : Int32)), (.ref b1)])
  refine own_step (fun t k => XS.imul X5.here hx rfl (hb hby d17_21) rfl k) ?_
  show own_Fin _ _ _ _ _ _ _ _ (mkF m 22 #[.val (.long q1), .second, .val (.int (7 : Int32)), .val (.ref b1), .val (.int (4 : Int32))] [(.int (32 : Int32)), (.long q1), (.int (4 : Int32)), (.ref b1)])
  refine own_step (fun t k => XS.lushr X5.here hx rfl (hb hby d17_22) rfl k) ?_
  show own_Fin _ _ _ _ _ _ _ _ (mkF m 23 #[.val (.long q1), .second, .val (.int (7 : Int32)), .val (.ref b1), .val (.int (4 : Int32))] [(.long ((q1.toUInt64 >>> ((32 : Int32) &&& 0x3f).toInt64.toUInt64).toInt64)), (.int (4 : Int32)), (.ref b1)])
  refine own_step (fun t k => XS.l2i X5.here hx rfl (hb hby d17_23) rfl k) ?_
  show own_Fin _ _ _ _ _ _ _ _ (mkF m 24 #[.val (.long q1), .second, .val (.int (7 : Int32)), .val (.ref b1), .val (.int (4 : Int32))] [(.int (((q1.toUInt64 >>> ((32 : Int32) &&& 0x3f).toInt64.toUInt64).toInt64).toInt32)), (.int (4 : Int32)), (.ref b1)])
  refine own_step (fun t k => XS.i2b X5.here hx rfl (hb hby d17_24) rfl k) ?_
  show own_Fin _ _ _ _ _ _ _ _ (mkF m 25 #[.val (.long q1), .second, .val (.int (7 : Int32)), .val (.ref b1), .val (.int (4 : Int32))] [(.int ((((q1.toUInt64 >>> ((32 : Int32) &&& 0x3f).toInt64.toUInt64).toInt64).toInt32).toInt8.toInt32)), (.int (4 : Int32)), (.ref b1)])
  obtain ⟨T6, h6, X6, e6, W6, B6, st6⟩ := own_bastore X5 hx hZ e5 V_b1 (j := (4 : Int32)) (k := 4) rfl (by decide) (own_nar8 _) (x := ((((q1.toUInt64 >>> ((32 : Int32) &&& 0x3f).toInt64.toUInt64).toInt64).toInt32).toInt8.toInt32)) (pc := 25) (Ls := #[.val (.long q1), .second, .val (.int (7 : Int32)), .val (.ref b1), .val (.int (4 : Int32))]) (rest := []) (hb hby d17_25) rfl
  refine own_step st6 ?_
  replace Zs : n0 ≤ h6.size := by rw [W6.size]; exact Zs
  replace K := K.wr W6 (Or.inr sz_b1)
  replace V_b1 := B6
  replace Nf := Fr.snoc X6 Nf g_b1
  show own_Fin _ _ _ _ _ _ _ _ (mkF m 26 #[.val (.long q1), .second, .val (.int (7 : Int32)), .val (.ref b1), .val (.int (4 : Int32))] [])
  refine own_step (fun t k => XS.iinc X6.here hx rfl (hb hby d17_26) rfl (l' := #[.val (.long q1), .second, .val (.int (7 : Int32)), .val (.ref b1), .val (.int (5 : Int32))]) rfl k) ?_
  show own_Fin _ _ _ _ _ _ _ _ (mkF m 29 #[.val (.long q1), .second, .val (.int (7 : Int32)), .val (.ref b1), .val (.int (5 : Int32))] [])
  refine own_step (fun t k => XS.goto X6.here hx rfl (pc0 := 29) (pc' := 7) rfl (hb hby d17_29) (by decide) (by decide) k) ?_
  show own_Fin _ _ _ _ _ _ _ _ (mkF m 7 #[.val (.long q1), .second, .val (.int (7 : Int32)), .val (.ref b1), .val (.int (5 : Int32))] [])
  refine own_step (fun t k => XS.iload X6.here hx rfl (hb hby d17_7) rfl k) ?_
  show own_Fin _ _ _ _ _ _ _ _ (mkF m 9 #[.val (.long q1), .second, .val (.int (7 : Int32)), .val (.ref b1), .val (.int (5 : Int32))] [(.int (5 : Int32))])
  refine own_step (fun t k => XS.iloadN X6.here hx rfl (hb hby d17_9) rfl k) ?_
  show own_Fin _ _ _ _ _ _ _ _ (mkF m 10 #[.val (.long q1), .second, .val (.int (7 : Int32)), .val (.ref b1), .val (.int (5 : Int32))] [(.int (7 : Int32)), (.int (5 : Int32))])
  refine own_step (fun t k => XS.icmpNo X6.here hx rfl (hb hby d17_10) rfl (by decide) k) ?_
  show own_Fin _ _ _ _ _ _ _ _ (mkF m 13 #[.val (.long q1), .second, .val (.int (7 : Int32)), .val (.ref b1), .val (.int (5 : Int32))] [])
  refine own_step (fun t k => XS.aloadN X6.here hx rfl (hb hby d17_13) rfl rfl k) ?_
  show own_Fin _ _ _ _ _ _ _ _ (mkF m 14 #[.val (.long q1), .second, .val (.int (7 : Int32)), .val (.ref b1), .val (.int (5 : Int32))] [(.ref b1)])
  refine own_step (fun t k => XS.iload X6.here hx rfl (hb hby d17_14) rfl k) ?_
  show own_Fin _ _ _ _ _ _ _ _ (mkF m 16 #[.val (.long q1), .second, .val (.int (7 : Int32)), .val (.ref b1), .val (.int (5 : Int32))] [(.int (5 : Int32)), (.ref b1)])
  refine own_step (fun t k => XS.lloadN X6.here hx rfl (hb hby d17_16) rfl k) ?_
  show own_Fin _ _ _ _ _ _ _ _ (mkF m 17 #[.val (.long q1), .second, .val (.int (7 : Int32)), .val (.ref b1), .val (.int (5 : Int32))] [(.long q1), (.int (5 : Int32)), (.ref b1)])
  refine own_step (fun t k => XS.bipush X6.here hx rfl (hb hby d17_17) k) ?_
  show own_Fin _ _ _ _ _ _ _ _ (mkF m 19 #[.val (.long q1), .second, .val (.int (7 : Int32)), .val (.ref b1), .val (.int (5 : Int32))] [(.int (8 : Int32)), (.long q1), (.int (5 : Int32)), (.ref b1)])
  refine own_step (fun t k => XS.iload X6.here hx rfl (hb hby d17_19) rfl k) ?_
  show own_Fin _ _ _ _ _ _ _ _ (mkF m 21 #[.val (.long q1), .second, .val (.int (7 : Int32)), .val (.ref b1), .val (.int (5 : Int32))] [(.int (5 : Int32)), (.int (8 : Int32)), (.long q1), (.int (5 : Int32)), (.ref b1)])
  refine own_step (fun t k => XS.imul X6.here hx rfl (hb hby d17_21) rfl k) ?_
  show own_Fin _ _ _ _ _ _ _ _ (mkF m 22 #[.val (.long q1), .second, .val (.int (7 : Int32)), .val (.ref b1), .val (.int (5 : Int32))] [(.int (40 : Int32)), (.long q1), (.int (5 : Int32)), (.ref b1)])
  refine own_step (fun t k => XS.lushr X6.here hx rfl (hb hby d17_22) rfl k) ?_
  show own_Fin _ _ _ _ _ _ _ _ (mkF m 23 #[.val (.long q1), .second, .val (.int (7 : Int32)), .val (.ref b1), .val (.int (5 : Int32))] [(.long ((q1.toUInt64 >>> ((40 : Int32) &&& 0x3f).toInt64.toUInt64).toInt64)), (.int (5 : Int32)), (.ref b1)])
  refine own_step (fun t k => XS.l2i X6.here hx rfl (hb hby d17_23) rfl k) ?_
  show own_Fin _ _ _ _ _ _ _ _ (mkF m 24 #[.val (.long q1), .second, .val (.int (7 : Int32)), .val (.ref b1), .val (.int (5 : Int32))] [(.int (((q1.toUInt64 >>> ((40 : Int32) &&& 0x3f).toInt64.toUInt64).toInt64).toInt32)), (.int (5 : Int32)), (.ref b1)])
  refine own_step (fun t k => XS.i2b X6.here hx rfl (hb hby d17_24) rfl k) ?_
  show own_Fin _ _ _ _ _ _ _ _ (mkF m 25 #[.val (.long q1), .second, .val (.int (7 : Int32)), .val (.ref b1), .val (.int (5 : Int32))] [(.int ((((q1.toUInt64 >>> ((40 : Int32) &&& 0x3f).toInt64.toUInt64).toInt64).toInt32).toInt8.toInt32)), (.int (5 : Int32)), (.ref b1)])
  obtain ⟨T7, h7, X7, e7, W7, B7, st7⟩ := own_bastore X6 hx hZ e6 V_b1 (j := (5 : Int32)) (k := 5) rfl (by decide) (own_nar8 _) (x := ((((q1.toUInt64 >>> ((40 : Int32) &&& 0x3f).toInt64.toUInt64).toInt64).toInt32).toInt8.toInt32)) (pc := 25) (Ls := #[.val (.long q1), .second, .val (.int (7 : Int32)), .val (.ref b1), .val (.int (5 : Int32))]) (rest := []) (hb hby d17_25) rfl
  refine own_step st7 ?_
  replace Zs : n0 ≤ h7.size := by rw [W7.size]; exact Zs
  replace K := K.wr W7 (Or.inr sz_b1)
  replace V_b1 := B7
  replace Nf := Fr.snoc X7 Nf g_b1
  show own_Fin _ _ _ _ _ _ _ _ (mkF m 26 #[.val (.long q1), .second, .val (.int (7 : Int32)), .val (.ref b1), .val (.int (5 : Int32))] [])
  refine own_step (fun t k => XS.iinc X7.here hx rfl (hb hby d17_26) rfl (l' := #[.val (.long q1), .second, .val (.int (7 : Int32)), .val (.ref b1), .val (.int (6 : Int32))]) rfl k) ?_
  show own_Fin _ _ _ _ _ _ _ _ (mkF m 29 #[.val (.long q1), .second, .val (.int (7 : Int32)), .val (.ref b1), .val (.int (6 : Int32))] [])
  refine own_step (fun t k => XS.goto X7.here hx rfl (pc0 := 29) (pc' := 7) rfl (hb hby d17_29) (by decide) (by decide) k) ?_
  show own_Fin _ _ _ _ _ _ _ _ (mkF m 7 #[.val (.long q1), .second, .val (.int (7 : Int32)), .val (.ref b1), .val (.int (6 : Int32))] [])
  refine own_step (fun t k => XS.iload X7.here hx rfl (hb hby d17_7) rfl k) ?_
  show own_Fin _ _ _ _ _ _ _ _ (mkF m 9 #[.val (.long q1), .second, .val (.int (7 : Int32)), .val (.ref b1), .val (.int (6 : Int32))] [(.int (6 : Int32))])
  refine own_step (fun t k => XS.iloadN X7.here hx rfl (hb hby d17_9) rfl k) ?_
  show own_Fin _ _ _ _ _ _ _ _ (mkF m 10 #[.val (.long q1), .second, .val (.int (7 : Int32)), .val (.ref b1), .val (.int (6 : Int32))] [(.int (7 : Int32)), (.int (6 : Int32))])
  refine own_step (fun t k => XS.icmpNo X7.here hx rfl (hb hby d17_10) rfl (by decide) k) ?_
  show own_Fin _ _ _ _ _ _ _ _ (mkF m 13 #[.val (.long q1), .second, .val (.int (7 : Int32)), .val (.ref b1), .val (.int (6 : Int32))] [])
  refine own_step (fun t k => XS.aloadN X7.here hx rfl (hb hby d17_13) rfl rfl k) ?_
  show own_Fin _ _ _ _ _ _ _ _ (mkF m 14 #[.val (.long q1), .second, .val (.int (7 : Int32)), .val (.ref b1), .val (.int (6 : Int32))] [(.ref b1)])
  refine own_step (fun t k => XS.iload X7.here hx rfl (hb hby d17_14) rfl k) ?_
  show own_Fin _ _ _ _ _ _ _ _ (mkF m 16 #[.val (.long q1), .second, .val (.int (7 : Int32)), .val (.ref b1), .val (.int (6 : Int32))] [(.int (6 : Int32)), (.ref b1)])
  refine own_step (fun t k => XS.lloadN X7.here hx rfl (hb hby d17_16) rfl k) ?_
  show own_Fin _ _ _ _ _ _ _ _ (mkF m 17 #[.val (.long q1), .second, .val (.int (7 : Int32)), .val (.ref b1), .val (.int (6 : Int32))] [(.long q1), (.int (6 : Int32)), (.ref b1)])
  refine own_step (fun t k => XS.bipush X7.here hx rfl (hb hby d17_17) k) ?_
  show own_Fin _ _ _ _ _ _ _ _ (mkF m 19 #[.val (.long q1), .second, .val (.int (7 : Int32)), .val (.ref b1), .val (.int (6 : Int32))] [(.int (8 : Int32)), (.long q1), (.int (6 : Int32)), (.ref b1)])
  refine own_step (fun t k => XS.iload X7.here hx rfl (hb hby d17_19) rfl k) ?_
  show own_Fin _ _ _ _ _ _ _ _ (mkF m 21 #[.val (.long q1), .second, .val (.int (7 : Int32)), .val (.ref b1), .val (.int (6 : Int32))] [(.int (6 : Int32)), (.int (8 : Int32)), (.long q1), (.int (6 : Int32)), (.ref b1)])
  refine own_step (fun t k => XS.imul X7.here hx rfl (hb hby d17_21) rfl k) ?_
  show own_Fin _ _ _ _ _ _ _ _ (mkF m 22 #[.val (.long q1), .second, .val (.int (7 : Int32)), .val (.ref b1), .val (.int (6 : Int32))] [(.int (48 : Int32)), (.long q1), (.int (6 : Int32)), (.ref b1)])
  refine own_step (fun t k => XS.lushr X7.here hx rfl (hb hby d17_22) rfl k) ?_
  show own_Fin _ _ _ _ _ _ _ _ (mkF m 23 #[.val (.long q1), .second, .val (.int (7 : Int32)), .val (.ref b1), .val (.int (6 : Int32))] [(.long ((q1.toUInt64 >>> ((48 : Int32) &&& 0x3f).toInt64.toUInt64).toInt64)), (.int (6 : Int32)), (.ref b1)])
  refine own_step (fun t k => XS.l2i X7.here hx rfl (hb hby d17_23) rfl k) ?_
  show own_Fin _ _ _ _ _ _ _ _ (mkF m 24 #[.val (.long q1), .second, .val (.int (7 : Int32)), .val (.ref b1), .val (.int (6 : Int32))] [(.int (((q1.toUInt64 >>> ((48 : Int32) &&& 0x3f).toInt64.toUInt64).toInt64).toInt32)), (.int (6 : Int32)), (.ref b1)])
  refine own_step (fun t k => XS.i2b X7.here hx rfl (hb hby d17_24) rfl k) ?_
  show own_Fin _ _ _ _ _ _ _ _ (mkF m 25 #[.val (.long q1), .second, .val (.int (7 : Int32)), .val (.ref b1), .val (.int (6 : Int32))] [(.int ((((q1.toUInt64 >>> ((48 : Int32) &&& 0x3f).toInt64.toUInt64).toInt64).toInt32).toInt8.toInt32)), (.int (6 : Int32)), (.ref b1)])
  obtain ⟨T8, h8, X8, e8, W8, B8, st8⟩ := own_bastore X7 hx hZ e7 V_b1 (j := (6 : Int32)) (k := 6) rfl (by decide) (own_nar8 _) (x := ((((q1.toUInt64 >>> ((48 : Int32) &&& 0x3f).toInt64.toUInt64).toInt64).toInt32).toInt8.toInt32)) (pc := 25) (Ls := #[.val (.long q1), .second, .val (.int (7 : Int32)), .val (.ref b1), .val (.int (6 : Int32))]) (rest := []) (hb hby d17_25) rfl
  refine own_step st8 ?_
  replace Zs : n0 ≤ h8.size := by rw [W8.size]; exact Zs
  replace K := K.wr W8 (Or.inr sz_b1)
  replace V_b1 := B8
  replace Nf := Fr.snoc X8 Nf g_b1
  show own_Fin _ _ _ _ _ _ _ _ (mkF m 26 #[.val (.long q1), .second, .val (.int (7 : Int32)), .val (.ref b1), .val (.int (6 : Int32))] [])
  refine own_step (fun t k => XS.iinc X8.here hx rfl (hb hby d17_26) rfl (l' := #[.val (.long q1), .second, .val (.int (7 : Int32)), .val (.ref b1), .val (.int (7 : Int32))]) rfl k) ?_
  show own_Fin _ _ _ _ _ _ _ _ (mkF m 29 #[.val (.long q1), .second, .val (.int (7 : Int32)), .val (.ref b1), .val (.int (7 : Int32))] [])
  refine own_step (fun t k => XS.goto X8.here hx rfl (pc0 := 29) (pc' := 7) rfl (hb hby d17_29) (by decide) (by decide) k) ?_
  show own_Fin _ _ _ _ _ _ _ _ (mkF m 7 #[.val (.long q1), .second, .val (.int (7 : Int32)), .val (.ref b1), .val (.int (7 : Int32))] [])
  refine own_step (fun t k => XS.iload X8.here hx rfl (hb hby d17_7) rfl k) ?_
  show own_Fin _ _ _ _ _ _ _ _ (mkF m 9 #[.val (.long q1), .second, .val (.int (7 : Int32)), .val (.ref b1), .val (.int (7 : Int32))] [(.int (7 : Int32))])
  refine own_step (fun t k => XS.iloadN X8.here hx rfl (hb hby d17_9) rfl k) ?_
  show own_Fin _ _ _ _ _ _ _ _ (mkF m 10 #[.val (.long q1), .second, .val (.int (7 : Int32)), .val (.ref b1), .val (.int (7 : Int32))] [(.int (7 : Int32)), (.int (7 : Int32))])
  refine own_step (fun t k => XS.icmpYes X8.here hx rfl (pc0 := 10) (pc' := 32) rfl (hb hby d17_10) rfl (by decide) (by decide) (by decide) k) ?_
  show own_Fin _ _ _ _ _ _ _ _ (mkF m 32 #[.val (.long q1), .second, .val (.int (7 : Int32)), .val (.ref b1), .val (.int (7 : Int32))] [])
  refine own_step (fun t k => XS.aloadN X8.here hx rfl (hb hby d17_32) rfl rfl k) ?_
  show own_Fin _ _ _ _ _ _ _ _ (mkF m 33 #[.val (.long q1), .second, .val (.int (7 : Int32)), .val (.ref b1), .val (.int (7 : Int32))] [(.ref b1)])
  refine own_retR X8 hx hlk Bd.returns rfl rfl (hb hby d17_33) (by decide) (by decide) e8 ?_
  exact ⟨b1, rfl, Nf, K, g_b1, V_b1.congr (by intro i hi; rcases own_lt7 hi with rfl | rfl | rfl | rfl | rfl | rfl | rfl <;> rfl)⟩
theorem own_lt8 {i : Nat} (h : i < 8) : i = 0 ∨ i = 1 ∨ i = 2 ∨ i = 3 ∨ i = 4 ∨ i = 5 ∨ i = 6 ∨ i = 7 := by omega
theorem d18_0 : decode prog_22_method_2_code 0 = .ok (.iload_n 2, 1) := by decide +kernel
theorem d18_1 : decode prog_22_method_2_code 1 = .ok (.newarray .byte, 2) := by decide +kernel
theorem d18_3 : decode prog_22_method_2_code 3 = .ok (.astore_n 3, 1) := by decide +kernel
theorem d18_4 : decode prog_22_method_2_code 4 = .ok (.iconst 0, 1) := by decide +kernel
theorem d18_5 : decode prog_22_method_2_code 5 = .ok (.istore 4, 2) := by decide +kernel
theorem d18_7 : decode prog_22_method_2_code 7 = .ok (.iload 4, 2) := by decide +kernel
theorem d18_9 : decode prog_22_method_2_code 9 = .ok (.iload_n 2, 1) := by decide +kernel
theorem d18_10 : decode prog_22_method_2_code 10 = .ok (.if_icmp .ge 22, 3) := by decide +kernel
theorem d18_13 : decode prog_22_method_2_code 13 = .ok (.aload_n 3, 1) := by decide +kernel
theorem d18_14 : decode prog_22_method_2_code 14 = .ok (.iload 4, 2) := by decide +kernel
theorem d18_16 : decode prog_22_method_2_code 16 = .ok (.lload_n 0, 1) := by decide +kernel
theorem d18_17 : decode prog_22_method_2_code 17 = .ok (.bipush 8, 2) := by decide +kernel
theorem d18_19 : decode prog_22_method_2_code 19 = .ok (.iload 4, 2) := by decide +kernel
theorem d18_21 : decode prog_22_method_2_code 21 = .ok (.imul, 1) := by decide +kernel
theorem d18_22 : decode prog_22_method_2_code 22 = .ok (.lushr, 1) := by decide +kernel
theorem d18_23 : decode prog_22_method_2_code 23 = .ok (.l2i, 1) := by decide +kernel
theorem d18_24 : decode prog_22_method_2_code 24 = .ok (.i2b, 1) := by decide +kernel
theorem d18_25 : decode prog_22_method_2_code 25 = .ok (.bastore, 1) := by decide +kernel
theorem d18_26 : decode prog_22_method_2_code 26 = .ok (.iinc 4 1, 3) := by decide +kernel
theorem d18_29 : decode prog_22_method_2_code 29 = .ok (.goto (-22), 3) := by decide +kernel
theorem d18_32 : decode prog_22_method_2_code 32 = .ok (.aload_n 3, 1) := by decide +kernel
theorem d18_33 : decode prog_22_method_2_code 33 = .ok (.areturn, 1) := by decide +kernel
theorem own_pn_18 : plainName "com/example/kern_tablet/kerntablet/schema/IntegerHandler" = true := by first | (simp [plainName, overriddenIn]; done) | decide +kernel
theorem own_ef_18 (m : MethodId) (q1 : Int64) : entryFrame m #[(.long q1), (.int (8 : Int32))] 5 = mkF m 0 #[.val (.long q1), .second, .val (.int (8 : Int32)), .unset, .unset] [] := by first | (simp [entryFrame, mkF, argsToLocals, Value.category]; done) | rfl
abbrev own_R18 : Room := { frames := 0, cells := 1, slots := 8, locals := 0 }
def own_Q18 (Z : State) (q1 : Int64) (h0 : Heap) (n0 : Nat) (v : Option Value) (h : Heap) (L : List Loc) : Prop := ∃ b : Addr, v = some (.ref b) ∧ Fr n0 L ∧ Keep h0 h [] ∧ n0 ≤ b ∧ own_AI Z h b .byte 8 (own_b q1)
set_option maxRecDepth 65536 in
set_option maxHeartbeats 40000000 in
theorem rm18 (l : Launch) (Z : State) (a0 : Array Value) (hw : ∀ d ∈ tables_1, d.before a0 Z = true) (ws : List Jvm.Cond) (q1 : Int64) (h0 : Heap) (n0 : Nat) (Z0 : n0 ≤ h0.size) :
    MetFree l (⟨"com/example/kern_tablet/kerntablet/schema/IntegerHandler", "littleEndian", "(JI)[B"⟩ : MethodName) (head1 (Jvm.Cond.code (⟨"com/example/kern_tablet/kerntablet/schema/IntegerHandler", "littleEndian", "(JI)[B"⟩ : MethodName) prog_22_method_2_code 5 (some (.array .byte)) :: ws) own_R18) (fun a U => a = #[(.long q1), (.int (8 : Int32))] ∧ Z.Warmed39 U.vm ∧ U.heap = h0) (fun _ _ _ _ _ => True) (fun _ U o U' => ∃ v L, o = .returned v ∧ own_Q18 Z q1 h0 n0 v U'.heap L ∧ FrameEnd U o U' L own_R18.cells own_R18.slots) := by
  refine MetFree.of_bodySF (plainFor_of_name own_pn_18) hisR ?_
  intro p e s m args below meth c s₁ Bd hml0 hP hK
  obtain ⟨rfl, hZ, hh⟩ := hP
  have hx := Bd.exec
  have hby := Bd.bytes
  have hlk := BodyLoose.notSynchronized Bd
  have hml : c.maxLocals = 5 := hml0
  have hown : s.vm.findClass "com/example/kern_tablet/kerntablet/schema/IntegerHandler" = some m.cls := (findClass_of_methodNamed Bd.named : s.vm.findClass (⟨"com/example/kern_tablet/kerntablet/schema/IntegerHandler", "littleEndian", "(JI)[B"⟩ : MethodName).cls = some m.cls)
  have hnm := (name_of_methodNamed Bd.named Bd.method).1
  have X0 : Stand p l e own_R18 s m #[(.long q1), (.int (8 : Int32))] below meth c s₁ [] 0 0 := Stand.of_body Bd
  have e0 : s₁.heap = h0 := by rw [← hh, Bd.state]; rfl
  have Nf := Fr.nil n0
  have Zs := Z0
  have K : Keep h0 h0 [] := Keep.refl _ _
  show own_Fin p e below s (own_Q18 Z q1 h0 n0) 1 8 s₁ (entryFrame m #[(.long q1), (.int (8 : Int32))] 5)
  rw [own_ef_18 m q1]
  show own_Fin _ _ _ _ _ _ _ _ (mkF m 0 #[.val (.long q1), .second, .val (.int (8 : Int32)), .unset, .unset] [])
  refine own_step (fun t k => XS.iloadN X0.here hx rfl (hb hby d18_0) rfl k) ?_
  show own_Fin _ _ _ _ _ _ _ _ (mkF m 1 #[.val (.long q1), .second, .val (.int (8 : Int32)), .unset, .unset] [(.int (8 : Int32))])
  obtain ⟨T1, h1, k1, X1, e1, E1, A1, st1⟩ := newP X0 hx hZ (hw _ (List.mem_of_getElem? (i := 4) rfl)) e0 (g := (mkF m 1 #[.val (.long q1), .second, .val (.int (8 : Int32)), .unset, .unset] [(.int (8 : Int32))])) rfl (hb hby d18_1) rfl (by decide) (cap := 8) (by decide) (by decide) (by decide) (by decide)
  obtain ⟨b1, g1⟩ : ∃ z, z = h0.size := ⟨_, rfl⟩
  rw [← g1] at A1 st1
  refine own_step st1 ?_
  have g_b1 : n0 ≤ b1 := Nat.le_trans Zs (Nat.le_of_eq g1.symm)
  have sz_b1 : h0.size ≤ b1 := Nat.le_trans K.1 (Nat.le_of_eq g1.symm)
  replace Zs := Nat.le_trans Zs E1.1
  replace K := K.ext E1
  have V_b1 := own_AI.newB (n := 8) A1 (by decide)
  show own_Fin _ _ _ _ _ _ _ _ (mkF m 3 #[.val (.long q1), .second, .val (.int (8 : Int32)), .unset, .unset] [(.ref b1)])
  refine own_step (fun t k => XS.astoreN X1.here hx rfl (hb hby d18_3) rfl rfl (l' := #[.val (.long q1), .second, .val (.int (8 : Int32)), .val (.ref b1), .unset]) rfl k) ?_
  show own_Fin _ _ _ _ _ _ _ _ (mkF m 4 #[.val (.long q1), .second, .val (.int (8 : Int32)), .val (.ref b1), .unset] [])
  refine own_step (fun t k => XS.iconst X1.here hx rfl (hb hby d18_4) k) ?_
  show own_Fin _ _ _ _ _ _ _ _ (mkF m 5 #[.val (.long q1), .second, .val (.int (8 : Int32)), .val (.ref b1), .unset] [(.int (0 : Int32))])
  refine own_step (fun t k => XS.istore X1.here hx rfl (hb hby d18_5) rfl (l' := #[.val (.long q1), .second, .val (.int (8 : Int32)), .val (.ref b1), .val (.int (0 : Int32))]) rfl k) ?_
  show own_Fin _ _ _ _ _ _ _ _ (mkF m 7 #[.val (.long q1), .second, .val (.int (8 : Int32)), .val (.ref b1), .val (.int (0 : Int32))] [])
  refine own_step (fun t k => XS.iload X1.here hx rfl (hb hby d18_7) rfl k) ?_
  show own_Fin _ _ _ _ _ _ _ _ (mkF m 9 #[.val (.long q1), .second, .val (.int (8 : Int32)), .val (.ref b1), .val (.int (0 : Int32))] [(.int (0 : Int32))])
  refine own_step (fun t k => XS.iloadN X1.here hx rfl (hb hby d18_9) rfl k) ?_
  show own_Fin _ _ _ _ _ _ _ _ (mkF m 10 #[.val (.long q1), .second, .val (.int (8 : Int32)), .val (.ref b1), .val (.int (0 : Int32))] [(.int (8 : Int32)), (.int (0 : Int32))])
  refine own_step (fun t k => XS.icmpNo X1.here hx rfl (hb hby d18_10) rfl (by decide) k) ?_
  show own_Fin _ _ _ _ _ _ _ _ (mkF m 13 #[.val (.long q1), .second, .val (.int (8 : Int32)), .val (.ref b1), .val (.int (0 : Int32))] [])
  refine own_step (fun t k => XS.aloadN X1.here hx rfl (hb hby d18_13) rfl rfl k) ?_
  show own_Fin _ _ _ _ _ _ _ _ (mkF m 14 #[.val (.long q1), .second, .val (.int (8 : Int32)), .val (.ref b1), .val (.int (0 : Int32))] [(.ref b1)])
  refine own_step (fun t k => XS.iload X1.here hx rfl (hb hby d18_14) rfl k) ?_
  show own_Fin _ _ _ _ _ _ _ _ (mkF m 16 #[.val (.long q1), .second, .val (.int (8 : Int32)), .val (.ref b1), .val (.int (0 : Int32))] [(.int (0 : Int32)), (.ref b1)])
  refine own_step (fun t k => XS.lloadN X1.here hx rfl (hb hby d18_16) rfl k) ?_
  show own_Fin _ _ _ _ _ _ _ _ (mkF m 17 #[.val (.long q1), .second, .val (.int (8 : Int32)), .val (.ref b1), .val (.int (0 : Int32))] [(.long q1), (.int (0 : Int32)), (.ref b1)])
  refine own_step (fun t k => XS.bipush X1.here hx rfl (hb hby d18_17) k) ?_
  show own_Fin _ _ _ _ _ _ _ _ (mkF m 19 #[.val (.long q1), .second, .val (.int (8 : Int32)), .val (.ref b1), .val (.int (0 : Int32))] [(.int (8 : Int32)), (.long q1), (.int (0 : Int32)), (.ref b1)])
  refine own_step (fun t k => XS.iload X1.here hx rfl (hb hby d18_19) rfl k) ?_
  show own_Fin _ _ _ _ _ _ _ _ (mkF m 21 #[.val (.long q1), .second, .val (.int (8 : Int32)), .val (.ref b1), .val (.int (0 : Int32))] [(.int (0 : Int32)), (.int (8 : Int32)), (.long q1), (.int (0 : Int32)), (.ref b1)])
  refine own_step (fun t k => XS.imul X1.here hx rfl (hb hby d18_21) rfl k) ?_
  show own_Fin _ _ _ _ _ _ _ _ (mkF m 22 #[.val (.long q1), .second, .val (.int (8 : Int32)), .val (.ref b1), .val (.int (0 : Int32))] [(.int (0 : Int32)), (.long q1), (.int (0 : Int32)), (.ref b1)])
  refine own_step (fun t k => XS.lushr X1.here hx rfl (hb hby d18_22) rfl k) ?_
  show own_Fin _ _ _ _ _ _ _ _ (mkF m 23 #[.val (.long q1), .second, .val (.int (8 : Int32)), .val (.ref b1), .val (.int (0 : Int32))] [(.long ((q1.toUInt64 >>> ((0 : Int32) &&& 0x3f).toInt64.toUInt64).toInt64)), (.int (0 : Int32)), (.ref b1)])
  refine own_step (fun t k => XS.l2i X1.here hx rfl (hb hby d18_23) rfl k) ?_
  show own_Fin _ _ _ _ _ _ _ _ (mkF m 24 #[.val (.long q1), .second, .val (.int (8 : Int32)), .val (.ref b1), .val (.int (0 : Int32))] [(.int (((q1.toUInt64 >>> ((0 : Int32) &&& 0x3f).toInt64.toUInt64).toInt64).toInt32)), (.int (0 : Int32)), (.ref b1)])
  refine own_step (fun t k => XS.i2b X1.here hx rfl (hb hby d18_24) rfl k) ?_
  show own_Fin _ _ _ _ _ _ _ _ (mkF m 25 #[.val (.long q1), .second, .val (.int (8 : Int32)), .val (.ref b1), .val (.int (0 : Int32))] [(.int ((((q1.toUInt64 >>> ((0 : Int32) &&& 0x3f).toInt64.toUInt64).toInt64).toInt32).toInt8.toInt32)), (.int (0 : Int32)), (.ref b1)])
  obtain ⟨T2, h2, X2, e2, W2, B2, st2⟩ := own_bastore X1 hx hZ e1 V_b1 (j := (0 : Int32)) (k := 0) rfl (by decide) (own_nar8 _) (x := ((((q1.toUInt64 >>> ((0 : Int32) &&& 0x3f).toInt64.toUInt64).toInt64).toInt32).toInt8.toInt32)) (pc := 25) (Ls := #[.val (.long q1), .second, .val (.int (8 : Int32)), .val (.ref b1), .val (.int (0 : Int32))]) (rest := []) (hb hby d18_25) rfl
  refine own_step st2 ?_
  replace Zs : n0 ≤ h2.size := by rw [W2.size]; exact Zs
  replace K := K.wr W2 (Or.inr sz_b1)
  replace V_b1 := B2
  replace Nf := Fr.snoc X2 Nf g_b1
  show own_Fin _ _ _ _ _ _ _ _ (mkF m 26 #[.val (.long q1), .second, .val (.int (8 : Int32)), .val (.ref b1), .val (.int (0 : Int32))] [])
  refine own_step (fun t k => XS.iinc X2.here hx rfl (hb hby d18_26) rfl (l' := #[.val (.long q1), .second, .val (.int (8 : Int32)), .val (.ref b1), .val (.int (1 : Int32))]) rfl k) ?_
  show own_Fin _ _ _ _ _ _ _ _ (mkF m 29 #[.val (.long q1), .second, .val (.int (8 : Int32)), .val (.ref b1), .val (.int (1 : Int32))] [])
  refine own_step (fun t k => XS.goto X2.here hx rfl (pc0 := 29) (pc' := 7) rfl (hb hby d18_29) (by decide) (by decide) k) ?_
  show own_Fin _ _ _ _ _ _ _ _ (mkF m 7 #[.val (.long q1), .second, .val (.int (8 : Int32)), .val (.ref b1), .val (.int (1 : Int32))] [])
  refine own_step (fun t k => XS.iload X2.here hx rfl (hb hby d18_7) rfl k) ?_
  show own_Fin _ _ _ _ _ _ _ _ (mkF m 9 #[.val (.long q1), .second, .val (.int (8 : Int32)), .val (.ref b1), .val (.int (1 : Int32))] [(.int (1 : Int32))])
  refine own_step (fun t k => XS.iloadN X2.here hx rfl (hb hby d18_9) rfl k) ?_
  show own_Fin _ _ _ _ _ _ _ _ (mkF m 10 #[.val (.long q1), .second, .val (.int (8 : Int32)), .val (.ref b1), .val (.int (1 : Int32))] [(.int (8 : Int32)), (.int (1 : Int32))])
  refine own_step (fun t k => XS.icmpNo X2.here hx rfl (hb hby d18_10) rfl (by decide) k) ?_
  show own_Fin _ _ _ _ _ _ _ _ (mkF m 13 #[.val (.long q1), .second, .val (.int (8 : Int32)), .val (.ref b1), .val (.int (1 : Int32))] [])
  refine own_step (fun t k => XS.aloadN X2.here hx rfl (hb hby d18_13) rfl rfl k) ?_
  show own_Fin _ _ _ _ _ _ _ _ (mkF m 14 #[.val (.long q1), .second, .val (.int (8 : Int32)), .val (.ref b1), .val (.int (1 : Int32))] [(.ref b1)])
  refine own_step (fun t k => XS.iload X2.here hx rfl (hb hby d18_14) rfl k) ?_
  show own_Fin _ _ _ _ _ _ _ _ (mkF m 16 #[.val (.long q1), .second, .val (.int (8 : Int32)), .val (.ref b1), .val (.int (1 : Int32))] [(.int (1 : Int32)), (.ref b1)])
  refine own_step (fun t k => XS.lloadN X2.here hx rfl (hb hby d18_16) rfl k) ?_
  show own_Fin _ _ _ _ _ _ _ _ (mkF m 17 #[.val (.long q1), .second, .val (.int (8 : Int32)), .val (.ref b1), .val (.int (1 : Int32))] [(.long q1), (.int (1 : Int32)), (.ref b1)])
  refine own_step (fun t k => XS.bipush X2.here hx rfl (hb hby d18_17) k) ?_
  show own_Fin _ _ _ _ _ _ _ _ (mkF m 19 #[.val (.long q1), .second, .val (.int (8 : Int32)), .val (.ref b1), .val (.int (1 : Int32))] [(.int (8 : Int32)), (.long q1), (.int (1 : Int32)), (.ref b1)])
  refine own_step (fun t k => XS.iload X2.here hx rfl (hb hby d18_19) rfl k) ?_
  show own_Fin _ _ _ _ _ _ _ _ (mkF m 21 #[.val (.long q1), .second, .val (.int (8 : Int32)), .val (.ref b1), .val (.int (1 : Int32))] [(.int (1 : Int32)), (.int (8 : Int32)), (.long q1), (.int (1 : Int32)), (.ref b1)])
  refine own_step (fun t k => XS.imul X2.here hx rfl (hb hby d18_21) rfl k) ?_
  show own_Fin _ _ _ _ _ _ _ _ (mkF m 22 #[.val (.long q1), .second, .val (.int (8 : Int32)), .val (.ref b1), .val (.int (1 : Int32))] [(.int (8 : Int32)), (.long q1), (.int (1 : Int32)), (.ref b1)])
  refine own_step (fun t k => XS.lushr X2.here hx rfl (hb hby d18_22) rfl k) ?_
  show own_Fin _ _ _ _ _ _ _ _ (mkF m 23 #[.val (.long q1), .second, .val (.int (8 : Int32)), .val (.ref b1), .val (.int (1 : Int32))] [(.long ((q1.toUInt64 >>> ((8 : Int32) &&& 0x3f).toInt64.toUInt64).toInt64)), (.int (1 : Int32)), (.ref b1)])
  refine own_step (fun t k => XS.l2i X2.here hx rfl (hb hby d18_23) rfl k) ?_
  show own_Fin _ _ _ _ _ _ _ _ (mkF m 24 #[.val (.long q1), .second, .val (.int (8 : Int32)), .val (.ref b1), .val (.int (1 : Int32))] [(.int (((q1.toUInt64 >>> ((8 : Int32) &&& 0x3f).toInt64.toUInt64).toInt64).toInt32)), (.int (1 : Int32)), (.ref b1)])
  refine own_step (fun t k => XS.i2b X2.here hx rfl (hb hby d18_24) rfl k) ?_
  show own_Fin _ _ _ _ _ _ _ _ (mkF m 25 #[.val (.long q1), .second, .val (.int (8 : Int32)), .val (.ref b1), .val (.int (1 : Int32))] [(.int ((((q1.toUInt64 >>> ((8 : Int32) &&& 0x3f).toInt64.toUInt64).toInt64).toInt32).toInt8.toInt32)), (.int (1 : Int32)), (.ref b1)])
  obtain ⟨T3, h3, X3, e3, W3, B3, st3⟩ := own_bastore X2 hx hZ e2 V_b1 (j := (1 : Int32)) (k := 1) rfl (by decide) (own_nar8 _) (x := ((((q1.toUInt64 >>> ((8 : Int32) &&& 0x3f).toInt64.toUInt64).toInt64).toInt32).toInt8.toInt32)) (pc := 25) (Ls := #[.val (.long q1), .second, .val (.int (8 : Int32)), .val (.ref b1), .val (.int (1 : Int32))]) (rest := []) (hb hby d18_25) rfl
  refine own_step st3 ?_
  replace Zs : n0 ≤ h3.size := by rw [W3.size]; exact Zs
  replace K := K.wr W3 (Or.inr sz_b1)
  replace V_b1 := B3
  replace Nf := Fr.snoc X3 Nf g_b1
  show own_Fin _ _ _ _ _ _ _ _ (mkF m 26 #[.val (.long q1), .second, .val (.int (8 : Int32)), .val (.ref b1), .val (.int (1 : Int32))] [])
  refine own_step (fun t k => XS.iinc X3.here hx rfl (hb hby d18_26) rfl (l' := #[.val (.long q1), .second, .val (.int (8 : Int32)), .val (.ref b1), .val (.int (2 : Int32))]) rfl k) ?_
  show own_Fin _ _ _ _ _ _ _ _ (mkF m 29 #[.val (.long q1), .second, .val (.int (8 : Int32)), .val (.ref b1), .val (.int (2 : Int32))] [])
  refine own_step (fun t k => XS.goto X3.here hx rfl (pc0 := 29) (pc' := 7) rfl (hb hby d18_29) (by decide) (by decide) k) ?_
  show own_Fin _ _ _ _ _ _ _ _ (mkF m 7 #[.val (.long q1), .second, .val (.int (8 : Int32)), .val (.ref b1), .val (.int (2 : Int32))] [])
  refine own_step (fun t k => XS.iload X3.here hx rfl (hb hby d18_7) rfl k) ?_
  show own_Fin _ _ _ _ _ _ _ _ (mkF m 9 #[.val (.long q1), .second, .val (.int (8 : Int32)), .val (.ref b1), .val (.int (2 : Int32))] [(.int (2 : Int32))])
  refine own_step (fun t k => XS.iloadN X3.here hx rfl (hb hby d18_9) rfl k) ?_
  show own_Fin _ _ _ _ _ _ _ _ (mkF m 10 #[.val (.long q1), .second, .val (.int (8 : Int32)), .val (.ref b1), .val (.int (2 : Int32))] [(.int (8 : Int32)), (.int (2 : Int32))])
  refine own_step (fun t k => XS.icmpNo X3.here hx rfl (hb hby d18_10) rfl (by decide) k) ?_
  show own_Fin _ _ _ _ _ _ _ _ (mkF m 13 #[.val (.long q1), .second, .val (.int (8 : Int32)), .val (.ref b1), .val (.int (2 : Int32))] [])
  refine own_step (fun t k => XS.aloadN X3.here hx rfl (hb hby d18_13) rfl rfl k) ?_
  show own_Fin _ _ _ _ _ _ _ _ (mkF m 14 #[.val (.long q1), .second, .val (.int (8 : Int32)), .val (.ref b1), .val (.int (2 : Int32))] [(.ref b1)])
  refine own_step (fun t k => XS.iload X3.here hx rfl (hb hby d18_14) rfl k) ?_
  show own_Fin _ _ _ _ _ _ _ _ (mkF m 16 #[.val (.long q1), .second, .val (.int (8 : Int32)), .val (.ref b1), .val (.int (2 : Int32))] [(.int (2 : Int32)), (.ref b1)])
  refine own_step (fun t k => XS.lloadN X3.here hx rfl (hb hby d18_16) rfl k) ?_
  show own_Fin _ _ _ _ _ _ _ _ (mkF m 17 #[.val (.long q1), .second, .val (.int (8 : Int32)), .val (.ref b1), .val (.int (2 : Int32))] [(.long q1), (.int (2 : Int32)), (.ref b1)])
  refine own_step (fun t k => XS.bipush X3.here hx rfl (hb hby d18_17) k) ?_
  show own_Fin _ _ _ _ _ _ _ _ (mkF m 19 #[.val (.long q1), .second, .val (.int (8 : Int32)), .val (.ref b1), .val (.int (2 : Int32))] [(.int (8 : Int32)), (.long q1), (.int (2 : Int32)), (.ref b1)])
  refine own_step (fun t k => XS.iload X3.here hx rfl (hb hby d18_19) rfl k) ?_
  show own_Fin _ _ _ _ _ _ _ _ (mkF m 21 #[.val (.long q1), .second, .val (.int (8 : Int32)), .val (.ref b1), .val (.int (2 : Int32))] [(.int (2 : Int32)), (.int (8 : Int32)), (.long q1), (.int (2 : Int32)), (.ref b1)])
  refine own_step (fun t k => XS.imul X3.here hx rfl (hb hby d18_21) rfl k) ?_
  show own_Fin _ _ _ _ _ _ _ _ (mkF m 22 #[.val (.long q1), .second, .val (.int (8 : Int32)), .val (.ref b1), .val (.int (2 : Int32))] [(.int (16 : Int32)), (.long q1), (.int (2 : Int32)), (.ref b1)])
  refine own_step (fun t k => XS.lushr X3.here hx rfl (hb hby d18_22) rfl k) ?_
  show own_Fin _ _ _ _ _ _ _ _ (mkF m 23 #[.val (.long q1), .second, .val (.int (8 : Int32)), .val (.ref b1), .val (.int (2 : Int32))] [(.long ((q1.toUInt64 >>> ((16 : Int32) &&& 0x3f).toInt64.toUInt64).toInt64)), (.int (2 : Int32)), (.ref b1)])
  refine own_step (fun t k => XS.l2i X3.here hx rfl (hb hby d18_23) rfl k) ?_
  show own_Fin _ _ _ _ _ _ _ _ (mkF m 24 #[.val (.long q1), .second, .val (.int (8 : Int32)), .val (.ref b1), .val (.int (2 : Int32))] [(.int (((q1.toUInt64 >>> ((16 : Int32) &&& 0x3f).toInt64.toUInt64).toInt64).toInt32)), (.int (2 : Int32)), (.ref b1)])
  refine own_step (fun t k => XS.i2b X3.here hx rfl (hb hby d18_24) rfl k) ?_
  show own_Fin _ _ _ _ _ _ _ _ (mkF m 25 #[.val (.long q1), .second, .val (.int (8 : Int32)), .val (.ref b1), .val (.int (2 : Int32))] [(.int ((((q1.toUInt64 >>> ((16 : Int32) &&& 0x3f).toInt64.toUInt64).toInt64).toInt32).toInt8.toInt32)), (.int (2 : Int32)), (.ref b1)])
  obtain ⟨T4, h4, X4, e4, W4, B4, st4⟩ := own_bastore X3 hx hZ e3 V_b1 (j := (2 : Int32)) (k := 2) rfl (by decide) (own_nar8 _) (x := ((((q1.toUInt64 >>> ((16 : Int32) &&& 0x3f).toInt64.toUInt64).toInt64).toInt32).toInt8.toInt32)) (pc := 25) (Ls := #[.val (.long q1), .second, .val (.int (8 : Int32)), .val (.ref b1), .val (.int (2 : Int32))]) (rest := []) (hb hby d18_25) rfl
  refine own_step st4 ?_
  replace Zs : n0 ≤ h4.size := by rw [W4.size]; exact Zs
  replace K := K.wr W4 (Or.inr sz_b1)
  replace V_b1 := B4
  replace Nf := Fr.snoc X4 Nf g_b1
  show own_Fin _ _ _ _ _ _ _ _ (mkF m 26 #[.val (.long q1), .second, .val (.int (8 : Int32)), .val (.ref b1), .val (.int (2 : Int32))] [])
  refine own_step (fun t k => XS.iinc X4.here hx rfl (hb hby d18_26) rfl (l' := #[.val (.long q1), .second, .val (.int (8 : Int32)), .val (.ref b1), .val (.int (3 : Int32))]) rfl k) ?_
  show own_Fin _ _ _ _ _ _ _ _ (mkF m 29 #[.val (.long q1), .second, .val (.int (8 : Int32)), .val (.ref b1), .val (.int (3 : Int32))] [])
  refine own_step (fun t k => XS.goto X4.here hx rfl (pc0 := 29) (pc' := 7) rfl (hb hby d18_29) (by decide) (by decide) k) ?_
  show own_Fin _ _ _ _ _ _ _ _ (mkF m 7 #[.val (.long q1), .second, .val (.int (8 : Int32)), .val (.ref b1), .val (.int (3 : Int32))] [])
  refine own_step (fun t k => XS.iload X4.here hx rfl (hb hby d18_7) rfl k) ?_
  show own_Fin _ _ _ _ _ _ _ _ (mkF m 9 #[.val (.long q1), .second, .val (.int (8 : Int32)), .val (.ref b1), .val (.int (3 : Int32))] [(.int (3 : Int32))])
  refine own_step (fun t k => XS.iloadN X4.here hx rfl (hb hby d18_9) rfl k) ?_
  show own_Fin _ _ _ _ _ _ _ _ (mkF m 10 #[.val (.long q1), .second, .val (.int (8 : Int32)), .val (.ref b1), .val (.int (3 : Int32))] [(.int (8 : Int32)), (.int (3 : Int32))])
  refine own_step (fun t k => XS.icmpNo X4.here hx rfl (hb hby d18_10) rfl (by decide) k) ?_
  show own_Fin _ _ _ _ _ _ _ _ (mkF m 13 #[.val (.long q1), .second, .val (.int (8 : Int32)), .val (.ref b1), .val (.int (3 : Int32))] [])
  refine own_step (fun t k => XS.aloadN X4.here hx rfl (hb hby d18_13) rfl rfl k) ?_
  show own_Fin _ _ _ _ _ _ _ _ (mkF m 14 #[.val (.long q1), .second, .val (.int (8 : Int32)), .val (.ref b1), .val (.int (3 : Int32))] [(.ref b1)])
  refine own_step (fun t k => XS.iload X4.here hx rfl (hb hby d18_14) rfl k) ?_
  show own_Fin _ _ _ _ _ _ _ _ (mkF m 16 #[.val (.long q1), .second, .val (.int (8 : Int32)), .val (.ref b1), .val (.int (3 : Int32))] [(.int (3 : Int32)), (.ref b1)])
  refine own_step (fun t k => XS.lloadN X4.here hx rfl (hb hby d18_16) rfl k) ?_
  show own_Fin _ _ _ _ _ _ _ _ (mkF m 17 #[.val (.long q1), .second, .val (.int (8 : Int32)), .val (.ref b1), .val (.int (3 : Int32))] [(.long q1), (.int (3 : Int32)), (.ref b1)])
  refine own_step (fun t k => XS.bipush X4.here hx rfl (hb hby d18_17) k) ?_
  show own_Fin _ _ _ _ _ _ _ _ (mkF m 19 #[.val (.long q1), .second, .val (.int (8 : Int32)), .val (.ref b1), .val (.int (3 : Int32))] [(.int (8 : Int32)), (.long q1), (.int (3 : Int32)), (.ref b1)])
  refine own_step (fun t k => XS.iload X4.here hx rfl (hb hby d18_19) rfl k) ?_
  show own_Fin _ _ _ _ _ _ _ _ (mkF m 21 #[.val (.long q1), .second, .val (.int (8 : Int32)), .val (.ref b1), .val (.int (3 : Int32))] [(.int (3 : Int32)), (.int (8 : Int32)), (.long q1), (.int (3 : Int32)), (.ref b1)])
  refine own_step (fun t k => XS.imul X4.here hx rfl (hb hby d18_21) rfl k) ?_
  show own_Fin _ _ _ _ _ _ _ _ (mkF m 22 #[.val (.long q1), .second, .val (.int (8 : Int32)), .val (.ref b1), .val (.int (3 : Int32))] [(.int (24 : Int32)), (.long q1), (.int (3 : Int32)), (.ref b1)])
  refine own_step (fun t k => XS.lushr X4.here hx rfl (hb hby d18_22) rfl k) ?_
  show own_Fin _ _ _ _ _ _ _ _ (mkF m 23 #[.val (.long q1), .second, .val (.int (8 : Int32)), .val (.ref b1), .val (.int (3 : Int32))] [(.long ((q1.toUInt64 >>> ((24 : Int32) &&& 0x3f).toInt64.toUInt64).toInt64)), (.int (3 : Int32)), (.ref b1)])
  refine own_step (fun t k => XS.l2i X4.here hx rfl (hb hby d18_23) rfl k) ?_
  show own_Fin _ _ _ _ _ _ _ _ (mkF m 24 #[.val (.long q1), .second, .val (.int (8 : Int32)), .val (.ref b1), .val (.int (3 : Int32))] [(.int (((q1.toUInt64 >>> ((24 : Int32) &&& 0x3f).toInt64.toUInt64).toInt64).toInt32)), (.int (3 : Int32)), (.ref b1)])
  refine own_step (fun t k => XS.i2b X4.here hx rfl (hb hby d18_24) rfl k) ?_
  show own_Fin _ _ _ _ _ _ _ _ (mkF m 25 #[.val (.long q1), .second, .val (.int (8 : Int32)), .val (.ref b1), .val (.int (3 : Int32))] [(.int ((((q1.toUInt64 >>> ((24 : Int32) &&& 0x3f).toInt64.toUInt64).toInt64).toInt32).toInt8.toInt32)), (.int (3 : Int32)), (.ref b1)])
  obtain ⟨T5, h5, X5, e5, W5, B5, st5⟩ := own_bastore X4 hx hZ e4 V_b1 (j := (3 : Int32)) (k := 3) rfl (by decide) (own_nar8 _) (x := ((((q1.toUInt64 >>> ((24 : Int32) &&& 0x3f).toInt64.toUInt64).toInt64).toInt32).toInt8.toInt32)) (pc := 25) (Ls := #[.val (.long q1), .second, .val (.int (8 : Int32)), .val (.ref b1), .val (.int (3 : Int32))]) (rest := []) (hb hby d18_25) rfl
  refine own_step st5 ?_
  replace Zs : n0 ≤ h5.size := by rw [W5.size]; exact Zs
  replace K := K.wr W5 (Or.inr sz_b1)
  replace V_b1 := B5
  replace Nf := Fr.snoc X5 Nf g_b1
  show own_Fin _ _ _ _ _ _ _ _ (mkF m 26 #[.val (.long q1), .second, .val (.int (8 : Int32)), .val (.ref b1), .val (.int (3 : Int32))] [])
  refine own_step (fun t k => XS.iinc X5.here hx rfl (hb hby d18_26) rfl (l' := #[.val (.long q1), .second, .val (.int (8 : Int32)), .val (.ref b1), .val (.int (4 : Int32))]) rfl k) ?_
  show own_Fin _ _ _ _ _ _ _ _ (mkF m 29 #[.val (.long q1), .second, .val (.int (8 : Int32)), .val (.ref b1), .val (.int (4 : Int32))] [])
  refine own_step (fun t k => XS.goto X5.here hx rfl (pc0 := 29) (pc' := 7) rfl (hb hby d18_29) (by decide) (by decide) k) ?_
  show own_Fin _ _ _ _ _ _ _ _ (mkF m 7 #[.val (.long q1), .second, .val (.int (8 : Int32)), .val (.ref b1), .val (.int (4 : Int32))] [])
  refine own_step (fun t k => XS.iload X5.here hx rfl (hb hby d18_7) rfl k) ?_
  show own_Fin _ _ _ _ _ _ _ _ (mkF m 9 #[.val (.long q1), .second, .val (.int (8 : Int32)), .val (.ref b1), .val (.int (4 : Int32))] [(.int (4 : Int32))])
  refine own_step (fun t k => XS.iloadN X5.here hx rfl (hb hby d18_9) rfl k) ?_
  show own_Fin _ _ _ _ _ _ _ _ (mkF m 10 #[.val (.long q1), .second, .val (.int (8 : Int32)), .val (.ref b1), .val (.int (4 : Int32))] [(.int (8 : Int32)), (.int (4 : Int32))])
  refine own_step (fun t k => XS.icmpNo X5.here hx rfl (hb hby d18_10) rfl (by decide) k) ?_
  show own_Fin _ _ _ _ _ _ _ _ (mkF m 13 #[.val (.long q1), .second, .val (.int (8 : Int32)), .val (.ref b1), .val (.int (4 : Int32))] [])
  refine own_step (fun t k => XS.aloadN X5.here hx rfl (hb hby d18_13) rfl rfl k) ?_
  show own_Fin _ _ _ _ _ _ _ _ (mkF m 14 #[.val (.long q1), .second, .val (.int (8 : Int32)), .val (.ref b1), .val (.int (4 : Int32))] [(.ref b1)])
  refine own_step (fun t k => XS.iload X5.here hx rfl (hb hby d18_14) rfl k) ?_
  show own_Fin _ _ _ _ _ _ _ _ (mkF m 16 #[.val (.long q1), .second, .val (.int (8 : Int32)), .val (.ref b1), .val (.int (4 : Int32))] [(.int (4 : Int32)), (.ref b1)])
  refine own_step (fun t k => XS.lloadN X5.here hx rfl (hb hby d18_16) rfl k) ?_
  show own_Fin _ _ _ _ _ _ _ _ (mkF m 17 #[.val (.long q1), .second, .val (.int (8 : Int32)), .val (.ref b1), .val (.int (4 : Int32))] [(.long q1), (.int (4 : Int32)), (.ref b1)])
  refine own_step (fun t k => XS.bipush X5.here hx rfl (hb hby d18_17) k) ?_
  show own_Fin _ _ _ _ _ _ _ _ (mkF m 19 #[.val (.long q1), .second, .val (.int (8 : Int32)), .val (.ref b1), .val (.int (4 : Int32))] [(.int (8 : Int32)), (.long q1), (.int (4 : Int32)), (.ref b1)])
  refine own_step (fun t k => XS.iload X5.here hx rfl (hb hby d18_19) rfl k) ?_
  show own_Fin _ _ _ _ _ _ _ _ (mkF m 21 #[.val (.long q1), .second, .val (.int (8 : Int32)), .val (.ref b1), .val (.int (4 : Int32))] [(.int (4 : Int32)), (.int (8 : Int32)), (.long q1), (.int (4 : Int32)), (.ref b1)])
  refine own_step (fun t k => XS.imul X5.here hx rfl (hb hby d18_21) rfl k) ?_
  show own_Fin _ _ _ _ _ _ _ _ (mkF m 22 #[.val (.long q1), .second, .val (.int (8 : Int32)), .val (.ref b1), .val (.int (4 : Int32))] [(.int (32 : Int32)), (.long q1), (.int (4 : Int32)), (.ref b1)])
  refine own_step (fun t k => XS.lushr X5.here hx rfl (hb hby d18_22) rfl k) ?_
  show own_Fin _ _ _ _ _ _ _ _ (mkF m 23 #[.val (.long q1), .second, .val (.int (8 : Int32)), .val (.ref b1), .val (.int (4 : Int32))] [(.long ((q1.toUInt64 >>> ((32 : Int32) &&& 0x3f).toInt64.toUInt64).toInt64)), (.int (4 : Int32)), (.ref b1)])
  refine own_step (fun t k => XS.l2i X5.here hx rfl (hb hby d18_23) rfl k) ?_
  show own_Fin _ _ _ _ _ _ _ _ (mkF m 24 #[.val (.long q1), .second, .val (.int (8 : Int32)), .val (.ref b1), .val (.int (4 : Int32))] [(.int (((q1.toUInt64 >>> ((32 : Int32) &&& 0x3f).toInt64.toUInt64).toInt64).toInt32)), (.int (4 : Int32)), (.ref b1)])
  refine own_step (fun t k => XS.i2b X5.here hx rfl (hb hby d18_24) rfl k) ?_
  show own_Fin _ _ _ _ _ _ _ _ (mkF m 25 #[.val (.long q1), .second, .val (.int (8 : Int32)), .val (.ref b1), .val (.int (4 : Int32))] [(.int ((((q1.toUInt64 >>> ((32 : Int32) &&& 0x3f).toInt64.toUInt64).toInt64).toInt32).toInt8.toInt32)), (.int (4 : Int32)), (.ref b1)])
  obtain ⟨T6, h6, X6, e6, W6, B6, st6⟩ := own_bastore X5 hx hZ e5 V_b1 (j := (4 : Int32)) (k := 4) rfl (by decide) (own_nar8 _) (x := ((((q1.toUInt64 >>> ((32 : Int32) &&& 0x3f).toInt64.toUInt64).toInt64).toInt32).toInt8.toInt32)) (pc := 25) (Ls := #[.val (.long q1), .second, .val (.int (8 : Int32)), .val (.ref b1), .val (.int (4 : Int32))]) (rest := []) (hb hby d18_25) rfl
  refine own_step st6 ?_
  replace Zs : n0 ≤ h6.size := by rw [W6.size]; exact Zs
  replace K := K.wr W6 (Or.inr sz_b1)
  replace V_b1 := B6
  replace Nf := Fr.snoc X6 Nf g_b1
  show own_Fin _ _ _ _ _ _ _ _ (mkF m 26 #[.val (.long q1), .second, .val (.int (8 : Int32)), .val (.ref b1), .val (.int (4 : Int32))] [])
  refine own_step (fun t k => XS.iinc X6.here hx rfl (hb hby d18_26) rfl (l' := #[.val (.long q1), .second, .val (.int (8 : Int32)), .val (.ref b1), .val (.int (5 : Int32))]) rfl k) ?_
  show own_Fin _ _ _ _ _ _ _ _ (mkF m 29 #[.val (.long q1), .second, .val (.int (8 : Int32)), .val (.ref b1), .val (.int (5 : Int32))] [])
  refine own_step (fun t k => XS.goto X6.here hx rfl (pc0 := 29) (pc' := 7) rfl (hb hby d18_29) (by decide) (by decide) k) ?_
  show own_Fin _ _ _ _ _ _ _ _ (mkF m 7 #[.val (.long q1), .second, .val (.int (8 : Int32)), .val (.ref b1), .val (.int (5 : Int32))] [])
  refine own_step (fun t k => XS.iload X6.here hx rfl (hb hby d18_7) rfl k) ?_
  show own_Fin _ _ _ _ _ _ _ _ (mkF m 9 #[.val (.long q1), .second, .val (.int (8 : Int32)), .val (.ref b1), .val (.int (5 : Int32))] [(.int (5 : Int32))])
  refine own_step (fun t k => XS.iloadN X6.here hx rfl (hb hby d18_9) rfl k) ?_
  show own_Fin _ _ _ _ _ _ _ _ (mkF m 10 #[.val (.long q1), .second, .val (.int (8 : Int32)), .val (.ref b1), .val (.int (5 : Int32))] [(.int (8 : Int32)), (.int (5 : Int32))])
  refine own_step (fun t k => XS.icmpNo X6.here hx rfl (hb hby d18_10) rfl (by decide) k) ?_
  show own_Fin _ _ _ _ _ _ _ _ (mkF m 13 #[.val (.long q1), .second, .val (.int (8 : Int32)), .val (.ref b1), .val (.int (5 : Int32))] [])
  refine own_step (fun t k => XS.aloadN X6.here hx rfl (hb hby d18_13) rfl rfl k) ?_
  show own_Fin _ _ _ _ _ _ _ _ (mkF m 14 #[.val (.long q1), .second, .val (.int (8 : Int32)), .val (.ref b1), .val (.int (5 : Int32))] [(.ref b1)])
  refine own_step (fun t k => XS.iload X6.here hx rfl (hb hby d18_14) rfl k) ?_
  show own_Fin _ _ _ _ _ _ _ _ (mkF m 16 #[.val (.long q1), .second, .val (.int (8 : Int32)), .val (.ref b1), .val (.int (5 : Int32))] [(.int (5 : Int32)), (.ref b1)])
  refine own_step (fun t k => XS.lloadN X6.here hx rfl (hb hby d18_16) rfl k) ?_
  show own_Fin _ _ _ _ _ _ _ _ (mkF m 17 #[.val (.long q1), .second, .val (.int (8 : Int32)), .val (.ref b1), .val (.int (5 : Int32))] [(.long q1), (.int (5 : Int32)), (.ref b1)])
  refine own_step (fun t k => XS.bipush X6.here hx rfl (hb hby d18_17) k) ?_
  show own_Fin _ _ _ _ _ _ _ _ (mkF m 19 #[.val (.long q1), .second, .val (.int (8 : Int32)), .val (.ref b1), .val (.int (5 : Int32))] [(.int (8 : Int32)), (.long q1), (.int (5 : Int32)), (.ref b1)])
  refine own_step (fun t k => XS.iload X6.here hx rfl (hb hby d18_19) rfl k) ?_
  show own_Fin _ _ _ _ _ _ _ _ (mkF m 21 #[.val (.long q1), .second, .val (.int (8 : Int32)), .val (.ref b1), .val (.int (5 : Int32))] [(.int (5 : Int32)), (.int (8 : Int32)), (.long q1), (.int (5 : Int32)), (.ref b1)])
  refine own_step (fun t k => XS.imul X6.here hx rfl (hb hby d18_21) rfl k) ?_
  show own_Fin _ _ _ _ _ _ _ _ (mkF m 22 #[.val (.long q1), .second, .val (.int (8 : Int32)), .val (.ref b1), .val (.int (5 : Int32))] [(.int (40 : Int32)), (.long q1), (.int (5 : Int32)), (.ref b1)])
  refine own_step (fun t k => XS.lushr X6.here hx rfl (hb hby d18_22) rfl k) ?_
  show own_Fin _ _ _ _ _ _ _ _ (mkF m 23 #[.val (.long q1), .second, .val (.int (8 : Int32)), .val (.ref b1), .val (.int (5 : Int32))] [(.long ((q1.toUInt64 >>> ((40 : Int32) &&& 0x3f).toInt64.toUInt64).toInt64)), (.int (5 : Int32)), (.ref b1)])
  refine own_step (fun t k => XS.l2i X6.here hx rfl (hb hby d18_23) rfl k) ?_
  show own_Fin _ _ _ _ _ _ _ _ (mkF m 24 #[.val (.long q1), .second, .val (.int (8 : Int32)), .val (.ref b1), .val (.int (5 : Int32))] [(.int (((q1.toUInt64 >>> ((40 : Int32) &&& 0x3f).toInt64.toUInt64).toInt64).toInt32)), (.int (5 : Int32)), (.ref b1)])
  refine own_step (fun t k => XS.i2b X6.here hx rfl (hb hby d18_24) rfl k) ?_
  show own_Fin _ _ _ _ _ _ _ _ (mkF m 25 #[.val (.long q1), .second, .val (.int (8 : Int32)), .val (.ref b1), .val (.int (5 : Int32))] [(.int ((((q1.toUInt64 >>> ((40 : Int32) &&& 0x3f).toInt64.toUInt64).toInt64).toInt32).toInt8.toInt32)), (.int (5 : Int32)), (.ref b1)])
  obtain ⟨T7, h7, X7, e7, W7, B7, st7⟩ := own_bastore X6 hx hZ e6 V_b1 (j := (5 : Int32)) (k := 5) rfl (by decide) (own_nar8 _) (x := ((((q1.toUInt64 >>> ((40 : Int32) &&& 0x3f).toInt64.toUInt64).toInt64).toInt32).toInt8.toInt32)) (pc := 25) (Ls := #[.val (.long q1), .second, .val (.int (8 : Int32)), .val (.ref b1), .val (.int (5 : Int32))]) (rest := []) (hb hby d18_25) rfl
  refine own_step st7 ?_
  replace Zs : n0 ≤ h7.size := by rw [W7.size]; exact Zs
  replace K := K.wr W7 (Or.inr sz_b1)
  replace V_b1 := B7
  replace Nf := Fr.snoc X7 Nf g_b1
  show own_Fin _ _ _ _ _ _ _ _ (mkF m 26 #[.val (.long q1), .second, .val (.int (8 : Int32)), .val (.ref b1), .val (.int (5 : Int32))] [])
  refine own_step (fun t k => XS.iinc X7.here hx rfl (hb hby d18_26) rfl (l' := #[.val (.long q1), .second, .val (.int (8 : Int32)), .val (.ref b1), .val (.int (6 : Int32))]) rfl k) ?_
  show own_Fin _ _ _ _ _ _ _ _ (mkF m 29 #[.val (.long q1), .second, .val (.int (8 : Int32)), .val (.ref b1), .val (.int (6 : Int32))] [])
  refine own_step (fun t k => XS.goto X7.here hx rfl (pc0 := 29) (pc' := 7) rfl (hb hby d18_29) (by decide) (by decide) k) ?_
  show own_Fin _ _ _ _ _ _ _ _ (mkF m 7 #[.val (.long q1), .second, .val (.int (8 : Int32)), .val (.ref b1), .val (.int (6 : Int32))] [])
  refine own_step (fun t k => XS.iload X7.here hx rfl (hb hby d18_7) rfl k) ?_
  show own_Fin _ _ _ _ _ _ _ _ (mkF m 9 #[.val (.long q1), .second, .val (.int (8 : Int32)), .val (.ref b1), .val (.int (6 : Int32))] [(.int (6 : Int32))])
  refine own_step (fun t k => XS.iloadN X7.here hx rfl (hb hby d18_9) rfl k) ?_
  show own_Fin _ _ _ _ _ _ _ _ (mkF m 10 #[.val (.long q1), .second, .val (.int (8 : Int32)), .val (.ref b1), .val (.int (6 : Int32))] [(.int (8 : Int32)), (.int (6 : Int32))])
  refine own_step (fun t k => XS.icmpNo X7.here hx rfl (hb hby d18_10) rfl (by decide) k) ?_
  show own_Fin _ _ _ _ _ _ _ _ (mkF m 13 #[.val (.long q1), .second, .val (.int (8 : Int32)), .val (.ref b1), .val (.int (6 : Int32))] [])
  refine own_step (fun t k => XS.aloadN X7.here hx rfl (hb hby d18_13) rfl rfl k) ?_
  show own_Fin _ _ _ _ _ _ _ _ (mkF m 14 #[.val (.long q1), .second, .val (.int (8 : Int32)), .val (.ref b1), .val (.int (6 : Int32))] [(.ref b1)])
  refine own_step (fun t k => XS.iload X7.here hx rfl (hb hby d18_14) rfl k) ?_
  show own_Fin _ _ _ _ _ _ _ _ (mkF m 16 #[.val (.long q1), .second, .val (.int (8 : Int32)), .val (.ref b1), .val (.int (6 : Int32))] [(.int (6 : Int32)), (.ref b1)])
  refine own_step (fun t k => XS.lloadN X7.here hx rfl (hb hby d18_16) rfl k) ?_
  show own_Fin _ _ _ _ _ _ _ _ (mkF m 17 #[.val (.long q1), .second, .val (.int (8 : Int32)), .val (.ref b1), .val (.int (6 : Int32))] [(.long q1), (.int (6 : Int32)), (.ref b1)])
  refine own_step (fun t k => XS.bipush X7.here hx rfl (hb hby d18_17) k) ?_
  show own_Fin _ _ _ _ _ _ _ _ (mkF m 19 #[.val (.long q1), .second, .val (.int (8 : Int32)), .val (.ref b1), .val (.int (6 : Int32))] [(.int (8 : Int32)), (.long q1), (.int (6 : Int32)), (.ref b1)])
  refine own_step (fun t k => XS.iload X7.here hx rfl (hb hby d18_19) rfl k) ?_
  show own_Fin _ _ _ _ _ _ _ _ (mkF m 21 #[.val (.long q1), .second, .val (.int (8 : Int32)), .val (.ref b1), .val (.int (6 : Int32))] [(.int (6 : Int32)), (.int (8 : Int32)), (.long q1), (.int (6 : Int32)), (.ref b1)])
  refine own_step (fun t k => XS.imul X7.here hx rfl (hb hby d18_21) rfl k) ?_
  show own_Fin _ _ _ _ _ _ _ _ (mkF m 22 #[.val (.long q1), .second, .val (.int (8 : Int32)), .val (.ref b1), .val (.int (6 : Int32))] [(.int (48 : Int32)), (.long q1), (.int (6 : Int32)), (.ref b1)])
  refine own_step (fun t k => XS.lushr X7.here hx rfl (hb hby d18_22) rfl k) ?_
  show own_Fin _ _ _ _ _ _ _ _ (mkF m 23 #[.val (.long q1), .second, .val (.int (8 : Int32)), .val (.ref b1), .val (.int (6 : Int32))] [(.long ((q1.toUInt64 >>> ((48 : Int32) &&& 0x3f).toInt64.toUInt64).toInt64)), (.int (6 : Int32)), (.ref b1)])
  refine own_step (fun t k => XS.l2i X7.here hx rfl (hb hby d18_23) rfl k) ?_
  show own_Fin _ _ _ _ _ _ _ _ (mkF m 24 #[.val (.long q1), .second, .val (.int (8 : Int32)), .val (.ref b1), .val (.int (6 : Int32))] [(.int (((q1.toUInt64 >>> ((48 : Int32) &&& 0x3f).toInt64.toUInt64).toInt64).toInt32)), (.int (6 : Int32)), (.ref b1)])
  refine own_step (fun t k => XS.i2b X7.here hx rfl (hb hby d18_24) rfl k) ?_
  show own_Fin _ _ _ _ _ _ _ _ (mkF m 25 #[.val (.long q1), .second, .val (.int (8 : Int32)), .val (.ref b1), .val (.int (6 : Int32))] [(.int ((((q1.toUInt64 >>> ((48 : Int32) &&& 0x3f).toInt64.toUInt64).toInt64).toInt32).toInt8.toInt32)), (.int (6 : Int32)), (.ref b1)])
  obtain ⟨T8, h8, X8, e8, W8, B8, st8⟩ := own_bastore X7 hx hZ e7 V_b1 (j := (6 : Int32)) (k := 6) rfl (by decide) (own_nar8 _) (x := ((((q1.toUInt64 >>> ((48 : Int32) &&& 0x3f).toInt64.toUInt64).toInt64).toInt32).toInt8.toInt32)) (pc := 25) (Ls := #[.val (.long q1), .second, .val (.int (8 : Int32)), .val (.ref b1), .val (.int (6 : Int32))]) (rest := []) (hb hby d18_25) rfl
  refine own_step st8 ?_
  replace Zs : n0 ≤ h8.size := by rw [W8.size]; exact Zs
  replace K := K.wr W8 (Or.inr sz_b1)
  replace V_b1 := B8
  replace Nf := Fr.snoc X8 Nf g_b1
  show own_Fin _ _ _ _ _ _ _ _ (mkF m 26 #[.val (.long q1), .second, .val (.int (8 : Int32)), .val (.ref b1), .val (.int (6 : Int32))] [])
  refine own_step (fun t k => XS.iinc X8.here hx rfl (hb hby d18_26) rfl (l' := #[.val (.long q1), .second, .val (.int (8 : Int32)), .val (.ref b1), .val (.int (7 : Int32))]) rfl k) ?_
  show own_Fin _ _ _ _ _ _ _ _ (mkF m 29 #[.val (.long q1), .second, .val (.int (8 : Int32)), .val (.ref b1), .val (.int (7 : Int32))] [])
  refine own_step (fun t k => XS.goto X8.here hx rfl (pc0 := 29) (pc' := 7) rfl (hb hby d18_29) (by decide) (by decide) k) ?_
  show own_Fin _ _ _ _ _ _ _ _ (mkF m 7 #[.val (.long q1), .second, .val (.int (8 : Int32)), .val (.ref b1), .val (.int (7 : Int32))] [])
  refine own_step (fun t k => XS.iload X8.here hx rfl (hb hby d18_7) rfl k) ?_
  show own_Fin _ _ _ _ _ _ _ _ (mkF m 9 #[.val (.long q1), .second, .val (.int (8 : Int32)), .val (.ref b1), .val (.int (7 : Int32))] [(.int (7 : Int32))])
  refine own_step (fun t k => XS.iloadN X8.here hx rfl (hb hby d18_9) rfl k) ?_
  show own_Fin _ _ _ _ _ _ _ _ (mkF m 10 #[.val (.long q1), .second, .val (.int (8 : Int32)), .val (.ref b1), .val (.int (7 : Int32))] [(.int (8 : Int32)), (.int (7 : Int32))])
  refine own_step (fun t k => XS.icmpNo X8.here hx rfl (hb hby d18_10) rfl (by decide) k) ?_
  show own_Fin _ _ _ _ _ _ _ _ (mkF m 13 #[.val (.long q1), .second, .val (.int (8 : Int32)), .val (.ref b1), .val (.int (7 : Int32))] [])
  refine own_step (fun t k => XS.aloadN X8.here hx rfl (hb hby d18_13) rfl rfl k) ?_
  show own_Fin _ _ _ _ _ _ _ _ (mkF m 14 #[.val (.long q1), .second, .val (.int (8 : Int32)), .val (.ref b1), .val (.int (7 : Int32))] [(.ref b1)])
  refine own_step (fun t k => XS.iload X8.here hx rfl (hb hby d18_14) rfl k) ?_
  show own_Fin _ _ _ _ _ _ _ _ (mkF m 16 #[.val (.long q1), .second, .val (.int (8 : Int32)), .val (.ref b1), .val (.int (7 : Int32))] [(.int (7 : Int32)), (.ref b1)])
  refine own_step (fun t k => XS.lloadN X8.here hx rfl (hb hby d18_16) rfl k) ?_
  show own_Fin _ _ _ _ _ _ _ _ (mkF m 17 #[.val (.long q1), .second, .val (.int (8 : Int32)), .val (.ref b1), .val (.int (7 : Int32))] [(.long q1), (.int (7 : Int32)), (.ref b1)])
  refine own_step (fun t k => XS.bipush X8.here hx rfl (hb hby d18_17) k) ?_
  show own_Fin _ _ _ _ _ _ _ _ (mkF m 19 #[.val (.long q1), .second, .val (.int (8 : Int32)), .val (.ref b1), .val (.int (7 : Int32))] [(.int (8 : Int32)), (.long q1), (.int (7 : Int32)), (.ref b1)])
  refine own_step (fun t k => XS.iload X8.here hx rfl (hb hby d18_19) rfl k) ?_
  show own_Fin _ _ _ _ _ _ _ _ (mkF m 21 #[.val (.long q1), .second, .val (.int (8 : Int32)), .val (.ref b1), .val (.int (7 : Int32))] [(.int (7 : Int32)), (.int (8 : Int32)), (.long q1), (.int (7 : Int32)), (.ref b1)])
  refine own_step (fun t k => XS.imul X8.here hx rfl (hb hby d18_21) rfl k) ?_
  show own_Fin _ _ _ _ _ _ _ _ (mkF m 22 #[.val (.long q1), .second, .val (.int (8 : Int32)), .val (.ref b1), .val (.int (7 : Int32))] [(.int (56 : Int32)), (.long q1), (.int (7 : Int32)), (.ref b1)])
  refine own_step (fun t k => XS.lushr X8.here hx rfl (hb hby d18_22) rfl k) ?_
  show own_Fin _ _ _ _ _ _ _ _ (mkF m 23 #[.val (.long q1), .second, .val (.int (8 : Int32)), .val (.ref b1), .val (.int (7 : Int32))] [(.long ((q1.toUInt64 >>> ((56 : Int32) &&& 0x3f).toInt64.toUInt64).toInt64)), (.int (7 : Int32)), (.ref b1)])
  refine own_step (fun t k => XS.l2i X8.here hx rfl (hb hby d18_23) rfl k) ?_
  show own_Fin _ _ _ _ _ _ _ _ (mkF m 24 #[.val (.long q1), .second, .val (.int (8 : Int32)), .val (.ref b1), .val (.int (7 : Int32))] [(.int (((q1.toUInt64 >>> ((56 : Int32) &&& 0x3f).toInt64.toUInt64).toInt64).toInt32)), (.int (7 : Int32)), (.ref b1)])
  refine own_step (fun t k => XS.i2b X8.here hx rfl (hb hby d18_24) rfl k) ?_
  show own_Fin _ _ _ _ _ _ _ _ (mkF m 25 #[.val (.long q1), .second, .val (.int (8 : Int32)), .val (.ref b1), .val (.int (7 : Int32))] [(.int ((((q1.toUInt64 >>> ((56 : Int32) &&& 0x3f).toInt64.toUInt64).toInt64).toInt32).toInt8.toInt32)), (.int (7 : Int32)), (.ref b1)])
  obtain ⟨T9, h9, X9, e9, W9, B9, st9⟩ := own_bastore X8 hx hZ e8 V_b1 (j := (7 : Int32)) (k := 7) rfl (by decide) (own_nar8 _) (x := ((((q1.toUInt64 >>> ((56 : Int32) &&& 0x3f).toInt64.toUInt64).toInt64).toInt32).toInt8.toInt32)) (pc := 25) (Ls := #[.val (.long q1), .second, .val (.int (8 : Int32)), .val (.ref b1), .val (.int (7 : Int32))]) (rest := []) (hb hby d18_25) rfl
  refine own_step st9 ?_
  replace Zs : n0 ≤ h9.size := by rw [W9.size]; exact Zs
  replace K := K.wr W9 (Or.inr sz_b1)
  replace V_b1 := B9
  replace Nf := Fr.snoc X9 Nf g_b1
  show own_Fin _ _ _ _ _ _ _ _ (mkF m 26 #[.val (.long q1), .second, .val (.int (8 : Int32)), .val (.ref b1), .val (.int (7 : Int32))] [])
  refine own_step (fun t k => XS.iinc X9.here hx rfl (hb hby d18_26) rfl (l' := #[.val (.long q1), .second, .val (.int (8 : Int32)), .val (.ref b1), .val (.int (8 : Int32))]) rfl k) ?_
  show own_Fin _ _ _ _ _ _ _ _ (mkF m 29 #[.val (.long q1), .second, .val (.int (8 : Int32)), .val (.ref b1), .val (.int (8 : Int32))] [])
  refine own_step (fun t k => XS.goto X9.here hx rfl (pc0 := 29) (pc' := 7) rfl (hb hby d18_29) (by decide) (by decide) k) ?_
  show own_Fin _ _ _ _ _ _ _ _ (mkF m 7 #[.val (.long q1), .second, .val (.int (8 : Int32)), .val (.ref b1), .val (.int (8 : Int32))] [])
  refine own_step (fun t k => XS.iload X9.here hx rfl (hb hby d18_7) rfl k) ?_
  show own_Fin _ _ _ _ _ _ _ _ (mkF m 9 #[.val (.long q1), .second, .val (.int (8 : Int32)), .val (.ref b1), .val (.int (8 : Int32))] [(.int (8 : Int32))])
  refine own_step (fun t k => XS.iloadN X9.here hx rfl (hb hby d18_9) rfl k) ?_
  show own_Fin _ _ _ _ _ _ _ _ (mkF m 10 #[.val (.long q1), .second, .val (.int (8 : Int32)), .val (.ref b1), .val (.int (8 : Int32))] [(.int (8 : Int32)), (.int (8 : Int32))])
  refine own_step (fun t k => XS.icmpYes X9.here hx rfl (pc0 := 10) (pc' := 32) rfl (hb hby d18_10) rfl (by decide) (by decide) (by decide) k) ?_
  show own_Fin _ _ _ _ _ _ _ _ (mkF m 32 #[.val (.long q1), .second, .val (.int (8 : Int32)), .val (.ref b1), .val (.int (8 : Int32))] [])
  refine own_step (fun t k => XS.aloadN X9.here hx rfl (hb hby d18_32) rfl rfl k) ?_
  show own_Fin _ _ _ _ _ _ _ _ (mkF m 33 #[.val (.long q1), .second, .val (.int (8 : Int32)), .val (.ref b1), .val (.int (8 : Int32))] [(.ref b1)])
  refine own_retR X9 hx hlk Bd.returns rfl rfl (hb hby d18_33) (by decide) (by decide) e9 ?_
  exact ⟨b1, rfl, Nf, K, g_b1, V_b1.congr (by intro i hi; rcases own_lt8 hi with rfl | rfl | rfl | rfl | rfl | rfl | rfl | rfl <;> rfl)⟩
theorem d20_0 : decode method_3_code 0 = .ok (.iload_n 1, 1) := by decide +kernel
theorem d20_1 : decode method_3_code 1 = .ok (.aload_n 0, 1) := by decide +kernel
theorem d20_2 : decode method_3_code 2 = .ok (.arraylength, 1) := by decide +kernel
theorem d20_3 : decode method_3_code 3 = .ok (.if_icmp .ge 19, 3) := by decide +kernel
theorem d20_6 : decode method_3_code 6 = .ok (.aload_n 0, 1) := by decide +kernel
theorem d20_7 : decode method_3_code 7 = .ok (.iload_n 1, 1) := by decide +kernel
theorem d20_8 : decode method_3_code 8 = .ok (.baload, 1) := by decide +kernel
theorem d20_9 : decode method_3_code 9 = .ok (.sipush 255, 3) := by decide +kernel
theorem d20_12 : decode method_3_code 12 = .ok (.iand, 1) := by decide +kernel
theorem d20_13 : decode method_3_code 13 = .ok (.i2l, 1) := by decide +kernel
theorem d20_14 : decode method_3_code 14 = .ok (.bipush 8, 2) := by decide +kernel
theorem d20_16 : decode method_3_code 16 = .ok (.iload_n 1, 1) := by decide +kernel
theorem d20_17 : decode method_3_code 17 = .ok (.imul, 1) := by decide +kernel
theorem d20_18 : decode method_3_code 18 = .ok (.lshl, 1) := by decide +kernel
theorem d20_19 : decode method_3_code 19 = .ok (.goto 4, 3) := by decide +kernel
theorem d20_23 : decode method_3_code 23 = .ok (.lreturn, 1) := by decide +kernel
theorem own_pn_20 : plainName "com/example/kern_tablet/kerntablet/schema/IntegerHandlerLittleEndianPinLaw" = true := by first | (simp [plainName, overriddenIn]; done) | decide +kernel
theorem own_ef_20 (m : MethodId) (a1 : Addr) (p2 : Int32) : entryFrame m #[(.ref a1), (.int p2)] 2 = mkF m 0 #[.val (.ref a1), .val (.int p2)] [] := by first | (simp [entryFrame, mkF, argsToLocals, Value.category]; done) | rfl
abbrev own_R20 : Room := { frames := 0, cells := 0, slots := 0, locals := 0 }
def own_Q20 (Z : State) (a1 : Addr) (p2 : Int32) (f1 : Nat → Int32) (nn : Nat) (zl : Int32) (h0 : Heap) (n0 : Nat) (v : Option Value) (h : Heap) (L : List Loc) : Prop := v = some (.long (own_pt (f1 p2.toInt.toNat) p2)) ∧ Fr n0 L ∧ h = h0
set_option maxRecDepth 65536 in
set_option maxHeartbeats 40000000 in
theorem rm20 (l : Launch) (Z : State) (a0 : Array Value) (hw : ∀ d ∈ tables_1, d.before a0 Z = true) (ws : List Jvm.Cond) (a1 : Addr) (p2 : Int32) (f1 : Nat → Int32) (nn : Nat) (zl : Int32) (h0 : Heap) (n0 : Nat) (Z0 : n0 ≤ h0.size) (V_a1 : own_AI Z h0 a1 .byte nn f1) (hzl : nn.toInt32 = zl) (hzn : zl.toInt = (nn : Int)) (hp : 0 ≤ p2.toInt ∧ p2.toInt < zl.toInt) :
    MetFree l (⟨"com/example/kern_tablet/kerntablet/schema/IntegerHandlerLittleEndianPinLaw", "part", "([BI)J"⟩ : MethodName) (head1 (Jvm.Cond.code (⟨"com/example/kern_tablet/kerntablet/schema/IntegerHandlerLittleEndianPinLaw", "part", "([BI)J"⟩ : MethodName) method_3_code 2 (some .long) :: ws) own_R20) (fun a U => a = #[(.ref a1), (.int p2)] ∧ Z.Warmed39 U.vm ∧ U.heap = h0) (fun _ _ _ _ _ => True) (fun _ U o U' => ∃ v L, o = .returned v ∧ own_Q20 Z a1 p2 f1 nn zl h0 n0 v U'.heap L ∧ FrameEnd U o U' L own_R20.cells own_R20.slots) := by
  refine MetFree.of_bodySF (plainFor_of_name own_pn_20) hisR ?_
  intro p e s m args below meth c s₁ Bd hml0 hP hK
  obtain ⟨rfl, hZ, hh⟩ := hP
  have hx := Bd.exec
  have hby := Bd.bytes
  have hlk := BodyLoose.notSynchronized Bd
  have hml : c.maxLocals = 2 := hml0
  have hown : s.vm.findClass "com/example/kern_tablet/kerntablet/schema/IntegerHandlerLittleEndianPinLaw" = some m.cls := (findClass_of_methodNamed Bd.named : s.vm.findClass (⟨"com/example/kern_tablet/kerntablet/schema/IntegerHandlerLittleEndianPinLaw", "part", "([BI)J"⟩ : MethodName).cls = some m.cls)
  have hnm := (name_of_methodNamed Bd.named Bd.method).1
  have X0 : Stand p l e own_R20 s m #[(.ref a1), (.int p2)] below meth c s₁ [] 0 0 := Stand.of_body Bd
  have e0 : s₁.heap = h0 := by rw [← hh, Bd.state]; rfl
  have Nf := Fr.nil n0
  have Zs := Z0
  show own_Fin p e below s (own_Q20 Z a1 p2 f1 nn zl h0 n0) 0 0 s₁ (entryFrame m #[(.ref a1), (.int p2)] 2)
  rw [own_ef_20 m a1 p2]
  show own_Fin _ _ _ _ _ _ _ _ (mkF m 0 #[.val (.ref a1), .val (.int p2)] [])
  refine own_step (fun t k => XS.iloadN X0.here hx rfl (hb hby d20_0) rfl k) ?_
  show own_Fin _ _ _ _ _ _ _ _ (mkF m 1 #[.val (.ref a1), .val (.int p2)] [(.int p2)])
  refine own_step (fun t k => XS.aloadN X0.here hx rfl (hb hby d20_1) rfl rfl k) ?_
  show own_Fin _ _ _ _ _ _ _ _ (mkF m 2 #[.val (.ref a1), .val (.int p2)] [(.ref a1), (.int p2)])
  refine own_arrlen X0 hx hZ e0 V_a1 (z := zl) hzl (hb hby d20_2) rfl ?_
  show own_Fin _ _ _ _ _ _ _ _ (mkF m 3 #[.val (.ref a1), .val (.int p2)] [(.int zl), (.int p2)])
  have hc1 : (p2).toInt < (zl).toInt := by omega
  refine own_step (fun t k => XS.icmpNo X0.here hx rfl (hb hby d20_3) rfl (own_cl (x := p2) (y := zl) rfl rfl hc1).2.1 k) ?_
  show own_Fin _ _ _ _ _ _ _ _ (mkF m 6 #[.val (.ref a1), .val (.int p2)] [])
  refine own_step (fun t k => XS.aloadN X0.here hx rfl (hb hby d20_6) rfl rfl k) ?_
  show own_Fin _ _ _ _ _ _ _ _ (mkF m 7 #[.val (.ref a1), .val (.int p2)] [(.ref a1)])
  refine own_step (fun t k => XS.iloadN X0.here hx rfl (hb hby d20_7) rfl k) ?_
  show own_Fin _ _ _ _ _ _ _ _ (mkF m 8 #[.val (.ref a1), .val (.int p2)] [(.int p2), (.ref a1)])
  refine own_baload X0 hx hZ e0 V_a1 (k := p2.toInt.toNat) (by omega) (by omega) (v := (f1 (p2.toInt.toNat))) rfl (hb hby d20_8) rfl ?_
  show own_Fin _ _ _ _ _ _ _ _ (mkF m 9 #[.val (.ref a1), .val (.int p2)] [(.int (f1 (p2.toInt.toNat)))])
  refine own_step (fun t k => XS.sipush X0.here hx rfl (hb hby d20_9) k) ?_
  show own_Fin _ _ _ _ _ _ _ _ (mkF m 12 #[.val (.ref a1), .val (.int p2)] [(.int (255 : Int32)), (.int (f1 (p2.toInt.toNat)))])
  refine own_step (fun t k => XS.iand X0.here hx rfl (hb hby d20_12) rfl k) ?_
  show own_Fin _ _ _ _ _ _ _ _ (mkF m 13 #[.val (.ref a1), .val (.int p2)] [(.int ((f1 (p2.toInt.toNat)) &&& (255 : Int32)))])
  refine own_step (fun t k => XS.i2l X0.here hx rfl (hb hby d20_13) rfl k) ?_
  show own_Fin _ _ _ _ _ _ _ _ (mkF m 14 #[.val (.ref a1), .val (.int p2)] [(.long (((f1 (p2.toInt.toNat)) &&& (255 : Int32)).toInt64))])
  refine own_step (fun t k => XS.bipush X0.here hx rfl (hb hby d20_14) k) ?_
  show own_Fin _ _ _ _ _ _ _ _ (mkF m 16 #[.val (.ref a1), .val (.int p2)] [(.int (8 : Int32)), (.long (((f1 (p2.toInt.toNat)) &&& (255 : Int32)).toInt64))])
  refine own_step (fun t k => XS.iloadN X0.here hx rfl (hb hby d20_16) rfl k) ?_
  show own_Fin _ _ _ _ _ _ _ _ (mkF m 17 #[.val (.ref a1), .val (.int p2)] [(.int p2), (.int (8 : Int32)), (.long (((f1 (p2.toInt.toNat)) &&& (255 : Int32)).toInt64))])
  refine own_step (fun t k => XS.imul X0.here hx rfl (hb hby d20_17) rfl k) ?_
  show own_Fin _ _ _ _ _ _ _ _ (mkF m 18 #[.val (.ref a1), .val (.int p2)] [(.int ((8 : Int32) * p2)), (.long (((f1 (p2.toInt.toNat)) &&& (255 : Int32)).toInt64))])
  refine own_step (fun t k => XS.lshl X0.here hx rfl (hb hby d20_18) rfl k) ?_
  show own_Fin _ _ _ _ _ _ _ _ (mkF m 19 #[.val (.ref a1), .val (.int p2)] [(.long ((((f1 (p2.toInt.toNat)) &&& (255 : Int32)).toInt64) <<< (((8 : Int32) * p2) &&& 0x3f).toInt64))])
  refine own_step (fun t k => XS.goto X0.here hx rfl (pc0 := 19) (pc' := 23) rfl (hb hby d20_19) (by decide) (by decide) k) ?_
  show own_Fin _ _ _ _ _ _ _ _ (mkF m 23 #[.val (.ref a1), .val (.int p2)] [(.long ((((f1 (p2.toInt.toNat)) &&& (255 : Int32)).toInt64) <<< (((8 : Int32) * p2) &&& 0x3f).toInt64))])
  refine own_retJ X0 hx hlk Bd.returns (hb hby d20_23) (by decide) (by decide) e0 ?_
  exact ⟨rfl, Nf, rfl⟩
theorem d21_0 : decode method_3_code 0 = .ok (.iload_n 1, 1) := by decide +kernel
theorem d21_1 : decode method_3_code 1 = .ok (.aload_n 0, 1) := by decide +kernel
theorem d21_2 : decode method_3_code 2 = .ok (.arraylength, 1) := by decide +kernel
theorem d21_3 : decode method_3_code 3 = .ok (.if_icmp .ge 19, 3) := by decide +kernel
theorem d21_22 : decode method_3_code 22 = .ok (.lconst 0, 1) := by decide +kernel
theorem d21_23 : decode method_3_code 23 = .ok (.lreturn, 1) := by decide +kernel
theorem own_pn_21 : plainName "com/example/kern_tablet/kerntablet/schema/IntegerHandlerLittleEndianPinLaw" = true := by first | (simp [plainName, overriddenIn]; done) | decide +kernel
theorem own_ef_21 (m : MethodId) (a1 : Addr) (p2 : Int32) : entryFrame m #[(.ref a1), (.int p2)] 2 = mkF m 0 #[.val (.ref a1), .val (.int p2)] [] := by first | (simp [entryFrame, mkF, argsToLocals, Value.category]; done) | rfl
abbrev own_R21 : Room := { frames := 0, cells := 0, slots := 0, locals := 0 }
def own_Q21 (Z : State) (a1 : Addr) (p2 : Int32) (f1 : Nat → Int32) (nn : Nat) (zl : Int32) (h0 : Heap) (n0 : Nat) (v : Option Value) (h : Heap) (L : List Loc) : Prop := v = some (.long (0 : Int64)) ∧ Fr n0 L ∧ h = h0
set_option maxRecDepth 65536 in
set_option maxHeartbeats 40000000 in
theorem rm21 (l : Launch) (Z : State) (a0 : Array Value) (hw : ∀ d ∈ tables_1, d.before a0 Z = true) (ws : List Jvm.Cond) (a1 : Addr) (p2 : Int32) (f1 : Nat → Int32) (nn : Nat) (zl : Int32) (h0 : Heap) (n0 : Nat) (Z0 : n0 ≤ h0.size) (V_a1 : own_AI Z h0 a1 .byte nn f1) (hzl : nn.toInt32 = zl) (hzn : zl.toInt = (nn : Int)) (hp : ¬ p2.toInt < zl.toInt) :
    MetFree l (⟨"com/example/kern_tablet/kerntablet/schema/IntegerHandlerLittleEndianPinLaw", "part", "([BI)J"⟩ : MethodName) (head1 (Jvm.Cond.code (⟨"com/example/kern_tablet/kerntablet/schema/IntegerHandlerLittleEndianPinLaw", "part", "([BI)J"⟩ : MethodName) method_3_code 2 (some .long) :: ws) own_R21) (fun a U => a = #[(.ref a1), (.int p2)] ∧ Z.Warmed39 U.vm ∧ U.heap = h0) (fun _ _ _ _ _ => True) (fun _ U o U' => ∃ v L, o = .returned v ∧ own_Q21 Z a1 p2 f1 nn zl h0 n0 v U'.heap L ∧ FrameEnd U o U' L own_R21.cells own_R21.slots) := by
  refine MetFree.of_bodySF (plainFor_of_name own_pn_21) hisR ?_
  intro p e s m args below meth c s₁ Bd hml0 hP hK
  obtain ⟨rfl, hZ, hh⟩ := hP
  have hx := Bd.exec
  have hby := Bd.bytes
  have hlk := BodyLoose.notSynchronized Bd
  have hml : c.maxLocals = 2 := hml0
  have hown : s.vm.findClass "com/example/kern_tablet/kerntablet/schema/IntegerHandlerLittleEndianPinLaw" = some m.cls := (findClass_of_methodNamed Bd.named : s.vm.findClass (⟨"com/example/kern_tablet/kerntablet/schema/IntegerHandlerLittleEndianPinLaw", "part", "([BI)J"⟩ : MethodName).cls = some m.cls)
  have hnm := (name_of_methodNamed Bd.named Bd.method).1
  have X0 : Stand p l e own_R21 s m #[(.ref a1), (.int p2)] below meth c s₁ [] 0 0 := Stand.of_body Bd
  have e0 : s₁.heap = h0 := by rw [← hh, Bd.state]; rfl
  have Nf := Fr.nil n0
  have Zs := Z0
  show own_Fin p e below s (own_Q21 Z a1 p2 f1 nn zl h0 n0) 0 0 s₁ (entryFrame m #[(.ref a1), (.int p2)] 2)
  rw [own_ef_21 m a1 p2]
  show own_Fin _ _ _ _ _ _ _ _ (mkF m 0 #[.val (.ref a1), .val (.int p2)] [])
  refine own_step (fun t k => XS.iloadN X0.here hx rfl (hb hby d21_0) rfl k) ?_
  show own_Fin _ _ _ _ _ _ _ _ (mkF m 1 #[.val (.ref a1), .val (.int p2)] [(.int p2)])
  refine own_step (fun t k => XS.aloadN X0.here hx rfl (hb hby d21_1) rfl rfl k) ?_
  show own_Fin _ _ _ _ _ _ _ _ (mkF m 2 #[.val (.ref a1), .val (.int p2)] [(.ref a1), (.int p2)])
  refine own_arrlen X0 hx hZ e0 V_a1 (z := zl) hzl (hb hby d21_2) rfl ?_
  show own_Fin _ _ _ _ _ _ _ _ (mkF m 3 #[.val (.ref a1), .val (.int p2)] [(.int zl), (.int p2)])
  have hc1 : ¬ ((p2).toInt < (zl).toInt) := by omega
  refine own_step (fun t k => XS.icmpYes X0.here hx rfl (pc0 := 3) (pc' := 22) rfl (hb hby d21_3) rfl (own_cn (x := p2) (y := zl) rfl rfl hc1).2.1 (by decide) (by decide) k) ?_
  show own_Fin _ _ _ _ _ _ _ _ (mkF m 22 #[.val (.ref a1), .val (.int p2)] [])
  refine own_step (fun t k => XS.lconst X0.here hx rfl (hb hby d21_22) k) ?_
  show own_Fin _ _ _ _ _ _ _ _ (mkF m 23 #[.val (.ref a1), .val (.int p2)] [(.long (0 : Int64))])
  refine own_retJ X0 hx hlk Bd.returns (hb hby d21_23) (by decide) (by decide) e0 ?_
  exact ⟨rfl, Nf, rfl⟩
theorem own_cases (w n : Int32) (h : (w &&& (7 : Int32)) + (1 : Int32) = n) : n = 1 ∨ n = 2 ∨ n = 3 ∨ n = 4 ∨ n = 5 ∨ n = 6 ∨ n = 7 ∨ n = 8 := by
  have q := c_mask w 7 3 (by decide) (by decide)
  have r := c_iadd (w &&& 7) 1
  have g := rng32 n
  have e : (1 : Int32).toInt = 1 := by decide
  rw [h, e] at r
  have t : n.toInt = 1 ∨ n.toInt = 2 ∨ n.toInt = 3 ∨ n.toInt = 4 ∨ n.toInt = 5 ∨ n.toInt = 6 ∨ n.toInt = 7 ∨ n.toInt = 8 := by omega
  rcases t with t | t | t | t | t | t | t | t
  · exact Or.inl (Int32.toInt_inj.mp t)
  · exact Or.inr (Or.inl (Int32.toInt_inj.mp t))
  · exact Or.inr (Or.inr (Or.inl (Int32.toInt_inj.mp t)))
  · exact Or.inr (Or.inr (Or.inr (Or.inl (Int32.toInt_inj.mp t))))
  · exact Or.inr (Or.inr (Or.inr (Or.inr (Or.inl (Int32.toInt_inj.mp t)))))
  · exact Or.inr (Or.inr (Or.inr (Or.inr (Or.inr (Or.inl (Int32.toInt_inj.mp t))))))
  · exact Or.inr (Or.inr (Or.inr (Or.inr (Or.inr (Or.inr (Or.inl (Int32.toInt_inj.mp t)))))))
  · exact Or.inr (Or.inr (Or.inr (Or.inr (Or.inr (Or.inr (Or.inr (Int32.toInt_inj.mp t)))))))
theorem own_fin1 (v : Int64) : ((((((((own_pt (own_b v (0 : Int32).toInt.toNat) (0 : Int32)) ||| (0 : Int64)) ||| (0 : Int64)) ||| (0 : Int64)) ||| (0 : Int64)) ||| (0 : Int64)) ||| (0 : Int64)) ||| (0 : Int64)) = (v &&& (((1 : Int64) <<< ((8 : Int32) &&& 0x3f).toInt64) - (1 : Int64))) := by
  have h := own_sum1 v
  rw [show (((1 : Int64) <<< ((8 : Int32) &&& 0x3f).toInt64) - (1 : Int64)) = (255 : Int64) from by decide +kernel]
  rw [Int64.or_zero, Int64.or_zero, Int64.or_zero, Int64.or_zero, Int64.or_zero, Int64.or_zero, Int64.or_zero]
  exact h
theorem own_fin2 (v : Int64) : ((((((((own_pt (own_b v (0 : Int32).toInt.toNat) (0 : Int32)) ||| (own_pt (own_b v (1 : Int32).toInt.toNat) (1 : Int32))) ||| (0 : Int64)) ||| (0 : Int64)) ||| (0 : Int64)) ||| (0 : Int64)) ||| (0 : Int64)) ||| (0 : Int64)) = (v &&& (((1 : Int64) <<< ((16 : Int32) &&& 0x3f).toInt64) - (1 : Int64))) := by
  have h := own_sum2 v
  rw [show (((1 : Int64) <<< ((16 : Int32) &&& 0x3f).toInt64) - (1 : Int64)) = (65535 : Int64) from by decide +kernel]
  rw [Int64.or_zero, Int64.or_zero, Int64.or_zero, Int64.or_zero, Int64.or_zero, Int64.or_zero]
  exact h
theorem own_fin3 (v : Int64) : ((((((((own_pt (own_b v (0 : Int32).toInt.toNat) (0 : Int32)) ||| (own_pt (own_b v (1 : Int32).toInt.toNat) (1 : Int32))) ||| (own_pt (own_b v (2 : Int32).toInt.toNat) (2 : Int32))) ||| (0 : Int64)) ||| (0 : Int64)) ||| (0 : Int64)) ||| (0 : Int64)) ||| (0 : Int64)) = (v &&& (((1 : Int64) <<< ((24 : Int32) &&& 0x3f).toInt64) - (1 : Int64))) := by
  have h := own_sum3 v
  rw [show (((1 : Int64) <<< ((24 : Int32) &&& 0x3f).toInt64) - (1 : Int64)) = (16777215 : Int64) from by decide +kernel]
  rw [Int64.or_zero, Int64.or_zero, Int64.or_zero, Int64.or_zero, Int64.or_zero]
  exact h
theorem own_fin4 (v : Int64) : ((((((((own_pt (own_b v (0 : Int32).toInt.toNat) (0 : Int32)) ||| (own_pt (own_b v (1 : Int32).toInt.toNat) (1 : Int32))) ||| (own_pt (own_b v (2 : Int32).toInt.toNat) (2 : Int32))) ||| (own_pt (own_b v (3 : Int32).toInt.toNat) (3 : Int32))) ||| (0 : Int64)) ||| (0 : Int64)) ||| (0 : Int64)) ||| (0 : Int64)) = (v &&& (((1 : Int64) <<< ((32 : Int32) &&& 0x3f).toInt64) - (1 : Int64))) := by
  have h := own_sum4 v
  rw [show (((1 : Int64) <<< ((32 : Int32) &&& 0x3f).toInt64) - (1 : Int64)) = (4294967295 : Int64) from by decide +kernel]
  rw [Int64.or_zero, Int64.or_zero, Int64.or_zero, Int64.or_zero]
  exact h
theorem own_fin5 (v : Int64) : ((((((((own_pt (own_b v (0 : Int32).toInt.toNat) (0 : Int32)) ||| (own_pt (own_b v (1 : Int32).toInt.toNat) (1 : Int32))) ||| (own_pt (own_b v (2 : Int32).toInt.toNat) (2 : Int32))) ||| (own_pt (own_b v (3 : Int32).toInt.toNat) (3 : Int32))) ||| (own_pt (own_b v (4 : Int32).toInt.toNat) (4 : Int32))) ||| (0 : Int64)) ||| (0 : Int64)) ||| (0 : Int64)) = (v &&& (((1 : Int64) <<< ((40 : Int32) &&& 0x3f).toInt64) - (1 : Int64))) := by
  have h := own_sum5 v
  rw [show (((1 : Int64) <<< ((40 : Int32) &&& 0x3f).toInt64) - (1 : Int64)) = (1099511627775 : Int64) from by decide +kernel]
  rw [Int64.or_zero, Int64.or_zero, Int64.or_zero]
  exact h
theorem own_fin6 (v : Int64) : ((((((((own_pt (own_b v (0 : Int32).toInt.toNat) (0 : Int32)) ||| (own_pt (own_b v (1 : Int32).toInt.toNat) (1 : Int32))) ||| (own_pt (own_b v (2 : Int32).toInt.toNat) (2 : Int32))) ||| (own_pt (own_b v (3 : Int32).toInt.toNat) (3 : Int32))) ||| (own_pt (own_b v (4 : Int32).toInt.toNat) (4 : Int32))) ||| (own_pt (own_b v (5 : Int32).toInt.toNat) (5 : Int32))) ||| (0 : Int64)) ||| (0 : Int64)) = (v &&& (((1 : Int64) <<< ((48 : Int32) &&& 0x3f).toInt64) - (1 : Int64))) := by
  have h := own_sum6 v
  rw [show (((1 : Int64) <<< ((48 : Int32) &&& 0x3f).toInt64) - (1 : Int64)) = (281474976710655 : Int64) from by decide +kernel]
  rw [Int64.or_zero, Int64.or_zero]
  exact h
theorem own_fin7 (v : Int64) : ((((((((own_pt (own_b v (0 : Int32).toInt.toNat) (0 : Int32)) ||| (own_pt (own_b v (1 : Int32).toInt.toNat) (1 : Int32))) ||| (own_pt (own_b v (2 : Int32).toInt.toNat) (2 : Int32))) ||| (own_pt (own_b v (3 : Int32).toInt.toNat) (3 : Int32))) ||| (own_pt (own_b v (4 : Int32).toInt.toNat) (4 : Int32))) ||| (own_pt (own_b v (5 : Int32).toInt.toNat) (5 : Int32))) ||| (own_pt (own_b v (6 : Int32).toInt.toNat) (6 : Int32))) ||| (0 : Int64)) = (v &&& (((1 : Int64) <<< ((56 : Int32) &&& 0x3f).toInt64) - (1 : Int64))) := by
  have h := own_sum7 v
  rw [show (((1 : Int64) <<< ((56 : Int32) &&& 0x3f).toInt64) - (1 : Int64)) = (72057594037927935 : Int64) from by decide +kernel]
  rw [Int64.or_zero]
  exact h
theorem own_fin8 (v : Int64) : ((((((((own_pt (own_b v (0 : Int32).toInt.toNat) (0 : Int32)) ||| (own_pt (own_b v (1 : Int32).toInt.toNat) (1 : Int32))) ||| (own_pt (own_b v (2 : Int32).toInt.toNat) (2 : Int32))) ||| (own_pt (own_b v (3 : Int32).toInt.toNat) (3 : Int32))) ||| (own_pt (own_b v (4 : Int32).toInt.toNat) (4 : Int32))) ||| (own_pt (own_b v (5 : Int32).toInt.toNat) (5 : Int32))) ||| (own_pt (own_b v (6 : Int32).toInt.toNat) (6 : Int32))) ||| (own_pt (own_b v (7 : Int32).toInt.toNat) (7 : Int32))) = (v &&& (-1 : Int64)) := by
  have h := own_sum8 v
  have e : v &&& (-1 : Int64) = v := by
    apply Int64.toBitVec_inj.mp
    show v.toBitVec &&& (-1#64) = v.toBitVec
    rw [show (-1#64) = BitVec.allOnes 64 from by decide]
    exact BitVec.and_allOnes
  rw [e]
  exact h
theorem own_pd_0 : parseMethodDescriptor "(JI)[B" = some ⟨[.long, .int], some (.array .byte)⟩ := by decide +kernel
theorem own_pd_1 : parseMethodDescriptor "([BI)J" = some ⟨[(.array .byte), .int], some .long⟩ := by decide +kernel
theorem own_pn_0 : plainName "com/example/kern_tablet/kerntablet/schema/IntegerHandlerLittleEndianPinLaw" = true := by first | (simp [plainName, overriddenIn]; done) | decide +kernel
theorem own_ef_0 (m : MethodId) (q1 : Int64) (p2 : Int32) : entryFrame m #[(.long q1), (.int p2)] maxLocals = mkF m 0 #[.val (.long q1), .second, .val (.int p2), .unset, .unset, .unset, .unset, .unset, .unset] [] := by first | (simp [entryFrame, mkF, argsToLocals, Value.category, maxLocals]; done) | rfl
def own_Q0 (Z : State) (q1 : Int64) (p2 : Int32) (h0 : Heap) (n0 : Nat) (v : Option Value) (h : Heap) (L : List Loc) : Prop := v = some (.int 1) ∧ Fr n0 L
set_option maxRecDepth 65536 in
set_option maxHeartbeats 40000000 in
theorem rm0 (l : Launch) (Z : State) (a0 : Array Value) (hw : ∀ d ∈ tables_1, d.before a0 Z = true) (ws : List Jvm.Cond) (q1 : Int64) (p2 : Int32) (h0 : Heap) (n0 : Nat) (Z0 : n0 ≤ h0.size) :
    MetFree l x (head1 (Jvm.Cond.code x code maxLocals ret :: ws) room_1) (fun a U => a = #[(.long q1), (.int p2)] ∧ Z.Warmed39 U.vm ∧ U.heap = h0) (fun _ _ _ _ _ => True) (fun _ U o U' => ∃ v L, o = .returned v ∧ own_Q0 Z q1 p2 h0 n0 v U'.heap L ∧ FrameEnd U o U' L 16 128) := by
  refine MetFree.of_bodySF (plainFor_of_name own_pn_0) hisR ?_
  intro p e s m args below meth c s₁ Bd hml0 hP hK
  obtain ⟨rfl, hZ, hh⟩ := hP
  have hx := Bd.exec
  have hby := Bd.bytes
  have hlk := BodyLoose.notSynchronized Bd
  have hml : c.maxLocals = 9 := hml0
  have hown : s.vm.findClass "com/example/kern_tablet/kerntablet/schema/IntegerHandlerLittleEndianPinLaw" = some m.cls := (findClass_of_methodNamed Bd.named : s.vm.findClass x.cls = some m.cls)
  have hnm := (name_of_methodNamed Bd.named Bd.method).1
  have X0 : Stand p l e room_1 s m #[(.long q1), (.int p2)] below meth c s₁ [] 0 0 := Stand.of_body Bd
  have e0 : s₁.heap = h0 := by rw [← hh, Bd.state]; rfl
  have Nf := Fr.nil n0
  have Zs := Z0
  show own_Fin p e below s (own_Q0 Z q1 p2 h0 n0) 16 128 s₁ (entryFrame m #[(.long q1), (.int p2)] maxLocals)
  rw [own_ef_0 m q1 p2]
  show own_Fin _ _ _ _ _ _ _ _ (mkF m 0 #[.val (.long q1), .second, .val (.int p2), .unset, .unset, .unset, .unset, .unset, .unset] [])
  refine own_step (fun t k => XS.iloadN X0.here hx rfl (hb hby at_0) rfl k) ?_
  show own_Fin _ _ _ _ _ _ _ _ (mkF m 1 #[.val (.long q1), .second, .val (.int p2), .unset, .unset, .unset, .unset, .unset, .unset] [(.int p2)])
  refine own_step (fun t k => XS.bipush X0.here hx rfl (hb hby at_1) k) ?_
  show own_Fin _ _ _ _ _ _ _ _ (mkF m 3 #[.val (.long q1), .second, .val (.int p2), .unset, .unset, .unset, .unset, .unset, .unset] [(.int (7 : Int32)), (.int p2)])
  refine own_step (fun t k => XS.iand X0.here hx rfl (hb hby at_3) rfl k) ?_
  show own_Fin _ _ _ _ _ _ _ _ (mkF m 4 #[.val (.long q1), .second, .val (.int p2), .unset, .unset, .unset, .unset, .unset, .unset] [(.int (p2 &&& (7 : Int32)))])
  refine own_step (fun t k => XS.iconst X0.here hx rfl (hb hby at_4) k) ?_
  show own_Fin _ _ _ _ _ _ _ _ (mkF m 5 #[.val (.long q1), .second, .val (.int p2), .unset, .unset, .unset, .unset, .unset, .unset] [(.int (1 : Int32)), (.int (p2 &&& (7 : Int32)))])
  refine own_step (fun t k => XS.iadd X0.here hx rfl (hb hby at_5) rfl k) ?_
  show own_Fin _ _ _ _ _ _ _ _ (mkF m 6 #[.val (.long q1), .second, .val (.int p2), .unset, .unset, .unset, .unset, .unset, .unset] [(.int ((p2 &&& (7 : Int32)) + (1 : Int32)))])
  generalize hwd : ((p2 &&& (7 : Int32)) + (1 : Int32)) = wd
  refine own_step (fun t k => XS.istoreN X0.here hx rfl (hb hby at_6) rfl (l' := #[.val (.long q1), .second, .val (.int p2), .val (.int wd), .unset, .unset, .unset, .unset, .unset]) rfl k) ?_
  show own_Fin _ _ _ _ _ _ _ _ (mkF m 7 #[.val (.long q1), .second, .val (.int p2), .val (.int wd), .unset, .unset, .unset, .unset, .unset] [])
  rcases own_cases p2 wd hwd with rfl | rfl | rfl | rfl | rfl | rfl | rfl | rfl
  · skip
    show own_Fin _ _ _ _ _ _ _ _ (mkF m 7 #[.val (.long q1), .second, .val (.int p2), .val (.int (1 : Int32)), .unset, .unset, .unset, .unset, .unset] [])
    refine own_step (fun t k => XS.lloadN X0.here hx rfl (hb hby at_7) rfl k) ?_
    show own_Fin _ _ _ _ _ _ _ _ (mkF m 8 #[.val (.long q1), .second, .val (.int p2), .val (.int (1 : Int32)), .unset, .unset, .unset, .unset, .unset] [(.long q1)])
    refine own_step (fun t k => XS.iloadN X0.here hx rfl (hb hby at_8) rfl k) ?_
    show own_Fin _ _ _ _ _ _ _ _ (mkF m 9 #[.val (.long q1), .second, .val (.int p2), .val (.int (1 : Int32)), .unset, .unset, .unset, .unset, .unset] [(.int (1 : Int32)), (.long q1)])
    obtain ⟨_, _, ⟨T1, L1, k1, n1⟩, -, X1, ⟨Lc1, hQ1, l1, y1, z1⟩, st1⟩ := Jvm.LawKit.callS X0 hx (y := (⟨"com/example/kern_tablet/kerntablet/schema/IntegerHandler", "littleEndian", "(JI)[B"⟩ : MethodName)) hown (mvT hZ (hw _ (List.mem_of_getElem? (i := 0) rfl))) (mvT hZ (hw _ (List.mem_of_getElem? (i := 1) rfl))) (mvT hZ (hw _ (List.mem_of_getElem? (i := 2) rfl))) (mvT hZ (hw _ (List.mem_of_getElem? (i := 3) rfl))) (by decide) (backOf (W := 0) (rm11 l Z a0 hw [] q1 h0 n0 Zs) hZ (hw _ (List.mem_of_getElem? (i := 3) rfl)) (hw _ (List.mem_of_getElem? (i := 2) rfl)) (by decide) (by decide)) (g := (mkF m 9 #[.val (.long q1), .second, .val (.int p2), .val (.int (1 : Int32)), .unset, .unset, .unset, .unset, .unset] [(.int (1 : Int32)), (.long q1)])) rfl (by rw [hml]; rfl) (argsL := [(.long q1), (.int (1 : Int32))]) (rest := []) (lenOf own_pd_0 rfl) rfl (by show 2 * 0 + _ ≤ _; exact Nat.le_of_eq rfl) (hb hby at_9) (fun _ _ => ⟨rfl, e0, (by decide : 0 + 1 ≤ _), (by decide : 0 + 1 ≤ _)⟩)
    dsimp only [Pt.U, Pt.locs, Pt.cells, Pt.slots] at X1 l1 y1 z1 st1 hQ1
    rw [l1, y1, z1] at X1
    obtain ⟨bq1, rfl, Nq1, Kq1, gq1, P1⟩ := hQ1
    replace Nf := Fr.app Nf Nq1
    replace Zs := Nat.le_trans Zs Kq1.1
    have V_bq1 := P1
    refine own_step st1 ?_
    show own_Fin _ _ _ _ _ _ _ _ (mkF m 12 #[.val (.long q1), .second, .val (.int p2), .val (.int (1 : Int32)), .unset, .unset, .unset, .unset, .unset] [(.ref bq1)])
    refine own_step (fun t k => XS.astore X1.here hx rfl (hb hby at_12) rfl rfl (l' := #[.val (.long q1), .second, .val (.int p2), .val (.int (1 : Int32)), .val (.ref bq1), .unset, .unset, .unset, .unset]) rfl k) ?_
    show own_Fin _ _ _ _ _ _ _ _ (mkF m 14 #[.val (.long q1), .second, .val (.int p2), .val (.int (1 : Int32)), .val (.ref bq1), .unset, .unset, .unset, .unset] [])
    refine own_step (fun t k => XS.aload X1.here hx rfl (hb hby at_14) rfl rfl k) ?_
    show own_Fin _ _ _ _ _ _ _ _ (mkF m 16 #[.val (.long q1), .second, .val (.int p2), .val (.int (1 : Int32)), .val (.ref bq1), .unset, .unset, .unset, .unset] [(.ref bq1)])
    refine own_step (fun t k => XS.ifnullNo X1.here hx rfl (hb hby at_16) rfl k) ?_
    show own_Fin _ _ _ _ _ _ _ _ (mkF m 19 #[.val (.long q1), .second, .val (.int p2), .val (.int (1 : Int32)), .val (.ref bq1), .unset, .unset, .unset, .unset] [])
    refine own_step (fun t k => XS.aload X1.here hx rfl (hb hby at_19) rfl rfl k) ?_
    show own_Fin _ _ _ _ _ _ _ _ (mkF m 21 #[.val (.long q1), .second, .val (.int p2), .val (.int (1 : Int32)), .val (.ref bq1), .unset, .unset, .unset, .unset] [(.ref bq1)])
    refine own_arrlen X1 hx hZ rfl V_bq1 (z := (1 : Int32)) rfl (hb hby at_21) rfl ?_
    show own_Fin _ _ _ _ _ _ _ _ (mkF m 22 #[.val (.long q1), .second, .val (.int p2), .val (.int (1 : Int32)), .val (.ref bq1), .unset, .unset, .unset, .unset] [(.int (1 : Int32))])
    refine own_step (fun t k => XS.iloadN X1.here hx rfl (hb hby at_22) rfl k) ?_
    show own_Fin _ _ _ _ _ _ _ _ (mkF m 23 #[.val (.long q1), .second, .val (.int p2), .val (.int (1 : Int32)), .val (.ref bq1), .unset, .unset, .unset, .unset] [(.int (1 : Int32)), (.int (1 : Int32))])
    refine own_step (fun t k => XS.icmpYes X1.here hx rfl (pc0 := 23) (pc' := 28) rfl (hb hby at_23) rfl (by decide) (by decide) (by decide) k) ?_
    show own_Fin _ _ _ _ _ _ _ _ (mkF m 28 #[.val (.long q1), .second, .val (.int p2), .val (.int (1 : Int32)), .val (.ref bq1), .unset, .unset, .unset, .unset] [])
    refine own_step (fun t k => XS.aload X1.here hx rfl (hb hby at_28) rfl rfl k) ?_
    show own_Fin _ _ _ _ _ _ _ _ (mkF m 30 #[.val (.long q1), .second, .val (.int p2), .val (.int (1 : Int32)), .val (.ref bq1), .unset, .unset, .unset, .unset] [(.ref bq1)])
    refine own_step (fun t k => XS.iconst X1.here hx rfl (hb hby at_30) k) ?_
    show own_Fin _ _ _ _ _ _ _ _ (mkF m 31 #[.val (.long q1), .second, .val (.int p2), .val (.int (1 : Int32)), .val (.ref bq1), .unset, .unset, .unset, .unset] [(.int (0 : Int32)), (.ref bq1)])
    obtain ⟨_, _, ⟨T2, L2, k2, n2⟩, -, X2, ⟨Lc2, hQ2, l2, y2, z2⟩, st2⟩ := Jvm.LawKit.callS X1 hx (y := (⟨"com/example/kern_tablet/kerntablet/schema/IntegerHandlerLittleEndianPinLaw", "part", "([BI)J"⟩ : MethodName)) hown (mvT hZ (hw _ (List.mem_of_getElem? (i := 5) rfl))) (mvT hZ (hw _ (List.mem_of_getElem? (i := 6) rfl))) (mvT hZ (hw _ (List.mem_of_getElem? (i := 7) rfl))) (mvT hZ (hw _ (List.mem_of_getElem? (i := 8) rfl))) (by decide) (backOf (W := 0) (rm20 l Z a0 hw [] bq1 (0 : Int32) _ _ (1 : Int32) T1.heap n0 Zs V_bq1 rfl (by decide) (by decide)) hZ (hw _ (List.mem_of_getElem? (i := 8) rfl)) (hw _ (List.mem_of_getElem? (i := 7) rfl)) (by decide) (by decide)) (g := (mkF m 31 #[.val (.long q1), .second, .val (.int p2), .val (.int (1 : Int32)), .val (.ref bq1), .unset, .unset, .unset, .unset] [(.int (0 : Int32)), (.ref bq1)])) rfl (by rw [hml]; rfl) (argsL := [(.ref bq1), (.int (0 : Int32))]) (rest := []) (lenOf own_pd_1 rfl) rfl (by show 2 * 0 + _ ≤ _; exact Nat.le_of_eq rfl) (hb hby at_31) (fun _ _ => ⟨rfl, rfl, (by decide : 1 + 0 ≤ _), (by decide : 1 + 0 ≤ _)⟩)
    dsimp only [Pt.U, Pt.locs, Pt.cells, Pt.slots] at X2 l2 y2 z2 st2 hQ2
    rw [l2, y2, z2] at X2
    obtain ⟨rfl, Nq2, hh2⟩ := hQ2
    replace Nf := Fr.app Nf Nq2
    refine own_step st2 ?_
    show own_Fin _ _ _ _ _ _ _ _ (mkF m 34 #[.val (.long q1), .second, .val (.int p2), .val (.int (1 : Int32)), .val (.ref bq1), .unset, .unset, .unset, .unset] [(.long (own_pt ((own_b q1) (0 : Int32).toInt.toNat) (0 : Int32)))])
    refine own_step (fun t k => XS.aload X2.here hx rfl (hb hby at_34) rfl rfl k) ?_
    show own_Fin _ _ _ _ _ _ _ _ (mkF m 36 #[.val (.long q1), .second, .val (.int p2), .val (.int (1 : Int32)), .val (.ref bq1), .unset, .unset, .unset, .unset] [(.ref bq1), (.long (own_pt ((own_b q1) (0 : Int32).toInt.toNat) (0 : Int32)))])
    refine own_step (fun t k => XS.iconst X2.here hx rfl (hb hby at_36) k) ?_
    show own_Fin _ _ _ _ _ _ _ _ (mkF m 37 #[.val (.long q1), .second, .val (.int p2), .val (.int (1 : Int32)), .val (.ref bq1), .unset, .unset, .unset, .unset] [(.int (1 : Int32)), (.ref bq1), (.long (own_pt ((own_b q1) (0 : Int32).toInt.toNat) (0 : Int32)))])
    obtain ⟨_, _, ⟨T3, L3, k3, n3⟩, -, X3, ⟨Lc3, hQ3, l3, y3, z3⟩, st3⟩ := Jvm.LawKit.callS X2 hx (y := (⟨"com/example/kern_tablet/kerntablet/schema/IntegerHandlerLittleEndianPinLaw", "part", "([BI)J"⟩ : MethodName)) hown (mvT hZ (hw _ (List.mem_of_getElem? (i := 5) rfl))) (mvT hZ (hw _ (List.mem_of_getElem? (i := 6) rfl))) (mvT hZ (hw _ (List.mem_of_getElem? (i := 7) rfl))) (mvT hZ (hw _ (List.mem_of_getElem? (i := 8) rfl))) (by decide) (backOf (W := 2) (rm21 l Z a0 hw [] bq1 (1 : Int32) _ _ (1 : Int32) T1.heap n0 Zs V_bq1 rfl (by decide) (by decide)) hZ (hw _ (List.mem_of_getElem? (i := 8) rfl)) (hw _ (List.mem_of_getElem? (i := 7) rfl)) (by decide) (by decide)) (g := (mkF m 37 #[.val (.long q1), .second, .val (.int p2), .val (.int (1 : Int32)), .val (.ref bq1), .unset, .unset, .unset, .unset] [(.int (1 : Int32)), (.ref bq1), (.long (own_pt ((own_b q1) (0 : Int32).toInt.toNat) (0 : Int32)))])) rfl (by rw [hml]; rfl) (argsL := [(.ref bq1), (.int (1 : Int32))]) (rest := [(.long (own_pt ((own_b q1) (0 : Int32).toInt.toNat) (0 : Int32)))]) (lenOf own_pd_1 rfl) rfl (by show 2 * 0 + _ ≤ _; exact Nat.le_of_eq rfl) (hb hby at_37) (fun _ _ => ⟨rfl, hh2, (by decide : 1 + 0 ≤ _), (by decide : 1 + 0 ≤ _)⟩)
    dsimp only [Pt.U, Pt.locs, Pt.cells, Pt.slots] at X3 l3 y3 z3 st3 hQ3
    rw [l3, y3, z3] at X3
    obtain ⟨rfl, Nq3, hh3⟩ := hQ3
    replace Nf := Fr.app Nf Nq3
    refine own_step st3 ?_
    show own_Fin _ _ _ _ _ _ _ _ (mkF m 40 #[.val (.long q1), .second, .val (.int p2), .val (.int (1 : Int32)), .val (.ref bq1), .unset, .unset, .unset, .unset] [(.long (0 : Int64)), (.long (own_pt ((own_b q1) (0 : Int32).toInt.toNat) (0 : Int32)))])
    refine own_step (fun t k => XS.lor X3.here hx rfl (hb hby at_40) rfl k) ?_
    show own_Fin _ _ _ _ _ _ _ _ (mkF m 41 #[.val (.long q1), .second, .val (.int p2), .val (.int (1 : Int32)), .val (.ref bq1), .unset, .unset, .unset, .unset] [(.long ((own_pt ((own_b q1) (0 : Int32).toInt.toNat) (0 : Int32)) ||| (0 : Int64)))])
    refine own_step (fun t k => XS.aload X3.here hx rfl (hb hby at_41) rfl rfl k) ?_
    show own_Fin _ _ _ _ _ _ _ _ (mkF m 43 #[.val (.long q1), .second, .val (.int p2), .val (.int (1 : Int32)), .val (.ref bq1), .unset, .unset, .unset, .unset] [(.ref bq1), (.long ((own_pt ((own_b q1) (0 : Int32).toInt.toNat) (0 : Int32)) ||| (0 : Int64)))])
    refine own_step (fun t k => XS.iconst X3.here hx rfl (hb hby at_43) k) ?_
    show own_Fin _ _ _ _ _ _ _ _ (mkF m 44 #[.val (.long q1), .second, .val (.int p2), .val (.int (1 : Int32)), .val (.ref bq1), .unset, .unset, .unset, .unset] [(.int (2 : Int32)), (.ref bq1), (.long ((own_pt ((own_b q1) (0 : Int32).toInt.toNat) (0 : Int32)) ||| (0 : Int64)))])
    obtain ⟨_, _, ⟨T4, L4, k4, n4⟩, -, X4, ⟨Lc4, hQ4, l4, y4, z4⟩, st4⟩ := Jvm.LawKit.callS X3 hx (y := (⟨"com/example/kern_tablet/kerntablet/schema/IntegerHandlerLittleEndianPinLaw", "part", "([BI)J"⟩ : MethodName)) hown (mvT hZ (hw _ (List.mem_of_getElem? (i := 5) rfl))) (mvT hZ (hw _ (List.mem_of_getElem? (i := 6) rfl))) (mvT hZ (hw _ (List.mem_of_getElem? (i := 7) rfl))) (mvT hZ (hw _ (List.mem_of_getElem? (i := 8) rfl))) (by decide) (backOf (W := 2) (rm21 l Z a0 hw [] bq1 (2 : Int32) _ _ (1 : Int32) T1.heap n0 Zs V_bq1 rfl (by decide) (by decide)) hZ (hw _ (List.mem_of_getElem? (i := 8) rfl)) (hw _ (List.mem_of_getElem? (i := 7) rfl)) (by decide) (by decide)) (g := (mkF m 44 #[.val (.long q1), .second, .val (.int p2), .val (.int (1 : Int32)), .val (.ref bq1), .unset, .unset, .unset, .unset] [(.int (2 : Int32)), (.ref bq1), (.long ((own_pt ((own_b q1) (0 : Int32).toInt.toNat) (0 : Int32)) ||| (0 : Int64)))])) rfl (by rw [hml]; rfl) (argsL := [(.ref bq1), (.int (2 : Int32))]) (rest := [(.long ((own_pt ((own_b q1) (0 : Int32).toInt.toNat) (0 : Int32)) ||| (0 : Int64)))]) (lenOf own_pd_1 rfl) rfl (by show 2 * 0 + _ ≤ _; exact Nat.le_of_eq rfl) (hb hby at_44) (fun _ _ => ⟨rfl, hh3, (by decide : 1 + 0 ≤ _), (by decide : 1 + 0 ≤ _)⟩)
    dsimp only [Pt.U, Pt.locs, Pt.cells, Pt.slots] at X4 l4 y4 z4 st4 hQ4
    rw [l4, y4, z4] at X4
    obtain ⟨rfl, Nq4, hh4⟩ := hQ4
    replace Nf := Fr.app Nf Nq4
    refine own_step st4 ?_
    show own_Fin _ _ _ _ _ _ _ _ (mkF m 47 #[.val (.long q1), .second, .val (.int p2), .val (.int (1 : Int32)), .val (.ref bq1), .unset, .unset, .unset, .unset] [(.long (0 : Int64)), (.long ((own_pt ((own_b q1) (0 : Int32).toInt.toNat) (0 : Int32)) ||| (0 : Int64)))])
    refine own_step (fun t k => XS.lor X4.here hx rfl (hb hby at_47) rfl k) ?_
    show own_Fin _ _ _ _ _ _ _ _ (mkF m 48 #[.val (.long q1), .second, .val (.int p2), .val (.int (1 : Int32)), .val (.ref bq1), .unset, .unset, .unset, .unset] [(.long (((own_pt ((own_b q1) (0 : Int32).toInt.toNat) (0 : Int32)) ||| (0 : Int64)) ||| (0 : Int64)))])
    refine own_step (fun t k => XS.aload X4.here hx rfl (hb hby at_48) rfl rfl k) ?_
    show own_Fin _ _ _ _ _ _ _ _ (mkF m 50 #[.val (.long q1), .second, .val (.int p2), .val (.int (1 : Int32)), .val (.ref bq1), .unset, .unset, .unset, .unset] [(.ref bq1), (.long (((own_pt ((own_b q1) (0 : Int32).toInt.toNat) (0 : Int32)) ||| (0 : Int64)) ||| (0 : Int64)))])
    refine own_step (fun t k => XS.iconst X4.here hx rfl (hb hby at_50) k) ?_
    show own_Fin _ _ _ _ _ _ _ _ (mkF m 51 #[.val (.long q1), .second, .val (.int p2), .val (.int (1 : Int32)), .val (.ref bq1), .unset, .unset, .unset, .unset] [(.int (3 : Int32)), (.ref bq1), (.long (((own_pt ((own_b q1) (0 : Int32).toInt.toNat) (0 : Int32)) ||| (0 : Int64)) ||| (0 : Int64)))])
    obtain ⟨_, _, ⟨T5, L5, k5, n5⟩, -, X5, ⟨Lc5, hQ5, l5, y5, z5⟩, st5⟩ := Jvm.LawKit.callS X4 hx (y := (⟨"com/example/kern_tablet/kerntablet/schema/IntegerHandlerLittleEndianPinLaw", "part", "([BI)J"⟩ : MethodName)) hown (mvT hZ (hw _ (List.mem_of_getElem? (i := 5) rfl))) (mvT hZ (hw _ (List.mem_of_getElem? (i := 6) rfl))) (mvT hZ (hw _ (List.mem_of_getElem? (i := 7) rfl))) (mvT hZ (hw _ (List.mem_of_getElem? (i := 8) rfl))) (by decide) (backOf (W := 2) (rm21 l Z a0 hw [] bq1 (3 : Int32) _ _ (1 : Int32) T1.heap n0 Zs V_bq1 rfl (by decide) (by decide)) hZ (hw _ (List.mem_of_getElem? (i := 8) rfl)) (hw _ (List.mem_of_getElem? (i := 7) rfl)) (by decide) (by decide)) (g := (mkF m 51 #[.val (.long q1), .second, .val (.int p2), .val (.int (1 : Int32)), .val (.ref bq1), .unset, .unset, .unset, .unset] [(.int (3 : Int32)), (.ref bq1), (.long (((own_pt ((own_b q1) (0 : Int32).toInt.toNat) (0 : Int32)) ||| (0 : Int64)) ||| (0 : Int64)))])) rfl (by rw [hml]; rfl) (argsL := [(.ref bq1), (.int (3 : Int32))]) (rest := [(.long (((own_pt ((own_b q1) (0 : Int32).toInt.toNat) (0 : Int32)) ||| (0 : Int64)) ||| (0 : Int64)))]) (lenOf own_pd_1 rfl) rfl (by show 2 * 0 + _ ≤ _; exact Nat.le_of_eq rfl) (hb hby at_51) (fun _ _ => ⟨rfl, hh4, (by decide : 1 + 0 ≤ _), (by decide : 1 + 0 ≤ _)⟩)
    dsimp only [Pt.U, Pt.locs, Pt.cells, Pt.slots] at X5 l5 y5 z5 st5 hQ5
    rw [l5, y5, z5] at X5
    obtain ⟨rfl, Nq5, hh5⟩ := hQ5
    replace Nf := Fr.app Nf Nq5
    refine own_step st5 ?_
    show own_Fin _ _ _ _ _ _ _ _ (mkF m 54 #[.val (.long q1), .second, .val (.int p2), .val (.int (1 : Int32)), .val (.ref bq1), .unset, .unset, .unset, .unset] [(.long (0 : Int64)), (.long (((own_pt ((own_b q1) (0 : Int32).toInt.toNat) (0 : Int32)) ||| (0 : Int64)) ||| (0 : Int64)))])
    refine own_step (fun t k => XS.lor X5.here hx rfl (hb hby at_54) rfl k) ?_
    show own_Fin _ _ _ _ _ _ _ _ (mkF m 55 #[.val (.long q1), .second, .val (.int p2), .val (.int (1 : Int32)), .val (.ref bq1), .unset, .unset, .unset, .unset] [(.long ((((own_pt ((own_b q1) (0 : Int32).toInt.toNat) (0 : Int32)) ||| (0 : Int64)) ||| (0 : Int64)) ||| (0 : Int64)))])
    refine own_step (fun t k => XS.aload X5.here hx rfl (hb hby at_55) rfl rfl k) ?_
    show own_Fin _ _ _ _ _ _ _ _ (mkF m 57 #[.val (.long q1), .second, .val (.int p2), .val (.int (1 : Int32)), .val (.ref bq1), .unset, .unset, .unset, .unset] [(.ref bq1), (.long ((((own_pt ((own_b q1) (0 : Int32).toInt.toNat) (0 : Int32)) ||| (0 : Int64)) ||| (0 : Int64)) ||| (0 : Int64)))])
    refine own_step (fun t k => XS.iconst X5.here hx rfl (hb hby at_57) k) ?_
    show own_Fin _ _ _ _ _ _ _ _ (mkF m 58 #[.val (.long q1), .second, .val (.int p2), .val (.int (1 : Int32)), .val (.ref bq1), .unset, .unset, .unset, .unset] [(.int (4 : Int32)), (.ref bq1), (.long ((((own_pt ((own_b q1) (0 : Int32).toInt.toNat) (0 : Int32)) ||| (0 : Int64)) ||| (0 : Int64)) ||| (0 : Int64)))])
    obtain ⟨_, _, ⟨T6, L6, k6, n6⟩, -, X6, ⟨Lc6, hQ6, l6, y6, z6⟩, st6⟩ := Jvm.LawKit.callS X5 hx (y := (⟨"com/example/kern_tablet/kerntablet/schema/IntegerHandlerLittleEndianPinLaw", "part", "([BI)J"⟩ : MethodName)) hown (mvT hZ (hw _ (List.mem_of_getElem? (i := 5) rfl))) (mvT hZ (hw _ (List.mem_of_getElem? (i := 6) rfl))) (mvT hZ (hw _ (List.mem_of_getElem? (i := 7) rfl))) (mvT hZ (hw _ (List.mem_of_getElem? (i := 8) rfl))) (by decide) (backOf (W := 2) (rm21 l Z a0 hw [] bq1 (4 : Int32) _ _ (1 : Int32) T1.heap n0 Zs V_bq1 rfl (by decide) (by decide)) hZ (hw _ (List.mem_of_getElem? (i := 8) rfl)) (hw _ (List.mem_of_getElem? (i := 7) rfl)) (by decide) (by decide)) (g := (mkF m 58 #[.val (.long q1), .second, .val (.int p2), .val (.int (1 : Int32)), .val (.ref bq1), .unset, .unset, .unset, .unset] [(.int (4 : Int32)), (.ref bq1), (.long ((((own_pt ((own_b q1) (0 : Int32).toInt.toNat) (0 : Int32)) ||| (0 : Int64)) ||| (0 : Int64)) ||| (0 : Int64)))])) rfl (by rw [hml]; rfl) (argsL := [(.ref bq1), (.int (4 : Int32))]) (rest := [(.long ((((own_pt ((own_b q1) (0 : Int32).toInt.toNat) (0 : Int32)) ||| (0 : Int64)) ||| (0 : Int64)) ||| (0 : Int64)))]) (lenOf own_pd_1 rfl) rfl (by show 2 * 0 + _ ≤ _; exact Nat.le_of_eq rfl) (hb hby at_58) (fun _ _ => ⟨rfl, hh5, (by decide : 1 + 0 ≤ _), (by decide : 1 + 0 ≤ _)⟩)
    dsimp only [Pt.U, Pt.locs, Pt.cells, Pt.slots] at X6 l6 y6 z6 st6 hQ6
    rw [l6, y6, z6] at X6
    obtain ⟨rfl, Nq6, hh6⟩ := hQ6
    replace Nf := Fr.app Nf Nq6
    refine own_step st6 ?_
    show own_Fin _ _ _ _ _ _ _ _ (mkF m 61 #[.val (.long q1), .second, .val (.int p2), .val (.int (1 : Int32)), .val (.ref bq1), .unset, .unset, .unset, .unset] [(.long (0 : Int64)), (.long ((((own_pt ((own_b q1) (0 : Int32).toInt.toNat) (0 : Int32)) ||| (0 : Int64)) ||| (0 : Int64)) ||| (0 : Int64)))])
    refine own_step (fun t k => XS.lor X6.here hx rfl (hb hby at_61) rfl k) ?_
    show own_Fin _ _ _ _ _ _ _ _ (mkF m 62 #[.val (.long q1), .second, .val (.int p2), .val (.int (1 : Int32)), .val (.ref bq1), .unset, .unset, .unset, .unset] [(.long (((((own_pt ((own_b q1) (0 : Int32).toInt.toNat) (0 : Int32)) ||| (0 : Int64)) ||| (0 : Int64)) ||| (0 : Int64)) ||| (0 : Int64)))])
    refine own_step (fun t k => XS.aload X6.here hx rfl (hb hby at_62) rfl rfl k) ?_
    show own_Fin _ _ _ _ _ _ _ _ (mkF m 64 #[.val (.long q1), .second, .val (.int p2), .val (.int (1 : Int32)), .val (.ref bq1), .unset, .unset, .unset, .unset] [(.ref bq1), (.long (((((own_pt ((own_b q1) (0 : Int32).toInt.toNat) (0 : Int32)) ||| (0 : Int64)) ||| (0 : Int64)) ||| (0 : Int64)) ||| (0 : Int64)))])
    refine own_step (fun t k => XS.iconst X6.here hx rfl (hb hby at_64) k) ?_
    show own_Fin _ _ _ _ _ _ _ _ (mkF m 65 #[.val (.long q1), .second, .val (.int p2), .val (.int (1 : Int32)), .val (.ref bq1), .unset, .unset, .unset, .unset] [(.int (5 : Int32)), (.ref bq1), (.long (((((own_pt ((own_b q1) (0 : Int32).toInt.toNat) (0 : Int32)) ||| (0 : Int64)) ||| (0 : Int64)) ||| (0 : Int64)) ||| (0 : Int64)))])
    obtain ⟨_, _, ⟨T7, L7, k7, n7⟩, -, X7, ⟨Lc7, hQ7, l7, y7, z7⟩, st7⟩ := Jvm.LawKit.callS X6 hx (y := (⟨"com/example/kern_tablet/kerntablet/schema/IntegerHandlerLittleEndianPinLaw", "part", "([BI)J"⟩ : MethodName)) hown (mvT hZ (hw _ (List.mem_of_getElem? (i := 5) rfl))) (mvT hZ (hw _ (List.mem_of_getElem? (i := 6) rfl))) (mvT hZ (hw _ (List.mem_of_getElem? (i := 7) rfl))) (mvT hZ (hw _ (List.mem_of_getElem? (i := 8) rfl))) (by decide) (backOf (W := 2) (rm21 l Z a0 hw [] bq1 (5 : Int32) _ _ (1 : Int32) T1.heap n0 Zs V_bq1 rfl (by decide) (by decide)) hZ (hw _ (List.mem_of_getElem? (i := 8) rfl)) (hw _ (List.mem_of_getElem? (i := 7) rfl)) (by decide) (by decide)) (g := (mkF m 65 #[.val (.long q1), .second, .val (.int p2), .val (.int (1 : Int32)), .val (.ref bq1), .unset, .unset, .unset, .unset] [(.int (5 : Int32)), (.ref bq1), (.long (((((own_pt ((own_b q1) (0 : Int32).toInt.toNat) (0 : Int32)) ||| (0 : Int64)) ||| (0 : Int64)) ||| (0 : Int64)) ||| (0 : Int64)))])) rfl (by rw [hml]; rfl) (argsL := [(.ref bq1), (.int (5 : Int32))]) (rest := [(.long (((((own_pt ((own_b q1) (0 : Int32).toInt.toNat) (0 : Int32)) ||| (0 : Int64)) ||| (0 : Int64)) ||| (0 : Int64)) ||| (0 : Int64)))]) (lenOf own_pd_1 rfl) rfl (by show 2 * 0 + _ ≤ _; exact Nat.le_of_eq rfl) (hb hby at_65) (fun _ _ => ⟨rfl, hh6, (by decide : 1 + 0 ≤ _), (by decide : 1 + 0 ≤ _)⟩)
    dsimp only [Pt.U, Pt.locs, Pt.cells, Pt.slots] at X7 l7 y7 z7 st7 hQ7
    rw [l7, y7, z7] at X7
    obtain ⟨rfl, Nq7, hh7⟩ := hQ7
    replace Nf := Fr.app Nf Nq7
    refine own_step st7 ?_
    show own_Fin _ _ _ _ _ _ _ _ (mkF m 68 #[.val (.long q1), .second, .val (.int p2), .val (.int (1 : Int32)), .val (.ref bq1), .unset, .unset, .unset, .unset] [(.long (0 : Int64)), (.long (((((own_pt ((own_b q1) (0 : Int32).toInt.toNat) (0 : Int32)) ||| (0 : Int64)) ||| (0 : Int64)) ||| (0 : Int64)) ||| (0 : Int64)))])
    refine own_step (fun t k => XS.lor X7.here hx rfl (hb hby at_68) rfl k) ?_
    show own_Fin _ _ _ _ _ _ _ _ (mkF m 69 #[.val (.long q1), .second, .val (.int p2), .val (.int (1 : Int32)), .val (.ref bq1), .unset, .unset, .unset, .unset] [(.long ((((((own_pt ((own_b q1) (0 : Int32).toInt.toNat) (0 : Int32)) ||| (0 : Int64)) ||| (0 : Int64)) ||| (0 : Int64)) ||| (0 : Int64)) ||| (0 : Int64)))])
    refine own_step (fun t k => XS.aload X7.here hx rfl (hb hby at_69) rfl rfl k) ?_
    show own_Fin _ _ _ _ _ _ _ _ (mkF m 71 #[.val (.long q1), .second, .val (.int p2), .val (.int (1 : Int32)), .val (.ref bq1), .unset, .unset, .unset, .unset] [(.ref bq1), (.long ((((((own_pt ((own_b q1) (0 : Int32).toInt.toNat) (0 : Int32)) ||| (0 : Int64)) ||| (0 : Int64)) ||| (0 : Int64)) ||| (0 : Int64)) ||| (0 : Int64)))])
    refine own_step (fun t k => XS.bipush X7.here hx rfl (hb hby at_71) k) ?_
    show own_Fin _ _ _ _ _ _ _ _ (mkF m 73 #[.val (.long q1), .second, .val (.int p2), .val (.int (1 : Int32)), .val (.ref bq1), .unset, .unset, .unset, .unset] [(.int (6 : Int32)), (.ref bq1), (.long ((((((own_pt ((own_b q1) (0 : Int32).toInt.toNat) (0 : Int32)) ||| (0 : Int64)) ||| (0 : Int64)) ||| (0 : Int64)) ||| (0 : Int64)) ||| (0 : Int64)))])
    obtain ⟨_, _, ⟨T8, L8, k8, n8⟩, -, X8, ⟨Lc8, hQ8, l8, y8, z8⟩, st8⟩ := Jvm.LawKit.callS X7 hx (y := (⟨"com/example/kern_tablet/kerntablet/schema/IntegerHandlerLittleEndianPinLaw", "part", "([BI)J"⟩ : MethodName)) hown (mvT hZ (hw _ (List.mem_of_getElem? (i := 5) rfl))) (mvT hZ (hw _ (List.mem_of_getElem? (i := 6) rfl))) (mvT hZ (hw _ (List.mem_of_getElem? (i := 7) rfl))) (mvT hZ (hw _ (List.mem_of_getElem? (i := 8) rfl))) (by decide) (backOf (W := 2) (rm21 l Z a0 hw [] bq1 (6 : Int32) _ _ (1 : Int32) T1.heap n0 Zs V_bq1 rfl (by decide) (by decide)) hZ (hw _ (List.mem_of_getElem? (i := 8) rfl)) (hw _ (List.mem_of_getElem? (i := 7) rfl)) (by decide) (by decide)) (g := (mkF m 73 #[.val (.long q1), .second, .val (.int p2), .val (.int (1 : Int32)), .val (.ref bq1), .unset, .unset, .unset, .unset] [(.int (6 : Int32)), (.ref bq1), (.long ((((((own_pt ((own_b q1) (0 : Int32).toInt.toNat) (0 : Int32)) ||| (0 : Int64)) ||| (0 : Int64)) ||| (0 : Int64)) ||| (0 : Int64)) ||| (0 : Int64)))])) rfl (by rw [hml]; rfl) (argsL := [(.ref bq1), (.int (6 : Int32))]) (rest := [(.long ((((((own_pt ((own_b q1) (0 : Int32).toInt.toNat) (0 : Int32)) ||| (0 : Int64)) ||| (0 : Int64)) ||| (0 : Int64)) ||| (0 : Int64)) ||| (0 : Int64)))]) (lenOf own_pd_1 rfl) rfl (by show 2 * 0 + _ ≤ _; exact Nat.le_of_eq rfl) (hb hby at_73) (fun _ _ => ⟨rfl, hh7, (by decide : 1 + 0 ≤ _), (by decide : 1 + 0 ≤ _)⟩)
    dsimp only [Pt.U, Pt.locs, Pt.cells, Pt.slots] at X8 l8 y8 z8 st8 hQ8
    rw [l8, y8, z8] at X8
    obtain ⟨rfl, Nq8, hh8⟩ := hQ8
    replace Nf := Fr.app Nf Nq8
    refine own_step st8 ?_
    show own_Fin _ _ _ _ _ _ _ _ (mkF m 76 #[.val (.long q1), .second, .val (.int p2), .val (.int (1 : Int32)), .val (.ref bq1), .unset, .unset, .unset, .unset] [(.long (0 : Int64)), (.long ((((((own_pt ((own_b q1) (0 : Int32).toInt.toNat) (0 : Int32)) ||| (0 : Int64)) ||| (0 : Int64)) ||| (0 : Int64)) ||| (0 : Int64)) ||| (0 : Int64)))])
    refine own_step (fun t k => XS.lor X8.here hx rfl (hb hby at_76) rfl k) ?_
    show own_Fin _ _ _ _ _ _ _ _ (mkF m 77 #[.val (.long q1), .second, .val (.int p2), .val (.int (1 : Int32)), .val (.ref bq1), .unset, .unset, .unset, .unset] [(.long (((((((own_pt ((own_b q1) (0 : Int32).toInt.toNat) (0 : Int32)) ||| (0 : Int64)) ||| (0 : Int64)) ||| (0 : Int64)) ||| (0 : Int64)) ||| (0 : Int64)) ||| (0 : Int64)))])
    refine own_step (fun t k => XS.aload X8.here hx rfl (hb hby at_77) rfl rfl k) ?_
    show own_Fin _ _ _ _ _ _ _ _ (mkF m 79 #[.val (.long q1), .second, .val (.int p2), .val (.int (1 : Int32)), .val (.ref bq1), .unset, .unset, .unset, .unset] [(.ref bq1), (.long (((((((own_pt ((own_b q1) (0 : Int32).toInt.toNat) (0 : Int32)) ||| (0 : Int64)) ||| (0 : Int64)) ||| (0 : Int64)) ||| (0 : Int64)) ||| (0 : Int64)) ||| (0 : Int64)))])
    refine own_step (fun t k => XS.bipush X8.here hx rfl (hb hby at_79) k) ?_
    show own_Fin _ _ _ _ _ _ _ _ (mkF m 81 #[.val (.long q1), .second, .val (.int p2), .val (.int (1 : Int32)), .val (.ref bq1), .unset, .unset, .unset, .unset] [(.int (7 : Int32)), (.ref bq1), (.long (((((((own_pt ((own_b q1) (0 : Int32).toInt.toNat) (0 : Int32)) ||| (0 : Int64)) ||| (0 : Int64)) ||| (0 : Int64)) ||| (0 : Int64)) ||| (0 : Int64)) ||| (0 : Int64)))])
    obtain ⟨_, _, ⟨T9, L9, k9, n9⟩, -, X9, ⟨Lc9, hQ9, l9, y9, z9⟩, st9⟩ := Jvm.LawKit.callS X8 hx (y := (⟨"com/example/kern_tablet/kerntablet/schema/IntegerHandlerLittleEndianPinLaw", "part", "([BI)J"⟩ : MethodName)) hown (mvT hZ (hw _ (List.mem_of_getElem? (i := 5) rfl))) (mvT hZ (hw _ (List.mem_of_getElem? (i := 6) rfl))) (mvT hZ (hw _ (List.mem_of_getElem? (i := 7) rfl))) (mvT hZ (hw _ (List.mem_of_getElem? (i := 8) rfl))) (by decide) (backOf (W := 2) (rm21 l Z a0 hw [] bq1 (7 : Int32) _ _ (1 : Int32) T1.heap n0 Zs V_bq1 rfl (by decide) (by decide)) hZ (hw _ (List.mem_of_getElem? (i := 8) rfl)) (hw _ (List.mem_of_getElem? (i := 7) rfl)) (by decide) (by decide)) (g := (mkF m 81 #[.val (.long q1), .second, .val (.int p2), .val (.int (1 : Int32)), .val (.ref bq1), .unset, .unset, .unset, .unset] [(.int (7 : Int32)), (.ref bq1), (.long (((((((own_pt ((own_b q1) (0 : Int32).toInt.toNat) (0 : Int32)) ||| (0 : Int64)) ||| (0 : Int64)) ||| (0 : Int64)) ||| (0 : Int64)) ||| (0 : Int64)) ||| (0 : Int64)))])) rfl (by rw [hml]; rfl) (argsL := [(.ref bq1), (.int (7 : Int32))]) (rest := [(.long (((((((own_pt ((own_b q1) (0 : Int32).toInt.toNat) (0 : Int32)) ||| (0 : Int64)) ||| (0 : Int64)) ||| (0 : Int64)) ||| (0 : Int64)) ||| (0 : Int64)) ||| (0 : Int64)))]) (lenOf own_pd_1 rfl) rfl (by show 2 * 0 + _ ≤ _; exact Nat.le_of_eq rfl) (hb hby at_81) (fun _ _ => ⟨rfl, hh8, (by decide : 1 + 0 ≤ _), (by decide : 1 + 0 ≤ _)⟩)
    dsimp only [Pt.U, Pt.locs, Pt.cells, Pt.slots] at X9 l9 y9 z9 st9 hQ9
    rw [l9, y9, z9] at X9
    obtain ⟨rfl, Nq9, hh9⟩ := hQ9
    replace Nf := Fr.app Nf Nq9
    refine own_step st9 ?_
    show own_Fin _ _ _ _ _ _ _ _ (mkF m 84 #[.val (.long q1), .second, .val (.int p2), .val (.int (1 : Int32)), .val (.ref bq1), .unset, .unset, .unset, .unset] [(.long (0 : Int64)), (.long (((((((own_pt ((own_b q1) (0 : Int32).toInt.toNat) (0 : Int32)) ||| (0 : Int64)) ||| (0 : Int64)) ||| (0 : Int64)) ||| (0 : Int64)) ||| (0 : Int64)) ||| (0 : Int64)))])
    refine own_step (fun t k => XS.lor X9.here hx rfl (hb hby at_84) rfl k) ?_
    show own_Fin _ _ _ _ _ _ _ _ (mkF m 85 #[.val (.long q1), .second, .val (.int p2), .val (.int (1 : Int32)), .val (.ref bq1), .unset, .unset, .unset, .unset] [(.long ((((((((own_pt ((own_b q1) (0 : Int32).toInt.toNat) (0 : Int32)) ||| (0 : Int64)) ||| (0 : Int64)) ||| (0 : Int64)) ||| (0 : Int64)) ||| (0 : Int64)) ||| (0 : Int64)) ||| (0 : Int64)))])
    refine own_step (fun t k => XS.lstore X9.here hx rfl (hb hby at_85) rfl (l' := #[.val (.long q1), .second, .val (.int p2), .val (.int (1 : Int32)), .val (.ref bq1), .val (.long ((((((((own_pt ((own_b q1) (0 : Int32).toInt.toNat) (0 : Int32)) ||| (0 : Int64)) ||| (0 : Int64)) ||| (0 : Int64)) ||| (0 : Int64)) ||| (0 : Int64)) ||| (0 : Int64)) ||| (0 : Int64))), .second, .unset, .unset]) rfl k) ?_
    show own_Fin _ _ _ _ _ _ _ _ (mkF m 87 #[.val (.long q1), .second, .val (.int p2), .val (.int (1 : Int32)), .val (.ref bq1), .val (.long ((((((((own_pt ((own_b q1) (0 : Int32).toInt.toNat) (0 : Int32)) ||| (0 : Int64)) ||| (0 : Int64)) ||| (0 : Int64)) ||| (0 : Int64)) ||| (0 : Int64)) ||| (0 : Int64)) ||| (0 : Int64))), .second, .unset, .unset] [])
    refine own_step (fun t k => XS.iloadN X9.here hx rfl (hb hby at_87) rfl k) ?_
    show own_Fin _ _ _ _ _ _ _ _ (mkF m 88 #[.val (.long q1), .second, .val (.int p2), .val (.int (1 : Int32)), .val (.ref bq1), .val (.long ((((((((own_pt ((own_b q1) (0 : Int32).toInt.toNat) (0 : Int32)) ||| (0 : Int64)) ||| (0 : Int64)) ||| (0 : Int64)) ||| (0 : Int64)) ||| (0 : Int64)) ||| (0 : Int64)) ||| (0 : Int64))), .second, .unset, .unset] [(.int (1 : Int32))])
    refine own_step (fun t k => XS.bipush X9.here hx rfl (hb hby at_88) k) ?_
    show own_Fin _ _ _ _ _ _ _ _ (mkF m 90 #[.val (.long q1), .second, .val (.int p2), .val (.int (1 : Int32)), .val (.ref bq1), .val (.long ((((((((own_pt ((own_b q1) (0 : Int32).toInt.toNat) (0 : Int32)) ||| (0 : Int64)) ||| (0 : Int64)) ||| (0 : Int64)) ||| (0 : Int64)) ||| (0 : Int64)) ||| (0 : Int64)) ||| (0 : Int64))), .second, .unset, .unset] [(.int (8 : Int32)), (.int (1 : Int32))])
    refine own_step (fun t k => XS.icmpYes X9.here hx rfl (pc0 := 90) (pc' := 99) rfl (hb hby at_90) rfl (by decide) (by decide) (by decide) k) ?_
    show own_Fin _ _ _ _ _ _ _ _ (mkF m 99 #[.val (.long q1), .second, .val (.int p2), .val (.int (1 : Int32)), .val (.ref bq1), .val (.long ((((((((own_pt ((own_b q1) (0 : Int32).toInt.toNat) (0 : Int32)) ||| (0 : Int64)) ||| (0 : Int64)) ||| (0 : Int64)) ||| (0 : Int64)) ||| (0 : Int64)) ||| (0 : Int64)) ||| (0 : Int64))), .second, .unset, .unset] [])
    refine own_step (fun t k => XS.lconst X9.here hx rfl (hb hby at_99) k) ?_
    show own_Fin _ _ _ _ _ _ _ _ (mkF m 100 #[.val (.long q1), .second, .val (.int p2), .val (.int (1 : Int32)), .val (.ref bq1), .val (.long ((((((((own_pt ((own_b q1) (0 : Int32).toInt.toNat) (0 : Int32)) ||| (0 : Int64)) ||| (0 : Int64)) ||| (0 : Int64)) ||| (0 : Int64)) ||| (0 : Int64)) ||| (0 : Int64)) ||| (0 : Int64))), .second, .unset, .unset] [(.long (1 : Int64))])
    refine own_step (fun t k => XS.bipush X9.here hx rfl (hb hby at_100) k) ?_
    show own_Fin _ _ _ _ _ _ _ _ (mkF m 102 #[.val (.long q1), .second, .val (.int p2), .val (.int (1 : Int32)), .val (.ref bq1), .val (.long ((((((((own_pt ((own_b q1) (0 : Int32).toInt.toNat) (0 : Int32)) ||| (0 : Int64)) ||| (0 : Int64)) ||| (0 : Int64)) ||| (0 : Int64)) ||| (0 : Int64)) ||| (0 : Int64)) ||| (0 : Int64))), .second, .unset, .unset] [(.int (8 : Int32)), (.long (1 : Int64))])
    refine own_step (fun t k => XS.iloadN X9.here hx rfl (hb hby at_102) rfl k) ?_
    show own_Fin _ _ _ _ _ _ _ _ (mkF m 103 #[.val (.long q1), .second, .val (.int p2), .val (.int (1 : Int32)), .val (.ref bq1), .val (.long ((((((((own_pt ((own_b q1) (0 : Int32).toInt.toNat) (0 : Int32)) ||| (0 : Int64)) ||| (0 : Int64)) ||| (0 : Int64)) ||| (0 : Int64)) ||| (0 : Int64)) ||| (0 : Int64)) ||| (0 : Int64))), .second, .unset, .unset] [(.int (1 : Int32)), (.int (8 : Int32)), (.long (1 : Int64))])
    refine own_step (fun t k => XS.imul X9.here hx rfl (hb hby at_103) rfl k) ?_
    show own_Fin _ _ _ _ _ _ _ _ (mkF m 104 #[.val (.long q1), .second, .val (.int p2), .val (.int (1 : Int32)), .val (.ref bq1), .val (.long ((((((((own_pt ((own_b q1) (0 : Int32).toInt.toNat) (0 : Int32)) ||| (0 : Int64)) ||| (0 : Int64)) ||| (0 : Int64)) ||| (0 : Int64)) ||| (0 : Int64)) ||| (0 : Int64)) ||| (0 : Int64))), .second, .unset, .unset] [(.int (8 : Int32)), (.long (1 : Int64))])
    refine own_step (fun t k => XS.lshl X9.here hx rfl (hb hby at_104) rfl k) ?_
    show own_Fin _ _ _ _ _ _ _ _ (mkF m 105 #[.val (.long q1), .second, .val (.int p2), .val (.int (1 : Int32)), .val (.ref bq1), .val (.long ((((((((own_pt ((own_b q1) (0 : Int32).toInt.toNat) (0 : Int32)) ||| (0 : Int64)) ||| (0 : Int64)) ||| (0 : Int64)) ||| (0 : Int64)) ||| (0 : Int64)) ||| (0 : Int64)) ||| (0 : Int64))), .second, .unset, .unset] [(.long ((1 : Int64) <<< ((8 : Int32) &&& 0x3f).toInt64))])
    refine own_step (fun t k => XS.lconst X9.here hx rfl (hb hby at_105) k) ?_
    show own_Fin _ _ _ _ _ _ _ _ (mkF m 106 #[.val (.long q1), .second, .val (.int p2), .val (.int (1 : Int32)), .val (.ref bq1), .val (.long ((((((((own_pt ((own_b q1) (0 : Int32).toInt.toNat) (0 : Int32)) ||| (0 : Int64)) ||| (0 : Int64)) ||| (0 : Int64)) ||| (0 : Int64)) ||| (0 : Int64)) ||| (0 : Int64)) ||| (0 : Int64))), .second, .unset, .unset] [(.long (1 : Int64)), (.long ((1 : Int64) <<< ((8 : Int32) &&& 0x3f).toInt64))])
    refine own_step (fun t k => XS.lsub X9.here hx rfl (hb hby at_106) rfl k) ?_
    show own_Fin _ _ _ _ _ _ _ _ (mkF m 107 #[.val (.long q1), .second, .val (.int p2), .val (.int (1 : Int32)), .val (.ref bq1), .val (.long ((((((((own_pt ((own_b q1) (0 : Int32).toInt.toNat) (0 : Int32)) ||| (0 : Int64)) ||| (0 : Int64)) ||| (0 : Int64)) ||| (0 : Int64)) ||| (0 : Int64)) ||| (0 : Int64)) ||| (0 : Int64))), .second, .unset, .unset] [(.long (((1 : Int64) <<< ((8 : Int32) &&& 0x3f).toInt64) - (1 : Int64)))])
    refine own_step (fun t k => XS.lstore X9.here hx rfl (hb hby at_107) rfl (l' := #[.val (.long q1), .second, .val (.int p2), .val (.int (1 : Int32)), .val (.ref bq1), .val (.long ((((((((own_pt ((own_b q1) (0 : Int32).toInt.toNat) (0 : Int32)) ||| (0 : Int64)) ||| (0 : Int64)) ||| (0 : Int64)) ||| (0 : Int64)) ||| (0 : Int64)) ||| (0 : Int64)) ||| (0 : Int64))), .second, .val (.long (((1 : Int64) <<< ((8 : Int32) &&& 0x3f).toInt64) - (1 : Int64))), .second]) rfl k) ?_
    show own_Fin _ _ _ _ _ _ _ _ (mkF m 109 #[.val (.long q1), .second, .val (.int p2), .val (.int (1 : Int32)), .val (.ref bq1), .val (.long ((((((((own_pt ((own_b q1) (0 : Int32).toInt.toNat) (0 : Int32)) ||| (0 : Int64)) ||| (0 : Int64)) ||| (0 : Int64)) ||| (0 : Int64)) ||| (0 : Int64)) ||| (0 : Int64)) ||| (0 : Int64))), .second, .val (.long (((1 : Int64) <<< ((8 : Int32) &&& 0x3f).toInt64) - (1 : Int64))), .second] [])
    refine own_step (fun t k => XS.lload X9.here hx rfl (hb hby at_109) rfl k) ?_
    show own_Fin _ _ _ _ _ _ _ _ (mkF m 111 #[.val (.long q1), .second, .val (.int p2), .val (.int (1 : Int32)), .val (.ref bq1), .val (.long ((((((((own_pt ((own_b q1) (0 : Int32).toInt.toNat) (0 : Int32)) ||| (0 : Int64)) ||| (0 : Int64)) ||| (0 : Int64)) ||| (0 : Int64)) ||| (0 : Int64)) ||| (0 : Int64)) ||| (0 : Int64))), .second, .val (.long (((1 : Int64) <<< ((8 : Int32) &&& 0x3f).toInt64) - (1 : Int64))), .second] [(.long ((((((((own_pt ((own_b q1) (0 : Int32).toInt.toNat) (0 : Int32)) ||| (0 : Int64)) ||| (0 : Int64)) ||| (0 : Int64)) ||| (0 : Int64)) ||| (0 : Int64)) ||| (0 : Int64)) ||| (0 : Int64)))])
    refine own_step (fun t k => XS.lloadN X9.here hx rfl (hb hby at_111) rfl k) ?_
    show own_Fin _ _ _ _ _ _ _ _ (mkF m 112 #[.val (.long q1), .second, .val (.int p2), .val (.int (1 : Int32)), .val (.ref bq1), .val (.long ((((((((own_pt ((own_b q1) (0 : Int32).toInt.toNat) (0 : Int32)) ||| (0 : Int64)) ||| (0 : Int64)) ||| (0 : Int64)) ||| (0 : Int64)) ||| (0 : Int64)) ||| (0 : Int64)) ||| (0 : Int64))), .second, .val (.long (((1 : Int64) <<< ((8 : Int32) &&& 0x3f).toInt64) - (1 : Int64))), .second] [(.long q1), (.long ((((((((own_pt ((own_b q1) (0 : Int32).toInt.toNat) (0 : Int32)) ||| (0 : Int64)) ||| (0 : Int64)) ||| (0 : Int64)) ||| (0 : Int64)) ||| (0 : Int64)) ||| (0 : Int64)) ||| (0 : Int64)))])
    refine own_step (fun t k => XS.lload X9.here hx rfl (hb hby at_112) rfl k) ?_
    show own_Fin _ _ _ _ _ _ _ _ (mkF m 114 #[.val (.long q1), .second, .val (.int p2), .val (.int (1 : Int32)), .val (.ref bq1), .val (.long ((((((((own_pt ((own_b q1) (0 : Int32).toInt.toNat) (0 : Int32)) ||| (0 : Int64)) ||| (0 : Int64)) ||| (0 : Int64)) ||| (0 : Int64)) ||| (0 : Int64)) ||| (0 : Int64)) ||| (0 : Int64))), .second, .val (.long (((1 : Int64) <<< ((8 : Int32) &&& 0x3f).toInt64) - (1 : Int64))), .second] [(.long (((1 : Int64) <<< ((8 : Int32) &&& 0x3f).toInt64) - (1 : Int64))), (.long q1), (.long ((((((((own_pt ((own_b q1) (0 : Int32).toInt.toNat) (0 : Int32)) ||| (0 : Int64)) ||| (0 : Int64)) ||| (0 : Int64)) ||| (0 : Int64)) ||| (0 : Int64)) ||| (0 : Int64)) ||| (0 : Int64)))])
    refine own_step (fun t k => XS.land X9.here hx rfl (hb hby at_114) rfl k) ?_
    show own_Fin _ _ _ _ _ _ _ _ (mkF m 115 #[.val (.long q1), .second, .val (.int p2), .val (.int (1 : Int32)), .val (.ref bq1), .val (.long ((((((((own_pt ((own_b q1) (0 : Int32).toInt.toNat) (0 : Int32)) ||| (0 : Int64)) ||| (0 : Int64)) ||| (0 : Int64)) ||| (0 : Int64)) ||| (0 : Int64)) ||| (0 : Int64)) ||| (0 : Int64))), .second, .val (.long (((1 : Int64) <<< ((8 : Int32) &&& 0x3f).toInt64) - (1 : Int64))), .second] [(.long (q1 &&& (((1 : Int64) <<< ((8 : Int32) &&& 0x3f).toInt64) - (1 : Int64)))), (.long ((((((((own_pt ((own_b q1) (0 : Int32).toInt.toNat) (0 : Int32)) ||| (0 : Int64)) ||| (0 : Int64)) ||| (0 : Int64)) ||| (0 : Int64)) ||| (0 : Int64)) ||| (0 : Int64)) ||| (0 : Int64)))])
    refine own_step (fun t k => XS.lcmp X9.here hx rfl (hb hby at_115) rfl k) ?_
    show own_Fin _ _ _ _ _ _ _ _ (mkF m 116 #[.val (.long q1), .second, .val (.int p2), .val (.int (1 : Int32)), .val (.ref bq1), .val (.long ((((((((own_pt ((own_b q1) (0 : Int32).toInt.toNat) (0 : Int32)) ||| (0 : Int64)) ||| (0 : Int64)) ||| (0 : Int64)) ||| (0 : Int64)) ||| (0 : Int64)) ||| (0 : Int64)) ||| (0 : Int64))), .second, .val (.long (((1 : Int64) <<< ((8 : Int32) &&& 0x3f).toInt64) - (1 : Int64))), .second] [(.int (lcmpW ((((((((own_pt ((own_b q1) (0 : Int32).toInt.toNat) (0 : Int32)) ||| (0 : Int64)) ||| (0 : Int64)) ||| (0 : Int64)) ||| (0 : Int64)) ||| (0 : Int64)) ||| (0 : Int64)) ||| (0 : Int64)) (q1 &&& (((1 : Int64) <<< ((8 : Int32) &&& 0x3f).toInt64) - (1 : Int64)))))])
    have hc10 : (((((((((own_pt ((own_b q1) (0 : Int32).toInt.toNat) (0 : Int32)) ||| (0 : Int64)) ||| (0 : Int64)) ||| (0 : Int64)) ||| (0 : Int64)) ||| (0 : Int64)) ||| (0 : Int64)) ||| (0 : Int64))).toInt = ((q1 &&& (((1 : Int64) <<< ((8 : Int32) &&& 0x3f).toInt64) - (1 : Int64)))).toInt := congrArg Int64.toInt (own_fin1 q1)
    refine own_step (fun t k => XS.ifNo X9.here hx rfl (hb hby at_116) rfl (own_le (x := ((((((((own_pt ((own_b q1) (0 : Int32).toInt.toNat) (0 : Int32)) ||| (0 : Int64)) ||| (0 : Int64)) ||| (0 : Int64)) ||| (0 : Int64)) ||| (0 : Int64)) ||| (0 : Int64)) ||| (0 : Int64))) (y := (q1 &&& (((1 : Int64) <<< ((8 : Int32) &&& 0x3f).toInt64) - (1 : Int64)))) rfl rfl hc10).2 k) ?_
    show own_Fin _ _ _ _ _ _ _ _ (mkF m 119 #[.val (.long q1), .second, .val (.int p2), .val (.int (1 : Int32)), .val (.ref bq1), .val (.long ((((((((own_pt ((own_b q1) (0 : Int32).toInt.toNat) (0 : Int32)) ||| (0 : Int64)) ||| (0 : Int64)) ||| (0 : Int64)) ||| (0 : Int64)) ||| (0 : Int64)) ||| (0 : Int64)) ||| (0 : Int64))), .second, .val (.long (((1 : Int64) <<< ((8 : Int32) &&& 0x3f).toInt64) - (1 : Int64))), .second] [])
    refine own_step (fun t k => XS.iconst X9.here hx rfl (hb hby at_119) k) ?_
    show own_Fin _ _ _ _ _ _ _ _ (mkF m 120 #[.val (.long q1), .second, .val (.int p2), .val (.int (1 : Int32)), .val (.ref bq1), .val (.long ((((((((own_pt ((own_b q1) (0 : Int32).toInt.toNat) (0 : Int32)) ||| (0 : Int64)) ||| (0 : Int64)) ||| (0 : Int64)) ||| (0 : Int64)) ||| (0 : Int64)) ||| (0 : Int64)) ||| (0 : Int64))), .second, .val (.long (((1 : Int64) <<< ((8 : Int32) &&& 0x3f).toInt64) - (1 : Int64))), .second] [(.int (1 : Int32))])
    refine own_step (fun t k => XS.goto X9.here hx rfl (pc0 := 120) (pc' := 124) rfl (hb hby at_120) (by decide) (by decide) k) ?_
    show own_Fin _ _ _ _ _ _ _ _ (mkF m 124 #[.val (.long q1), .second, .val (.int p2), .val (.int (1 : Int32)), .val (.ref bq1), .val (.long ((((((((own_pt ((own_b q1) (0 : Int32).toInt.toNat) (0 : Int32)) ||| (0 : Int64)) ||| (0 : Int64)) ||| (0 : Int64)) ||| (0 : Int64)) ||| (0 : Int64)) ||| (0 : Int64)) ||| (0 : Int64))), .second, .val (.long (((1 : Int64) <<< ((8 : Int32) &&& 0x3f).toInt64) - (1 : Int64))), .second] [(.int (1 : Int32))])
    refine own_retZ X9 hx hlk Bd.returns (hb hby at_124) (z' := (1 : Int32)) (by decide) (by decide) (by decide) hh9 ?_
    exact ⟨rfl, Nf⟩
  · skip
    show own_Fin _ _ _ _ _ _ _ _ (mkF m 7 #[.val (.long q1), .second, .val (.int p2), .val (.int (2 : Int32)), .unset, .unset, .unset, .unset, .unset] [])
    refine own_step (fun t k => XS.lloadN X0.here hx rfl (hb hby at_7) rfl k) ?_
    show own_Fin _ _ _ _ _ _ _ _ (mkF m 8 #[.val (.long q1), .second, .val (.int p2), .val (.int (2 : Int32)), .unset, .unset, .unset, .unset, .unset] [(.long q1)])
    refine own_step (fun t k => XS.iloadN X0.here hx rfl (hb hby at_8) rfl k) ?_
    show own_Fin _ _ _ _ _ _ _ _ (mkF m 9 #[.val (.long q1), .second, .val (.int p2), .val (.int (2 : Int32)), .unset, .unset, .unset, .unset, .unset] [(.int (2 : Int32)), (.long q1)])
    obtain ⟨_, _, ⟨T11, L11, k11, n11⟩, -, X11, ⟨Lc11, hQ11, l11, y11, z11⟩, st11⟩ := Jvm.LawKit.callS X0 hx (y := (⟨"com/example/kern_tablet/kerntablet/schema/IntegerHandler", "littleEndian", "(JI)[B"⟩ : MethodName)) hown (mvT hZ (hw _ (List.mem_of_getElem? (i := 0) rfl))) (mvT hZ (hw _ (List.mem_of_getElem? (i := 1) rfl))) (mvT hZ (hw _ (List.mem_of_getElem? (i := 2) rfl))) (mvT hZ (hw _ (List.mem_of_getElem? (i := 3) rfl))) (by decide) (backOf (W := 0) (rm12 l Z a0 hw [] q1 h0 n0 Zs) hZ (hw _ (List.mem_of_getElem? (i := 3) rfl)) (hw _ (List.mem_of_getElem? (i := 2) rfl)) (by decide) (by decide)) (g := (mkF m 9 #[.val (.long q1), .second, .val (.int p2), .val (.int (2 : Int32)), .unset, .unset, .unset, .unset, .unset] [(.int (2 : Int32)), (.long q1)])) rfl (by rw [hml]; rfl) (argsL := [(.long q1), (.int (2 : Int32))]) (rest := []) (lenOf own_pd_0 rfl) rfl (by show 2 * 0 + _ ≤ _; exact Nat.le_of_eq rfl) (hb hby at_9) (fun _ _ => ⟨rfl, e0, (by decide : 0 + 1 ≤ _), (by decide : 0 + 2 ≤ _)⟩)
    dsimp only [Pt.U, Pt.locs, Pt.cells, Pt.slots] at X11 l11 y11 z11 st11 hQ11
    rw [l11, y11, z11] at X11
    obtain ⟨bq11, rfl, Nq11, Kq11, gq11, P11⟩ := hQ11
    replace Nf := Fr.app Nf Nq11
    replace Zs := Nat.le_trans Zs Kq11.1
    have V_bq11 := P11
    refine own_step st11 ?_
    show own_Fin _ _ _ _ _ _ _ _ (mkF m 12 #[.val (.long q1), .second, .val (.int p2), .val (.int (2 : Int32)), .unset, .unset, .unset, .unset, .unset] [(.ref bq11)])
    refine own_step (fun t k => XS.astore X11.here hx rfl (hb hby at_12) rfl rfl (l' := #[.val (.long q1), .second, .val (.int p2), .val (.int (2 : Int32)), .val (.ref bq11), .unset, .unset, .unset, .unset]) rfl k) ?_
    show own_Fin _ _ _ _ _ _ _ _ (mkF m 14 #[.val (.long q1), .second, .val (.int p2), .val (.int (2 : Int32)), .val (.ref bq11), .unset, .unset, .unset, .unset] [])
    refine own_step (fun t k => XS.aload X11.here hx rfl (hb hby at_14) rfl rfl k) ?_
    show own_Fin _ _ _ _ _ _ _ _ (mkF m 16 #[.val (.long q1), .second, .val (.int p2), .val (.int (2 : Int32)), .val (.ref bq11), .unset, .unset, .unset, .unset] [(.ref bq11)])
    refine own_step (fun t k => XS.ifnullNo X11.here hx rfl (hb hby at_16) rfl k) ?_
    show own_Fin _ _ _ _ _ _ _ _ (mkF m 19 #[.val (.long q1), .second, .val (.int p2), .val (.int (2 : Int32)), .val (.ref bq11), .unset, .unset, .unset, .unset] [])
    refine own_step (fun t k => XS.aload X11.here hx rfl (hb hby at_19) rfl rfl k) ?_
    show own_Fin _ _ _ _ _ _ _ _ (mkF m 21 #[.val (.long q1), .second, .val (.int p2), .val (.int (2 : Int32)), .val (.ref bq11), .unset, .unset, .unset, .unset] [(.ref bq11)])
    refine own_arrlen X11 hx hZ rfl V_bq11 (z := (2 : Int32)) rfl (hb hby at_21) rfl ?_
    show own_Fin _ _ _ _ _ _ _ _ (mkF m 22 #[.val (.long q1), .second, .val (.int p2), .val (.int (2 : Int32)), .val (.ref bq11), .unset, .unset, .unset, .unset] [(.int (2 : Int32))])
    refine own_step (fun t k => XS.iloadN X11.here hx rfl (hb hby at_22) rfl k) ?_
    show own_Fin _ _ _ _ _ _ _ _ (mkF m 23 #[.val (.long q1), .second, .val (.int p2), .val (.int (2 : Int32)), .val (.ref bq11), .unset, .unset, .unset, .unset] [(.int (2 : Int32)), (.int (2 : Int32))])
    refine own_step (fun t k => XS.icmpYes X11.here hx rfl (pc0 := 23) (pc' := 28) rfl (hb hby at_23) rfl (by decide) (by decide) (by decide) k) ?_
    show own_Fin _ _ _ _ _ _ _ _ (mkF m 28 #[.val (.long q1), .second, .val (.int p2), .val (.int (2 : Int32)), .val (.ref bq11), .unset, .unset, .unset, .unset] [])
    refine own_step (fun t k => XS.aload X11.here hx rfl (hb hby at_28) rfl rfl k) ?_
    show own_Fin _ _ _ _ _ _ _ _ (mkF m 30 #[.val (.long q1), .second, .val (.int p2), .val (.int (2 : Int32)), .val (.ref bq11), .unset, .unset, .unset, .unset] [(.ref bq11)])
    refine own_step (fun t k => XS.iconst X11.here hx rfl (hb hby at_30) k) ?_
    show own_Fin _ _ _ _ _ _ _ _ (mkF m 31 #[.val (.long q1), .second, .val (.int p2), .val (.int (2 : Int32)), .val (.ref bq11), .unset, .unset, .unset, .unset] [(.int (0 : Int32)), (.ref bq11)])
    obtain ⟨_, _, ⟨T12, L12, k12, n12⟩, -, X12, ⟨Lc12, hQ12, l12, y12, z12⟩, st12⟩ := Jvm.LawKit.callS X11 hx (y := (⟨"com/example/kern_tablet/kerntablet/schema/IntegerHandlerLittleEndianPinLaw", "part", "([BI)J"⟩ : MethodName)) hown (mvT hZ (hw _ (List.mem_of_getElem? (i := 5) rfl))) (mvT hZ (hw _ (List.mem_of_getElem? (i := 6) rfl))) (mvT hZ (hw _ (List.mem_of_getElem? (i := 7) rfl))) (mvT hZ (hw _ (List.mem_of_getElem? (i := 8) rfl))) (by decide) (backOf (W := 0) (rm20 l Z a0 hw [] bq11 (0 : Int32) _ _ (2 : Int32) T11.heap n0 Zs V_bq11 rfl (by decide) (by decide)) hZ (hw _ (List.mem_of_getElem? (i := 8) rfl)) (hw _ (List.mem_of_getElem? (i := 7) rfl)) (by decide) (by decide)) (g := (mkF m 31 #[.val (.long q1), .second, .val (.int p2), .val (.int (2 : Int32)), .val (.ref bq11), .unset, .unset, .unset, .unset] [(.int (0 : Int32)), (.ref bq11)])) rfl (by rw [hml]; rfl) (argsL := [(.ref bq11), (.int (0 : Int32))]) (rest := []) (lenOf own_pd_1 rfl) rfl (by show 2 * 0 + _ ≤ _; exact Nat.le_of_eq rfl) (hb hby at_31) (fun _ _ => ⟨rfl, rfl, (by decide : 1 + 0 ≤ _), (by decide : 2 + 0 ≤ _)⟩)
    dsimp only [Pt.U, Pt.locs, Pt.cells, Pt.slots] at X12 l12 y12 z12 st12 hQ12
    rw [l12, y12, z12] at X12
    obtain ⟨rfl, Nq12, hh12⟩ := hQ12
    replace Nf := Fr.app Nf Nq12
    refine own_step st12 ?_
    show own_Fin _ _ _ _ _ _ _ _ (mkF m 34 #[.val (.long q1), .second, .val (.int p2), .val (.int (2 : Int32)), .val (.ref bq11), .unset, .unset, .unset, .unset] [(.long (own_pt ((own_b q1) (0 : Int32).toInt.toNat) (0 : Int32)))])
    refine own_step (fun t k => XS.aload X12.here hx rfl (hb hby at_34) rfl rfl k) ?_
    show own_Fin _ _ _ _ _ _ _ _ (mkF m 36 #[.val (.long q1), .second, .val (.int p2), .val (.int (2 : Int32)), .val (.ref bq11), .unset, .unset, .unset, .unset] [(.ref bq11), (.long (own_pt ((own_b q1) (0 : Int32).toInt.toNat) (0 : Int32)))])
    refine own_step (fun t k => XS.iconst X12.here hx rfl (hb hby at_36) k) ?_
    show own_Fin _ _ _ _ _ _ _ _ (mkF m 37 #[.val (.long q1), .second, .val (.int p2), .val (.int (2 : Int32)), .val (.ref bq11), .unset, .unset, .unset, .unset] [(.int (1 : Int32)), (.ref bq11), (.long (own_pt ((own_b q1) (0 : Int32).toInt.toNat) (0 : Int32)))])
    obtain ⟨_, _, ⟨T13, L13, k13, n13⟩, -, X13, ⟨Lc13, hQ13, l13, y13, z13⟩, st13⟩ := Jvm.LawKit.callS X12 hx (y := (⟨"com/example/kern_tablet/kerntablet/schema/IntegerHandlerLittleEndianPinLaw", "part", "([BI)J"⟩ : MethodName)) hown (mvT hZ (hw _ (List.mem_of_getElem? (i := 5) rfl))) (mvT hZ (hw _ (List.mem_of_getElem? (i := 6) rfl))) (mvT hZ (hw _ (List.mem_of_getElem? (i := 7) rfl))) (mvT hZ (hw _ (List.mem_of_getElem? (i := 8) rfl))) (by decide) (backOf (W := 2) (rm20 l Z a0 hw [] bq11 (1 : Int32) _ _ (2 : Int32) T11.heap n0 Zs V_bq11 rfl (by decide) (by decide)) hZ (hw _ (List.mem_of_getElem? (i := 8) rfl)) (hw _ (List.mem_of_getElem? (i := 7) rfl)) (by decide) (by decide)) (g := (mkF m 37 #[.val (.long q1), .second, .val (.int p2), .val (.int (2 : Int32)), .val (.ref bq11), .unset, .unset, .unset, .unset] [(.int (1 : Int32)), (.ref bq11), (.long (own_pt ((own_b q1) (0 : Int32).toInt.toNat) (0 : Int32)))])) rfl (by rw [hml]; rfl) (argsL := [(.ref bq11), (.int (1 : Int32))]) (rest := [(.long (own_pt ((own_b q1) (0 : Int32).toInt.toNat) (0 : Int32)))]) (lenOf own_pd_1 rfl) rfl (by show 2 * 0 + _ ≤ _; exact Nat.le_of_eq rfl) (hb hby at_37) (fun _ _ => ⟨rfl, hh12, (by decide : 1 + 0 ≤ _), (by decide : 2 + 0 ≤ _)⟩)
    dsimp only [Pt.U, Pt.locs, Pt.cells, Pt.slots] at X13 l13 y13 z13 st13 hQ13
    rw [l13, y13, z13] at X13
    obtain ⟨rfl, Nq13, hh13⟩ := hQ13
    replace Nf := Fr.app Nf Nq13
    refine own_step st13 ?_
    show own_Fin _ _ _ _ _ _ _ _ (mkF m 40 #[.val (.long q1), .second, .val (.int p2), .val (.int (2 : Int32)), .val (.ref bq11), .unset, .unset, .unset, .unset] [(.long (own_pt ((own_b q1) (1 : Int32).toInt.toNat) (1 : Int32))), (.long (own_pt ((own_b q1) (0 : Int32).toInt.toNat) (0 : Int32)))])
    refine own_step (fun t k => XS.lor X13.here hx rfl (hb hby at_40) rfl k) ?_
    show own_Fin _ _ _ _ _ _ _ _ (mkF m 41 #[.val (.long q1), .second, .val (.int p2), .val (.int (2 : Int32)), .val (.ref bq11), .unset, .unset, .unset, .unset] [(.long ((own_pt ((own_b q1) (0 : Int32).toInt.toNat) (0 : Int32)) ||| (own_pt ((own_b q1) (1 : Int32).toInt.toNat) (1 : Int32))))])
    refine own_step (fun t k => XS.aload X13.here hx rfl (hb hby at_41) rfl rfl k) ?_
    show own_Fin _ _ _ _ _ _ _ _ (mkF m 43 #[.val (.long q1), .second, .val (.int p2), .val (.int (2 : Int32)), .val (.ref bq11), .unset, .unset, .unset, .unset] [(.ref bq11), (.long ((own_pt ((own_b q1) (0 : Int32).toInt.toNat) (0 : Int32)) ||| (own_pt ((own_b q1) (1 : Int32).toInt.toNat) (1 : Int32))))])
    refine own_step (fun t k => XS.iconst X13.here hx rfl (hb hby at_43) k) ?_
    show own_Fin _ _ _ _ _ _ _ _ (mkF m 44 #[.val (.long q1), .second, .val (.int p2), .val (.int (2 : Int32)), .val (.ref bq11), .unset, .unset, .unset, .unset] [(.int (2 : Int32)), (.ref bq11), (.long ((own_pt ((own_b q1) (0 : Int32).toInt.toNat) (0 : Int32)) ||| (own_pt ((own_b q1) (1 : Int32).toInt.toNat) (1 : Int32))))])
    obtain ⟨_, _, ⟨T14, L14, k14, n14⟩, -, X14, ⟨Lc14, hQ14, l14, y14, z14⟩, st14⟩ := Jvm.LawKit.callS X13 hx (y := (⟨"com/example/kern_tablet/kerntablet/schema/IntegerHandlerLittleEndianPinLaw", "part", "([BI)J"⟩ : MethodName)) hown (mvT hZ (hw _ (List.mem_of_getElem? (i := 5) rfl))) (mvT hZ (hw _ (List.mem_of_getElem? (i := 6) rfl))) (mvT hZ (hw _ (List.mem_of_getElem? (i := 7) rfl))) (mvT hZ (hw _ (List.mem_of_getElem? (i := 8) rfl))) (by decide) (backOf (W := 2) (rm21 l Z a0 hw [] bq11 (2 : Int32) _ _ (2 : Int32) T11.heap n0 Zs V_bq11 rfl (by decide) (by decide)) hZ (hw _ (List.mem_of_getElem? (i := 8) rfl)) (hw _ (List.mem_of_getElem? (i := 7) rfl)) (by decide) (by decide)) (g := (mkF m 44 #[.val (.long q1), .second, .val (.int p2), .val (.int (2 : Int32)), .val (.ref bq11), .unset, .unset, .unset, .unset] [(.int (2 : Int32)), (.ref bq11), (.long ((own_pt ((own_b q1) (0 : Int32).toInt.toNat) (0 : Int32)) ||| (own_pt ((own_b q1) (1 : Int32).toInt.toNat) (1 : Int32))))])) rfl (by rw [hml]; rfl) (argsL := [(.ref bq11), (.int (2 : Int32))]) (rest := [(.long ((own_pt ((own_b q1) (0 : Int32).toInt.toNat) (0 : Int32)) ||| (own_pt ((own_b q1) (1 : Int32).toInt.toNat) (1 : Int32))))]) (lenOf own_pd_1 rfl) rfl (by show 2 * 0 + _ ≤ _; exact Nat.le_of_eq rfl) (hb hby at_44) (fun _ _ => ⟨rfl, hh13, (by decide : 1 + 0 ≤ _), (by decide : 2 + 0 ≤ _)⟩)
    dsimp only [Pt.U, Pt.locs, Pt.cells, Pt.slots] at X14 l14 y14 z14 st14 hQ14
    rw [l14, y14, z14] at X14
    obtain ⟨rfl, Nq14, hh14⟩ := hQ14
    replace Nf := Fr.app Nf Nq14
    refine own_step st14 ?_
    show own_Fin _ _ _ _ _ _ _ _ (mkF m 47 #[.val (.long q1), .second, .val (.int p2), .val (.int (2 : Int32)), .val (.ref bq11), .unset, .unset, .unset, .unset] [(.long (0 : Int64)), (.long ((own_pt ((own_b q1) (0 : Int32).toInt.toNat) (0 : Int32)) ||| (own_pt ((own_b q1) (1 : Int32).toInt.toNat) (1 : Int32))))])
    refine own_step (fun t k => XS.lor X14.here hx rfl (hb hby at_47) rfl k) ?_
    show own_Fin _ _ _ _ _ _ _ _ (mkF m 48 #[.val (.long q1), .second, .val (.int p2), .val (.int (2 : Int32)), .val (.ref bq11), .unset, .unset, .unset, .unset] [(.long (((own_pt ((own_b q1) (0 : Int32).toInt.toNat) (0 : Int32)) ||| (own_pt ((own_b q1) (1 : Int32).toInt.toNat) (1 : Int32))) ||| (0 : Int64)))])
    refine own_step (fun t k => XS.aload X14.here hx rfl (hb hby at_48) rfl rfl k) ?_
    show own_Fin _ _ _ _ _ _ _ _ (mkF m 50 #[.val (.long q1), .second, .val (.int p2), .val (.int (2 : Int32)), .val (.ref bq11), .unset, .unset, .unset, .unset] [(.ref bq11), (.long (((own_pt ((own_b q1) (0 : Int32).toInt.toNat) (0 : Int32)) ||| (own_pt ((own_b q1) (1 : Int32).toInt.toNat) (1 : Int32))) ||| (0 : Int64)))])
    refine own_step (fun t k => XS.iconst X14.here hx rfl (hb hby at_50) k) ?_
    show own_Fin _ _ _ _ _ _ _ _ (mkF m 51 #[.val (.long q1), .second, .val (.int p2), .val (.int (2 : Int32)), .val (.ref bq11), .unset, .unset, .unset, .unset] [(.int (3 : Int32)), (.ref bq11), (.long (((own_pt ((own_b q1) (0 : Int32).toInt.toNat) (0 : Int32)) ||| (own_pt ((own_b q1) (1 : Int32).toInt.toNat) (1 : Int32))) ||| (0 : Int64)))])
    obtain ⟨_, _, ⟨T15, L15, k15, n15⟩, -, X15, ⟨Lc15, hQ15, l15, y15, z15⟩, st15⟩ := Jvm.LawKit.callS X14 hx (y := (⟨"com/example/kern_tablet/kerntablet/schema/IntegerHandlerLittleEndianPinLaw", "part", "([BI)J"⟩ : MethodName)) hown (mvT hZ (hw _ (List.mem_of_getElem? (i := 5) rfl))) (mvT hZ (hw _ (List.mem_of_getElem? (i := 6) rfl))) (mvT hZ (hw _ (List.mem_of_getElem? (i := 7) rfl))) (mvT hZ (hw _ (List.mem_of_getElem? (i := 8) rfl))) (by decide) (backOf (W := 2) (rm21 l Z a0 hw [] bq11 (3 : Int32) _ _ (2 : Int32) T11.heap n0 Zs V_bq11 rfl (by decide) (by decide)) hZ (hw _ (List.mem_of_getElem? (i := 8) rfl)) (hw _ (List.mem_of_getElem? (i := 7) rfl)) (by decide) (by decide)) (g := (mkF m 51 #[.val (.long q1), .second, .val (.int p2), .val (.int (2 : Int32)), .val (.ref bq11), .unset, .unset, .unset, .unset] [(.int (3 : Int32)), (.ref bq11), (.long (((own_pt ((own_b q1) (0 : Int32).toInt.toNat) (0 : Int32)) ||| (own_pt ((own_b q1) (1 : Int32).toInt.toNat) (1 : Int32))) ||| (0 : Int64)))])) rfl (by rw [hml]; rfl) (argsL := [(.ref bq11), (.int (3 : Int32))]) (rest := [(.long (((own_pt ((own_b q1) (0 : Int32).toInt.toNat) (0 : Int32)) ||| (own_pt ((own_b q1) (1 : Int32).toInt.toNat) (1 : Int32))) ||| (0 : Int64)))]) (lenOf own_pd_1 rfl) rfl (by show 2 * 0 + _ ≤ _; exact Nat.le_of_eq rfl) (hb hby at_51) (fun _ _ => ⟨rfl, hh14, (by decide : 1 + 0 ≤ _), (by decide : 2 + 0 ≤ _)⟩)
    dsimp only [Pt.U, Pt.locs, Pt.cells, Pt.slots] at X15 l15 y15 z15 st15 hQ15
    rw [l15, y15, z15] at X15
    obtain ⟨rfl, Nq15, hh15⟩ := hQ15
    replace Nf := Fr.app Nf Nq15
    refine own_step st15 ?_
    show own_Fin _ _ _ _ _ _ _ _ (mkF m 54 #[.val (.long q1), .second, .val (.int p2), .val (.int (2 : Int32)), .val (.ref bq11), .unset, .unset, .unset, .unset] [(.long (0 : Int64)), (.long (((own_pt ((own_b q1) (0 : Int32).toInt.toNat) (0 : Int32)) ||| (own_pt ((own_b q1) (1 : Int32).toInt.toNat) (1 : Int32))) ||| (0 : Int64)))])
    refine own_step (fun t k => XS.lor X15.here hx rfl (hb hby at_54) rfl k) ?_
    show own_Fin _ _ _ _ _ _ _ _ (mkF m 55 #[.val (.long q1), .second, .val (.int p2), .val (.int (2 : Int32)), .val (.ref bq11), .unset, .unset, .unset, .unset] [(.long ((((own_pt ((own_b q1) (0 : Int32).toInt.toNat) (0 : Int32)) ||| (own_pt ((own_b q1) (1 : Int32).toInt.toNat) (1 : Int32))) ||| (0 : Int64)) ||| (0 : Int64)))])
    refine own_step (fun t k => XS.aload X15.here hx rfl (hb hby at_55) rfl rfl k) ?_
    show own_Fin _ _ _ _ _ _ _ _ (mkF m 57 #[.val (.long q1), .second, .val (.int p2), .val (.int (2 : Int32)), .val (.ref bq11), .unset, .unset, .unset, .unset] [(.ref bq11), (.long ((((own_pt ((own_b q1) (0 : Int32).toInt.toNat) (0 : Int32)) ||| (own_pt ((own_b q1) (1 : Int32).toInt.toNat) (1 : Int32))) ||| (0 : Int64)) ||| (0 : Int64)))])
    refine own_step (fun t k => XS.iconst X15.here hx rfl (hb hby at_57) k) ?_
    show own_Fin _ _ _ _ _ _ _ _ (mkF m 58 #[.val (.long q1), .second, .val (.int p2), .val (.int (2 : Int32)), .val (.ref bq11), .unset, .unset, .unset, .unset] [(.int (4 : Int32)), (.ref bq11), (.long ((((own_pt ((own_b q1) (0 : Int32).toInt.toNat) (0 : Int32)) ||| (own_pt ((own_b q1) (1 : Int32).toInt.toNat) (1 : Int32))) ||| (0 : Int64)) ||| (0 : Int64)))])
    obtain ⟨_, _, ⟨T16, L16, k16, n16⟩, -, X16, ⟨Lc16, hQ16, l16, y16, z16⟩, st16⟩ := Jvm.LawKit.callS X15 hx (y := (⟨"com/example/kern_tablet/kerntablet/schema/IntegerHandlerLittleEndianPinLaw", "part", "([BI)J"⟩ : MethodName)) hown (mvT hZ (hw _ (List.mem_of_getElem? (i := 5) rfl))) (mvT hZ (hw _ (List.mem_of_getElem? (i := 6) rfl))) (mvT hZ (hw _ (List.mem_of_getElem? (i := 7) rfl))) (mvT hZ (hw _ (List.mem_of_getElem? (i := 8) rfl))) (by decide) (backOf (W := 2) (rm21 l Z a0 hw [] bq11 (4 : Int32) _ _ (2 : Int32) T11.heap n0 Zs V_bq11 rfl (by decide) (by decide)) hZ (hw _ (List.mem_of_getElem? (i := 8) rfl)) (hw _ (List.mem_of_getElem? (i := 7) rfl)) (by decide) (by decide)) (g := (mkF m 58 #[.val (.long q1), .second, .val (.int p2), .val (.int (2 : Int32)), .val (.ref bq11), .unset, .unset, .unset, .unset] [(.int (4 : Int32)), (.ref bq11), (.long ((((own_pt ((own_b q1) (0 : Int32).toInt.toNat) (0 : Int32)) ||| (own_pt ((own_b q1) (1 : Int32).toInt.toNat) (1 : Int32))) ||| (0 : Int64)) ||| (0 : Int64)))])) rfl (by rw [hml]; rfl) (argsL := [(.ref bq11), (.int (4 : Int32))]) (rest := [(.long ((((own_pt ((own_b q1) (0 : Int32).toInt.toNat) (0 : Int32)) ||| (own_pt ((own_b q1) (1 : Int32).toInt.toNat) (1 : Int32))) ||| (0 : Int64)) ||| (0 : Int64)))]) (lenOf own_pd_1 rfl) rfl (by show 2 * 0 + _ ≤ _; exact Nat.le_of_eq rfl) (hb hby at_58) (fun _ _ => ⟨rfl, hh15, (by decide : 1 + 0 ≤ _), (by decide : 2 + 0 ≤ _)⟩)
    dsimp only [Pt.U, Pt.locs, Pt.cells, Pt.slots] at X16 l16 y16 z16 st16 hQ16
    rw [l16, y16, z16] at X16
    obtain ⟨rfl, Nq16, hh16⟩ := hQ16
    replace Nf := Fr.app Nf Nq16
    refine own_step st16 ?_
    show own_Fin _ _ _ _ _ _ _ _ (mkF m 61 #[.val (.long q1), .second, .val (.int p2), .val (.int (2 : Int32)), .val (.ref bq11), .unset, .unset, .unset, .unset] [(.long (0 : Int64)), (.long ((((own_pt ((own_b q1) (0 : Int32).toInt.toNat) (0 : Int32)) ||| (own_pt ((own_b q1) (1 : Int32).toInt.toNat) (1 : Int32))) ||| (0 : Int64)) ||| (0 : Int64)))])
    refine own_step (fun t k => XS.lor X16.here hx rfl (hb hby at_61) rfl k) ?_
    show own_Fin _ _ _ _ _ _ _ _ (mkF m 62 #[.val (.long q1), .second, .val (.int p2), .val (.int (2 : Int32)), .val (.ref bq11), .unset, .unset, .unset, .unset] [(.long (((((own_pt ((own_b q1) (0 : Int32).toInt.toNat) (0 : Int32)) ||| (own_pt ((own_b q1) (1 : Int32).toInt.toNat) (1 : Int32))) ||| (0 : Int64)) ||| (0 : Int64)) ||| (0 : Int64)))])
    refine own_step (fun t k => XS.aload X16.here hx rfl (hb hby at_62) rfl rfl k) ?_
    show own_Fin _ _ _ _ _ _ _ _ (mkF m 64 #[.val (.long q1), .second, .val (.int p2), .val (.int (2 : Int32)), .val (.ref bq11), .unset, .unset, .unset, .unset] [(.ref bq11), (.long (((((own_pt ((own_b q1) (0 : Int32).toInt.toNat) (0 : Int32)) ||| (own_pt ((own_b q1) (1 : Int32).toInt.toNat) (1 : Int32))) ||| (0 : Int64)) ||| (0 : Int64)) ||| (0 : Int64)))])
    refine own_step (fun t k => XS.iconst X16.here hx rfl (hb hby at_64) k) ?_
    show own_Fin _ _ _ _ _ _ _ _ (mkF m 65 #[.val (.long q1), .second, .val (.int p2), .val (.int (2 : Int32)), .val (.ref bq11), .unset, .unset, .unset, .unset] [(.int (5 : Int32)), (.ref bq11), (.long (((((own_pt ((own_b q1) (0 : Int32).toInt.toNat) (0 : Int32)) ||| (own_pt ((own_b q1) (1 : Int32).toInt.toNat) (1 : Int32))) ||| (0 : Int64)) ||| (0 : Int64)) ||| (0 : Int64)))])
    obtain ⟨_, _, ⟨T17, L17, k17, n17⟩, -, X17, ⟨Lc17, hQ17, l17, y17, z17⟩, st17⟩ := Jvm.LawKit.callS X16 hx (y := (⟨"com/example/kern_tablet/kerntablet/schema/IntegerHandlerLittleEndianPinLaw", "part", "([BI)J"⟩ : MethodName)) hown (mvT hZ (hw _ (List.mem_of_getElem? (i := 5) rfl))) (mvT hZ (hw _ (List.mem_of_getElem? (i := 6) rfl))) (mvT hZ (hw _ (List.mem_of_getElem? (i := 7) rfl))) (mvT hZ (hw _ (List.mem_of_getElem? (i := 8) rfl))) (by decide) (backOf (W := 2) (rm21 l Z a0 hw [] bq11 (5 : Int32) _ _ (2 : Int32) T11.heap n0 Zs V_bq11 rfl (by decide) (by decide)) hZ (hw _ (List.mem_of_getElem? (i := 8) rfl)) (hw _ (List.mem_of_getElem? (i := 7) rfl)) (by decide) (by decide)) (g := (mkF m 65 #[.val (.long q1), .second, .val (.int p2), .val (.int (2 : Int32)), .val (.ref bq11), .unset, .unset, .unset, .unset] [(.int (5 : Int32)), (.ref bq11), (.long (((((own_pt ((own_b q1) (0 : Int32).toInt.toNat) (0 : Int32)) ||| (own_pt ((own_b q1) (1 : Int32).toInt.toNat) (1 : Int32))) ||| (0 : Int64)) ||| (0 : Int64)) ||| (0 : Int64)))])) rfl (by rw [hml]; rfl) (argsL := [(.ref bq11), (.int (5 : Int32))]) (rest := [(.long (((((own_pt ((own_b q1) (0 : Int32).toInt.toNat) (0 : Int32)) ||| (own_pt ((own_b q1) (1 : Int32).toInt.toNat) (1 : Int32))) ||| (0 : Int64)) ||| (0 : Int64)) ||| (0 : Int64)))]) (lenOf own_pd_1 rfl) rfl (by show 2 * 0 + _ ≤ _; exact Nat.le_of_eq rfl) (hb hby at_65) (fun _ _ => ⟨rfl, hh16, (by decide : 1 + 0 ≤ _), (by decide : 2 + 0 ≤ _)⟩)
    dsimp only [Pt.U, Pt.locs, Pt.cells, Pt.slots] at X17 l17 y17 z17 st17 hQ17
    rw [l17, y17, z17] at X17
    obtain ⟨rfl, Nq17, hh17⟩ := hQ17
    replace Nf := Fr.app Nf Nq17
    refine own_step st17 ?_
    show own_Fin _ _ _ _ _ _ _ _ (mkF m 68 #[.val (.long q1), .second, .val (.int p2), .val (.int (2 : Int32)), .val (.ref bq11), .unset, .unset, .unset, .unset] [(.long (0 : Int64)), (.long (((((own_pt ((own_b q1) (0 : Int32).toInt.toNat) (0 : Int32)) ||| (own_pt ((own_b q1) (1 : Int32).toInt.toNat) (1 : Int32))) ||| (0 : Int64)) ||| (0 : Int64)) ||| (0 : Int64)))])
    refine own_step (fun t k => XS.lor X17.here hx rfl (hb hby at_68) rfl k) ?_
    show own_Fin _ _ _ _ _ _ _ _ (mkF m 69 #[.val (.long q1), .second, .val (.int p2), .val (.int (2 : Int32)), .val (.ref bq11), .unset, .unset, .unset, .unset] [(.long ((((((own_pt ((own_b q1) (0 : Int32).toInt.toNat) (0 : Int32)) ||| (own_pt ((own_b q1) (1 : Int32).toInt.toNat) (1 : Int32))) ||| (0 : Int64)) ||| (0 : Int64)) ||| (0 : Int64)) ||| (0 : Int64)))])
    refine own_step (fun t k => XS.aload X17.here hx rfl (hb hby at_69) rfl rfl k) ?_
    show own_Fin _ _ _ _ _ _ _ _ (mkF m 71 #[.val (.long q1), .second, .val (.int p2), .val (.int (2 : Int32)), .val (.ref bq11), .unset, .unset, .unset, .unset] [(.ref bq11), (.long ((((((own_pt ((own_b q1) (0 : Int32).toInt.toNat) (0 : Int32)) ||| (own_pt ((own_b q1) (1 : Int32).toInt.toNat) (1 : Int32))) ||| (0 : Int64)) ||| (0 : Int64)) ||| (0 : Int64)) ||| (0 : Int64)))])
    refine own_step (fun t k => XS.bipush X17.here hx rfl (hb hby at_71) k) ?_
    show own_Fin _ _ _ _ _ _ _ _ (mkF m 73 #[.val (.long q1), .second, .val (.int p2), .val (.int (2 : Int32)), .val (.ref bq11), .unset, .unset, .unset, .unset] [(.int (6 : Int32)), (.ref bq11), (.long ((((((own_pt ((own_b q1) (0 : Int32).toInt.toNat) (0 : Int32)) ||| (own_pt ((own_b q1) (1 : Int32).toInt.toNat) (1 : Int32))) ||| (0 : Int64)) ||| (0 : Int64)) ||| (0 : Int64)) ||| (0 : Int64)))])
    obtain ⟨_, _, ⟨T18, L18, k18, n18⟩, -, X18, ⟨Lc18, hQ18, l18, y18, z18⟩, st18⟩ := Jvm.LawKit.callS X17 hx (y := (⟨"com/example/kern_tablet/kerntablet/schema/IntegerHandlerLittleEndianPinLaw", "part", "([BI)J"⟩ : MethodName)) hown (mvT hZ (hw _ (List.mem_of_getElem? (i := 5) rfl))) (mvT hZ (hw _ (List.mem_of_getElem? (i := 6) rfl))) (mvT hZ (hw _ (List.mem_of_getElem? (i := 7) rfl))) (mvT hZ (hw _ (List.mem_of_getElem? (i := 8) rfl))) (by decide) (backOf (W := 2) (rm21 l Z a0 hw [] bq11 (6 : Int32) _ _ (2 : Int32) T11.heap n0 Zs V_bq11 rfl (by decide) (by decide)) hZ (hw _ (List.mem_of_getElem? (i := 8) rfl)) (hw _ (List.mem_of_getElem? (i := 7) rfl)) (by decide) (by decide)) (g := (mkF m 73 #[.val (.long q1), .second, .val (.int p2), .val (.int (2 : Int32)), .val (.ref bq11), .unset, .unset, .unset, .unset] [(.int (6 : Int32)), (.ref bq11), (.long ((((((own_pt ((own_b q1) (0 : Int32).toInt.toNat) (0 : Int32)) ||| (own_pt ((own_b q1) (1 : Int32).toInt.toNat) (1 : Int32))) ||| (0 : Int64)) ||| (0 : Int64)) ||| (0 : Int64)) ||| (0 : Int64)))])) rfl (by rw [hml]; rfl) (argsL := [(.ref bq11), (.int (6 : Int32))]) (rest := [(.long ((((((own_pt ((own_b q1) (0 : Int32).toInt.toNat) (0 : Int32)) ||| (own_pt ((own_b q1) (1 : Int32).toInt.toNat) (1 : Int32))) ||| (0 : Int64)) ||| (0 : Int64)) ||| (0 : Int64)) ||| (0 : Int64)))]) (lenOf own_pd_1 rfl) rfl (by show 2 * 0 + _ ≤ _; exact Nat.le_of_eq rfl) (hb hby at_73) (fun _ _ => ⟨rfl, hh17, (by decide : 1 + 0 ≤ _), (by decide : 2 + 0 ≤ _)⟩)
    dsimp only [Pt.U, Pt.locs, Pt.cells, Pt.slots] at X18 l18 y18 z18 st18 hQ18
    rw [l18, y18, z18] at X18
    obtain ⟨rfl, Nq18, hh18⟩ := hQ18
    replace Nf := Fr.app Nf Nq18
    refine own_step st18 ?_
    show own_Fin _ _ _ _ _ _ _ _ (mkF m 76 #[.val (.long q1), .second, .val (.int p2), .val (.int (2 : Int32)), .val (.ref bq11), .unset, .unset, .unset, .unset] [(.long (0 : Int64)), (.long ((((((own_pt ((own_b q1) (0 : Int32).toInt.toNat) (0 : Int32)) ||| (own_pt ((own_b q1) (1 : Int32).toInt.toNat) (1 : Int32))) ||| (0 : Int64)) ||| (0 : Int64)) ||| (0 : Int64)) ||| (0 : Int64)))])
    refine own_step (fun t k => XS.lor X18.here hx rfl (hb hby at_76) rfl k) ?_
    show own_Fin _ _ _ _ _ _ _ _ (mkF m 77 #[.val (.long q1), .second, .val (.int p2), .val (.int (2 : Int32)), .val (.ref bq11), .unset, .unset, .unset, .unset] [(.long (((((((own_pt ((own_b q1) (0 : Int32).toInt.toNat) (0 : Int32)) ||| (own_pt ((own_b q1) (1 : Int32).toInt.toNat) (1 : Int32))) ||| (0 : Int64)) ||| (0 : Int64)) ||| (0 : Int64)) ||| (0 : Int64)) ||| (0 : Int64)))])
    refine own_step (fun t k => XS.aload X18.here hx rfl (hb hby at_77) rfl rfl k) ?_
    show own_Fin _ _ _ _ _ _ _ _ (mkF m 79 #[.val (.long q1), .second, .val (.int p2), .val (.int (2 : Int32)), .val (.ref bq11), .unset, .unset, .unset, .unset] [(.ref bq11), (.long (((((((own_pt ((own_b q1) (0 : Int32).toInt.toNat) (0 : Int32)) ||| (own_pt ((own_b q1) (1 : Int32).toInt.toNat) (1 : Int32))) ||| (0 : Int64)) ||| (0 : Int64)) ||| (0 : Int64)) ||| (0 : Int64)) ||| (0 : Int64)))])
    refine own_step (fun t k => XS.bipush X18.here hx rfl (hb hby at_79) k) ?_
    show own_Fin _ _ _ _ _ _ _ _ (mkF m 81 #[.val (.long q1), .second, .val (.int p2), .val (.int (2 : Int32)), .val (.ref bq11), .unset, .unset, .unset, .unset] [(.int (7 : Int32)), (.ref bq11), (.long (((((((own_pt ((own_b q1) (0 : Int32).toInt.toNat) (0 : Int32)) ||| (own_pt ((own_b q1) (1 : Int32).toInt.toNat) (1 : Int32))) ||| (0 : Int64)) ||| (0 : Int64)) ||| (0 : Int64)) ||| (0 : Int64)) ||| (0 : Int64)))])
    obtain ⟨_, _, ⟨T19, L19, k19, n19⟩, -, X19, ⟨Lc19, hQ19, l19, y19, z19⟩, st19⟩ := Jvm.LawKit.callS X18 hx (y := (⟨"com/example/kern_tablet/kerntablet/schema/IntegerHandlerLittleEndianPinLaw", "part", "([BI)J"⟩ : MethodName)) hown (mvT hZ (hw _ (List.mem_of_getElem? (i := 5) rfl))) (mvT hZ (hw _ (List.mem_of_getElem? (i := 6) rfl))) (mvT hZ (hw _ (List.mem_of_getElem? (i := 7) rfl))) (mvT hZ (hw _ (List.mem_of_getElem? (i := 8) rfl))) (by decide) (backOf (W := 2) (rm21 l Z a0 hw [] bq11 (7 : Int32) _ _ (2 : Int32) T11.heap n0 Zs V_bq11 rfl (by decide) (by decide)) hZ (hw _ (List.mem_of_getElem? (i := 8) rfl)) (hw _ (List.mem_of_getElem? (i := 7) rfl)) (by decide) (by decide)) (g := (mkF m 81 #[.val (.long q1), .second, .val (.int p2), .val (.int (2 : Int32)), .val (.ref bq11), .unset, .unset, .unset, .unset] [(.int (7 : Int32)), (.ref bq11), (.long (((((((own_pt ((own_b q1) (0 : Int32).toInt.toNat) (0 : Int32)) ||| (own_pt ((own_b q1) (1 : Int32).toInt.toNat) (1 : Int32))) ||| (0 : Int64)) ||| (0 : Int64)) ||| (0 : Int64)) ||| (0 : Int64)) ||| (0 : Int64)))])) rfl (by rw [hml]; rfl) (argsL := [(.ref bq11), (.int (7 : Int32))]) (rest := [(.long (((((((own_pt ((own_b q1) (0 : Int32).toInt.toNat) (0 : Int32)) ||| (own_pt ((own_b q1) (1 : Int32).toInt.toNat) (1 : Int32))) ||| (0 : Int64)) ||| (0 : Int64)) ||| (0 : Int64)) ||| (0 : Int64)) ||| (0 : Int64)))]) (lenOf own_pd_1 rfl) rfl (by show 2 * 0 + _ ≤ _; exact Nat.le_of_eq rfl) (hb hby at_81) (fun _ _ => ⟨rfl, hh18, (by decide : 1 + 0 ≤ _), (by decide : 2 + 0 ≤ _)⟩)
    dsimp only [Pt.U, Pt.locs, Pt.cells, Pt.slots] at X19 l19 y19 z19 st19 hQ19
    rw [l19, y19, z19] at X19
    obtain ⟨rfl, Nq19, hh19⟩ := hQ19
    replace Nf := Fr.app Nf Nq19
    refine own_step st19 ?_
    show own_Fin _ _ _ _ _ _ _ _ (mkF m 84 #[.val (.long q1), .second, .val (.int p2), .val (.int (2 : Int32)), .val (.ref bq11), .unset, .unset, .unset, .unset] [(.long (0 : Int64)), (.long (((((((own_pt ((own_b q1) (0 : Int32).toInt.toNat) (0 : Int32)) ||| (own_pt ((own_b q1) (1 : Int32).toInt.toNat) (1 : Int32))) ||| (0 : Int64)) ||| (0 : Int64)) ||| (0 : Int64)) ||| (0 : Int64)) ||| (0 : Int64)))])
    refine own_step (fun t k => XS.lor X19.here hx rfl (hb hby at_84) rfl k) ?_
    show own_Fin _ _ _ _ _ _ _ _ (mkF m 85 #[.val (.long q1), .second, .val (.int p2), .val (.int (2 : Int32)), .val (.ref bq11), .unset, .unset, .unset, .unset] [(.long ((((((((own_pt ((own_b q1) (0 : Int32).toInt.toNat) (0 : Int32)) ||| (own_pt ((own_b q1) (1 : Int32).toInt.toNat) (1 : Int32))) ||| (0 : Int64)) ||| (0 : Int64)) ||| (0 : Int64)) ||| (0 : Int64)) ||| (0 : Int64)) ||| (0 : Int64)))])
    refine own_step (fun t k => XS.lstore X19.here hx rfl (hb hby at_85) rfl (l' := #[.val (.long q1), .second, .val (.int p2), .val (.int (2 : Int32)), .val (.ref bq11), .val (.long ((((((((own_pt ((own_b q1) (0 : Int32).toInt.toNat) (0 : Int32)) ||| (own_pt ((own_b q1) (1 : Int32).toInt.toNat) (1 : Int32))) ||| (0 : Int64)) ||| (0 : Int64)) ||| (0 : Int64)) ||| (0 : Int64)) ||| (0 : Int64)) ||| (0 : Int64))), .second, .unset, .unset]) rfl k) ?_
    show own_Fin _ _ _ _ _ _ _ _ (mkF m 87 #[.val (.long q1), .second, .val (.int p2), .val (.int (2 : Int32)), .val (.ref bq11), .val (.long ((((((((own_pt ((own_b q1) (0 : Int32).toInt.toNat) (0 : Int32)) ||| (own_pt ((own_b q1) (1 : Int32).toInt.toNat) (1 : Int32))) ||| (0 : Int64)) ||| (0 : Int64)) ||| (0 : Int64)) ||| (0 : Int64)) ||| (0 : Int64)) ||| (0 : Int64))), .second, .unset, .unset] [])
    refine own_step (fun t k => XS.iloadN X19.here hx rfl (hb hby at_87) rfl k) ?_
    show own_Fin _ _ _ _ _ _ _ _ (mkF m 88 #[.val (.long q1), .second, .val (.int p2), .val (.int (2 : Int32)), .val (.ref bq11), .val (.long ((((((((own_pt ((own_b q1) (0 : Int32).toInt.toNat) (0 : Int32)) ||| (own_pt ((own_b q1) (1 : Int32).toInt.toNat) (1 : Int32))) ||| (0 : Int64)) ||| (0 : Int64)) ||| (0 : Int64)) ||| (0 : Int64)) ||| (0 : Int64)) ||| (0 : Int64))), .second, .unset, .unset] [(.int (2 : Int32))])
    refine own_step (fun t k => XS.bipush X19.here hx rfl (hb hby at_88) k) ?_
    show own_Fin _ _ _ _ _ _ _ _ (mkF m 90 #[.val (.long q1), .second, .val (.int p2), .val (.int (2 : Int32)), .val (.ref bq11), .val (.long ((((((((own_pt ((own_b q1) (0 : Int32).toInt.toNat) (0 : Int32)) ||| (own_pt ((own_b q1) (1 : Int32).toInt.toNat) (1 : Int32))) ||| (0 : Int64)) ||| (0 : Int64)) ||| (0 : Int64)) ||| (0 : Int64)) ||| (0 : Int64)) ||| (0 : Int64))), .second, .unset, .unset] [(.int (8 : Int32)), (.int (2 : Int32))])
    refine own_step (fun t k => XS.icmpYes X19.here hx rfl (pc0 := 90) (pc' := 99) rfl (hb hby at_90) rfl (by decide) (by decide) (by decide) k) ?_
    show own_Fin _ _ _ _ _ _ _ _ (mkF m 99 #[.val (.long q1), .second, .val (.int p2), .val (.int (2 : Int32)), .val (.ref bq11), .val (.long ((((((((own_pt ((own_b q1) (0 : Int32).toInt.toNat) (0 : Int32)) ||| (own_pt ((own_b q1) (1 : Int32).toInt.toNat) (1 : Int32))) ||| (0 : Int64)) ||| (0 : Int64)) ||| (0 : Int64)) ||| (0 : Int64)) ||| (0 : Int64)) ||| (0 : Int64))), .second, .unset, .unset] [])
    refine own_step (fun t k => XS.lconst X19.here hx rfl (hb hby at_99) k) ?_
    show own_Fin _ _ _ _ _ _ _ _ (mkF m 100 #[.val (.long q1), .second, .val (.int p2), .val (.int (2 : Int32)), .val (.ref bq11), .val (.long ((((((((own_pt ((own_b q1) (0 : Int32).toInt.toNat) (0 : Int32)) ||| (own_pt ((own_b q1) (1 : Int32).toInt.toNat) (1 : Int32))) ||| (0 : Int64)) ||| (0 : Int64)) ||| (0 : Int64)) ||| (0 : Int64)) ||| (0 : Int64)) ||| (0 : Int64))), .second, .unset, .unset] [(.long (1 : Int64))])
    refine own_step (fun t k => XS.bipush X19.here hx rfl (hb hby at_100) k) ?_
    show own_Fin _ _ _ _ _ _ _ _ (mkF m 102 #[.val (.long q1), .second, .val (.int p2), .val (.int (2 : Int32)), .val (.ref bq11), .val (.long ((((((((own_pt ((own_b q1) (0 : Int32).toInt.toNat) (0 : Int32)) ||| (own_pt ((own_b q1) (1 : Int32).toInt.toNat) (1 : Int32))) ||| (0 : Int64)) ||| (0 : Int64)) ||| (0 : Int64)) ||| (0 : Int64)) ||| (0 : Int64)) ||| (0 : Int64))), .second, .unset, .unset] [(.int (8 : Int32)), (.long (1 : Int64))])
    refine own_step (fun t k => XS.iloadN X19.here hx rfl (hb hby at_102) rfl k) ?_
    show own_Fin _ _ _ _ _ _ _ _ (mkF m 103 #[.val (.long q1), .second, .val (.int p2), .val (.int (2 : Int32)), .val (.ref bq11), .val (.long ((((((((own_pt ((own_b q1) (0 : Int32).toInt.toNat) (0 : Int32)) ||| (own_pt ((own_b q1) (1 : Int32).toInt.toNat) (1 : Int32))) ||| (0 : Int64)) ||| (0 : Int64)) ||| (0 : Int64)) ||| (0 : Int64)) ||| (0 : Int64)) ||| (0 : Int64))), .second, .unset, .unset] [(.int (2 : Int32)), (.int (8 : Int32)), (.long (1 : Int64))])
    refine own_step (fun t k => XS.imul X19.here hx rfl (hb hby at_103) rfl k) ?_
    show own_Fin _ _ _ _ _ _ _ _ (mkF m 104 #[.val (.long q1), .second, .val (.int p2), .val (.int (2 : Int32)), .val (.ref bq11), .val (.long ((((((((own_pt ((own_b q1) (0 : Int32).toInt.toNat) (0 : Int32)) ||| (own_pt ((own_b q1) (1 : Int32).toInt.toNat) (1 : Int32))) ||| (0 : Int64)) ||| (0 : Int64)) ||| (0 : Int64)) ||| (0 : Int64)) ||| (0 : Int64)) ||| (0 : Int64))), .second, .unset, .unset] [(.int (16 : Int32)), (.long (1 : Int64))])
    refine own_step (fun t k => XS.lshl X19.here hx rfl (hb hby at_104) rfl k) ?_
    show own_Fin _ _ _ _ _ _ _ _ (mkF m 105 #[.val (.long q1), .second, .val (.int p2), .val (.int (2 : Int32)), .val (.ref bq11), .val (.long ((((((((own_pt ((own_b q1) (0 : Int32).toInt.toNat) (0 : Int32)) ||| (own_pt ((own_b q1) (1 : Int32).toInt.toNat) (1 : Int32))) ||| (0 : Int64)) ||| (0 : Int64)) ||| (0 : Int64)) ||| (0 : Int64)) ||| (0 : Int64)) ||| (0 : Int64))), .second, .unset, .unset] [(.long ((1 : Int64) <<< ((16 : Int32) &&& 0x3f).toInt64))])
    refine own_step (fun t k => XS.lconst X19.here hx rfl (hb hby at_105) k) ?_
    show own_Fin _ _ _ _ _ _ _ _ (mkF m 106 #[.val (.long q1), .second, .val (.int p2), .val (.int (2 : Int32)), .val (.ref bq11), .val (.long ((((((((own_pt ((own_b q1) (0 : Int32).toInt.toNat) (0 : Int32)) ||| (own_pt ((own_b q1) (1 : Int32).toInt.toNat) (1 : Int32))) ||| (0 : Int64)) ||| (0 : Int64)) ||| (0 : Int64)) ||| (0 : Int64)) ||| (0 : Int64)) ||| (0 : Int64))), .second, .unset, .unset] [(.long (1 : Int64)), (.long ((1 : Int64) <<< ((16 : Int32) &&& 0x3f).toInt64))])
    refine own_step (fun t k => XS.lsub X19.here hx rfl (hb hby at_106) rfl k) ?_
    show own_Fin _ _ _ _ _ _ _ _ (mkF m 107 #[.val (.long q1), .second, .val (.int p2), .val (.int (2 : Int32)), .val (.ref bq11), .val (.long ((((((((own_pt ((own_b q1) (0 : Int32).toInt.toNat) (0 : Int32)) ||| (own_pt ((own_b q1) (1 : Int32).toInt.toNat) (1 : Int32))) ||| (0 : Int64)) ||| (0 : Int64)) ||| (0 : Int64)) ||| (0 : Int64)) ||| (0 : Int64)) ||| (0 : Int64))), .second, .unset, .unset] [(.long (((1 : Int64) <<< ((16 : Int32) &&& 0x3f).toInt64) - (1 : Int64)))])
    refine own_step (fun t k => XS.lstore X19.here hx rfl (hb hby at_107) rfl (l' := #[.val (.long q1), .second, .val (.int p2), .val (.int (2 : Int32)), .val (.ref bq11), .val (.long ((((((((own_pt ((own_b q1) (0 : Int32).toInt.toNat) (0 : Int32)) ||| (own_pt ((own_b q1) (1 : Int32).toInt.toNat) (1 : Int32))) ||| (0 : Int64)) ||| (0 : Int64)) ||| (0 : Int64)) ||| (0 : Int64)) ||| (0 : Int64)) ||| (0 : Int64))), .second, .val (.long (((1 : Int64) <<< ((16 : Int32) &&& 0x3f).toInt64) - (1 : Int64))), .second]) rfl k) ?_
    show own_Fin _ _ _ _ _ _ _ _ (mkF m 109 #[.val (.long q1), .second, .val (.int p2), .val (.int (2 : Int32)), .val (.ref bq11), .val (.long ((((((((own_pt ((own_b q1) (0 : Int32).toInt.toNat) (0 : Int32)) ||| (own_pt ((own_b q1) (1 : Int32).toInt.toNat) (1 : Int32))) ||| (0 : Int64)) ||| (0 : Int64)) ||| (0 : Int64)) ||| (0 : Int64)) ||| (0 : Int64)) ||| (0 : Int64))), .second, .val (.long (((1 : Int64) <<< ((16 : Int32) &&& 0x3f).toInt64) - (1 : Int64))), .second] [])
    refine own_step (fun t k => XS.lload X19.here hx rfl (hb hby at_109) rfl k) ?_
    show own_Fin _ _ _ _ _ _ _ _ (mkF m 111 #[.val (.long q1), .second, .val (.int p2), .val (.int (2 : Int32)), .val (.ref bq11), .val (.long ((((((((own_pt ((own_b q1) (0 : Int32).toInt.toNat) (0 : Int32)) ||| (own_pt ((own_b q1) (1 : Int32).toInt.toNat) (1 : Int32))) ||| (0 : Int64)) ||| (0 : Int64)) ||| (0 : Int64)) ||| (0 : Int64)) ||| (0 : Int64)) ||| (0 : Int64))), .second, .val (.long (((1 : Int64) <<< ((16 : Int32) &&& 0x3f).toInt64) - (1 : Int64))), .second] [(.long ((((((((own_pt ((own_b q1) (0 : Int32).toInt.toNat) (0 : Int32)) ||| (own_pt ((own_b q1) (1 : Int32).toInt.toNat) (1 : Int32))) ||| (0 : Int64)) ||| (0 : Int64)) ||| (0 : Int64)) ||| (0 : Int64)) ||| (0 : Int64)) ||| (0 : Int64)))])
    refine own_step (fun t k => XS.lloadN X19.here hx rfl (hb hby at_111) rfl k) ?_
    show own_Fin _ _ _ _ _ _ _ _ (mkF m 112 #[.val (.long q1), .second, .val (.int p2), .val (.int (2 : Int32)), .val (.ref bq11), .val (.long ((((((((own_pt ((own_b q1) (0 : Int32).toInt.toNat) (0 : Int32)) ||| (own_pt ((own_b q1) (1 : Int32).toInt.toNat) (1 : Int32))) ||| (0 : Int64)) ||| (0 : Int64)) ||| (0 : Int64)) ||| (0 : Int64)) ||| (0 : Int64)) ||| (0 : Int64))), .second, .val (.long (((1 : Int64) <<< ((16 : Int32) &&& 0x3f).toInt64) - (1 : Int64))), .second] [(.long q1), (.long ((((((((own_pt ((own_b q1) (0 : Int32).toInt.toNat) (0 : Int32)) ||| (own_pt ((own_b q1) (1 : Int32).toInt.toNat) (1 : Int32))) ||| (0 : Int64)) ||| (0 : Int64)) ||| (0 : Int64)) ||| (0 : Int64)) ||| (0 : Int64)) ||| (0 : Int64)))])
    refine own_step (fun t k => XS.lload X19.here hx rfl (hb hby at_112) rfl k) ?_
    show own_Fin _ _ _ _ _ _ _ _ (mkF m 114 #[.val (.long q1), .second, .val (.int p2), .val (.int (2 : Int32)), .val (.ref bq11), .val (.long ((((((((own_pt ((own_b q1) (0 : Int32).toInt.toNat) (0 : Int32)) ||| (own_pt ((own_b q1) (1 : Int32).toInt.toNat) (1 : Int32))) ||| (0 : Int64)) ||| (0 : Int64)) ||| (0 : Int64)) ||| (0 : Int64)) ||| (0 : Int64)) ||| (0 : Int64))), .second, .val (.long (((1 : Int64) <<< ((16 : Int32) &&& 0x3f).toInt64) - (1 : Int64))), .second] [(.long (((1 : Int64) <<< ((16 : Int32) &&& 0x3f).toInt64) - (1 : Int64))), (.long q1), (.long ((((((((own_pt ((own_b q1) (0 : Int32).toInt.toNat) (0 : Int32)) ||| (own_pt ((own_b q1) (1 : Int32).toInt.toNat) (1 : Int32))) ||| (0 : Int64)) ||| (0 : Int64)) ||| (0 : Int64)) ||| (0 : Int64)) ||| (0 : Int64)) ||| (0 : Int64)))])
    refine own_step (fun t k => XS.land X19.here hx rfl (hb hby at_114) rfl k) ?_
    show own_Fin _ _ _ _ _ _ _ _ (mkF m 115 #[.val (.long q1), .second, .val (.int p2), .val (.int (2 : Int32)), .val (.ref bq11), .val (.long ((((((((own_pt ((own_b q1) (0 : Int32).toInt.toNat) (0 : Int32)) ||| (own_pt ((own_b q1) (1 : Int32).toInt.toNat) (1 : Int32))) ||| (0 : Int64)) ||| (0 : Int64)) ||| (0 : Int64)) ||| (0 : Int64)) ||| (0 : Int64)) ||| (0 : Int64))), .second, .val (.long (((1 : Int64) <<< ((16 : Int32) &&& 0x3f).toInt64) - (1 : Int64))), .second] [(.long (q1 &&& (((1 : Int64) <<< ((16 : Int32) &&& 0x3f).toInt64) - (1 : Int64)))), (.long ((((((((own_pt ((own_b q1) (0 : Int32).toInt.toNat) (0 : Int32)) ||| (own_pt ((own_b q1) (1 : Int32).toInt.toNat) (1 : Int32))) ||| (0 : Int64)) ||| (0 : Int64)) ||| (0 : Int64)) ||| (0 : Int64)) ||| (0 : Int64)) ||| (0 : Int64)))])
    refine own_step (fun t k => XS.lcmp X19.here hx rfl (hb hby at_115) rfl k) ?_
    show own_Fin _ _ _ _ _ _ _ _ (mkF m 116 #[.val (.long q1), .second, .val (.int p2), .val (.int (2 : Int32)), .val (.ref bq11), .val (.long ((((((((own_pt ((own_b q1) (0 : Int32).toInt.toNat) (0 : Int32)) ||| (own_pt ((own_b q1) (1 : Int32).toInt.toNat) (1 : Int32))) ||| (0 : Int64)) ||| (0 : Int64)) ||| (0 : Int64)) ||| (0 : Int64)) ||| (0 : Int64)) ||| (0 : Int64))), .second, .val (.long (((1 : Int64) <<< ((16 : Int32) &&& 0x3f).toInt64) - (1 : Int64))), .second] [(.int (lcmpW ((((((((own_pt ((own_b q1) (0 : Int32).toInt.toNat) (0 : Int32)) ||| (own_pt ((own_b q1) (1 : Int32).toInt.toNat) (1 : Int32))) ||| (0 : Int64)) ||| (0 : Int64)) ||| (0 : Int64)) ||| (0 : Int64)) ||| (0 : Int64)) ||| (0 : Int64)) (q1 &&& (((1 : Int64) <<< ((16 : Int32) &&& 0x3f).toInt64) - (1 : Int64)))))])
    have hc20 : (((((((((own_pt ((own_b q1) (0 : Int32).toInt.toNat) (0 : Int32)) ||| (own_pt ((own_b q1) (1 : Int32).toInt.toNat) (1 : Int32))) ||| (0 : Int64)) ||| (0 : Int64)) ||| (0 : Int64)) ||| (0 : Int64)) ||| (0 : Int64)) ||| (0 : Int64))).toInt = ((q1 &&& (((1 : Int64) <<< ((16 : Int32) &&& 0x3f).toInt64) - (1 : Int64)))).toInt := congrArg Int64.toInt (own_fin2 q1)
    refine own_step (fun t k => XS.ifNo X19.here hx rfl (hb hby at_116) rfl (own_le (x := ((((((((own_pt ((own_b q1) (0 : Int32).toInt.toNat) (0 : Int32)) ||| (own_pt ((own_b q1) (1 : Int32).toInt.toNat) (1 : Int32))) ||| (0 : Int64)) ||| (0 : Int64)) ||| (0 : Int64)) ||| (0 : Int64)) ||| (0 : Int64)) ||| (0 : Int64))) (y := (q1 &&& (((1 : Int64) <<< ((16 : Int32) &&& 0x3f).toInt64) - (1 : Int64)))) rfl rfl hc20).2 k) ?_
    show own_Fin _ _ _ _ _ _ _ _ (mkF m 119 #[.val (.long q1), .second, .val (.int p2), .val (.int (2 : Int32)), .val (.ref bq11), .val (.long ((((((((own_pt ((own_b q1) (0 : Int32).toInt.toNat) (0 : Int32)) ||| (own_pt ((own_b q1) (1 : Int32).toInt.toNat) (1 : Int32))) ||| (0 : Int64)) ||| (0 : Int64)) ||| (0 : Int64)) ||| (0 : Int64)) ||| (0 : Int64)) ||| (0 : Int64))), .second, .val (.long (((1 : Int64) <<< ((16 : Int32) &&& 0x3f).toInt64) - (1 : Int64))), .second] [])
    refine own_step (fun t k => XS.iconst X19.here hx rfl (hb hby at_119) k) ?_
    show own_Fin _ _ _ _ _ _ _ _ (mkF m 120 #[.val (.long q1), .second, .val (.int p2), .val (.int (2 : Int32)), .val (.ref bq11), .val (.long ((((((((own_pt ((own_b q1) (0 : Int32).toInt.toNat) (0 : Int32)) ||| (own_pt ((own_b q1) (1 : Int32).toInt.toNat) (1 : Int32))) ||| (0 : Int64)) ||| (0 : Int64)) ||| (0 : Int64)) ||| (0 : Int64)) ||| (0 : Int64)) ||| (0 : Int64))), .second, .val (.long (((1 : Int64) <<< ((16 : Int32) &&& 0x3f).toInt64) - (1 : Int64))), .second] [(.int (1 : Int32))])
    refine own_step (fun t k => XS.goto X19.here hx rfl (pc0 := 120) (pc' := 124) rfl (hb hby at_120) (by decide) (by decide) k) ?_
    show own_Fin _ _ _ _ _ _ _ _ (mkF m 124 #[.val (.long q1), .second, .val (.int p2), .val (.int (2 : Int32)), .val (.ref bq11), .val (.long ((((((((own_pt ((own_b q1) (0 : Int32).toInt.toNat) (0 : Int32)) ||| (own_pt ((own_b q1) (1 : Int32).toInt.toNat) (1 : Int32))) ||| (0 : Int64)) ||| (0 : Int64)) ||| (0 : Int64)) ||| (0 : Int64)) ||| (0 : Int64)) ||| (0 : Int64))), .second, .val (.long (((1 : Int64) <<< ((16 : Int32) &&& 0x3f).toInt64) - (1 : Int64))), .second] [(.int (1 : Int32))])
    refine own_retZ X19 hx hlk Bd.returns (hb hby at_124) (z' := (1 : Int32)) (by decide) (by decide) (by decide) hh19 ?_
    exact ⟨rfl, Nf⟩
  · skip
    show own_Fin _ _ _ _ _ _ _ _ (mkF m 7 #[.val (.long q1), .second, .val (.int p2), .val (.int (3 : Int32)), .unset, .unset, .unset, .unset, .unset] [])
    refine own_step (fun t k => XS.lloadN X0.here hx rfl (hb hby at_7) rfl k) ?_
    show own_Fin _ _ _ _ _ _ _ _ (mkF m 8 #[.val (.long q1), .second, .val (.int p2), .val (.int (3 : Int32)), .unset, .unset, .unset, .unset, .unset] [(.long q1)])
    refine own_step (fun t k => XS.iloadN X0.here hx rfl (hb hby at_8) rfl k) ?_
    show own_Fin _ _ _ _ _ _ _ _ (mkF m 9 #[.val (.long q1), .second, .val (.int p2), .val (.int (3 : Int32)), .unset, .unset, .unset, .unset, .unset] [(.int (3 : Int32)), (.long q1)])
    obtain ⟨_, _, ⟨T21, L21, k21, n21⟩, -, X21, ⟨Lc21, hQ21, l21, y21, z21⟩, st21⟩ := Jvm.LawKit.callS X0 hx (y := (⟨"com/example/kern_tablet/kerntablet/schema/IntegerHandler", "littleEndian", "(JI)[B"⟩ : MethodName)) hown (mvT hZ (hw _ (List.mem_of_getElem? (i := 0) rfl))) (mvT hZ (hw _ (List.mem_of_getElem? (i := 1) rfl))) (mvT hZ (hw _ (List.mem_of_getElem? (i := 2) rfl))) (mvT hZ (hw _ (List.mem_of_getElem? (i := 3) rfl))) (by decide) (backOf (W := 0) (rm13 l Z a0 hw [] q1 h0 n0 Zs) hZ (hw _ (List.mem_of_getElem? (i := 3) rfl)) (hw _ (List.mem_of_getElem? (i := 2) rfl)) (by decide) (by decide)) (g := (mkF m 9 #[.val (.long q1), .second, .val (.int p2), .val (.int (3 : Int32)), .unset, .unset, .unset, .unset, .unset] [(.int (3 : Int32)), (.long q1)])) rfl (by rw [hml]; rfl) (argsL := [(.long q1), (.int (3 : Int32))]) (rest := []) (lenOf own_pd_0 rfl) rfl (by show 2 * 0 + _ ≤ _; exact Nat.le_of_eq rfl) (hb hby at_9) (fun _ _ => ⟨rfl, e0, (by decide : 0 + 1 ≤ _), (by decide : 0 + 3 ≤ _)⟩)
    dsimp only [Pt.U, Pt.locs, Pt.cells, Pt.slots] at X21 l21 y21 z21 st21 hQ21
    rw [l21, y21, z21] at X21
    obtain ⟨bq21, rfl, Nq21, Kq21, gq21, P21⟩ := hQ21
    replace Nf := Fr.app Nf Nq21
    replace Zs := Nat.le_trans Zs Kq21.1
    have V_bq21 := P21
    refine own_step st21 ?_
    show own_Fin _ _ _ _ _ _ _ _ (mkF m 12 #[.val (.long q1), .second, .val (.int p2), .val (.int (3 : Int32)), .unset, .unset, .unset, .unset, .unset] [(.ref bq21)])
    refine own_step (fun t k => XS.astore X21.here hx rfl (hb hby at_12) rfl rfl (l' := #[.val (.long q1), .second, .val (.int p2), .val (.int (3 : Int32)), .val (.ref bq21), .unset, .unset, .unset, .unset]) rfl k) ?_
    show own_Fin _ _ _ _ _ _ _ _ (mkF m 14 #[.val (.long q1), .second, .val (.int p2), .val (.int (3 : Int32)), .val (.ref bq21), .unset, .unset, .unset, .unset] [])
    refine own_step (fun t k => XS.aload X21.here hx rfl (hb hby at_14) rfl rfl k) ?_
    show own_Fin _ _ _ _ _ _ _ _ (mkF m 16 #[.val (.long q1), .second, .val (.int p2), .val (.int (3 : Int32)), .val (.ref bq21), .unset, .unset, .unset, .unset] [(.ref bq21)])
    refine own_step (fun t k => XS.ifnullNo X21.here hx rfl (hb hby at_16) rfl k) ?_
    show own_Fin _ _ _ _ _ _ _ _ (mkF m 19 #[.val (.long q1), .second, .val (.int p2), .val (.int (3 : Int32)), .val (.ref bq21), .unset, .unset, .unset, .unset] [])
    refine own_step (fun t k => XS.aload X21.here hx rfl (hb hby at_19) rfl rfl k) ?_
    show own_Fin _ _ _ _ _ _ _ _ (mkF m 21 #[.val (.long q1), .second, .val (.int p2), .val (.int (3 : Int32)), .val (.ref bq21), .unset, .unset, .unset, .unset] [(.ref bq21)])
    refine own_arrlen X21 hx hZ rfl V_bq21 (z := (3 : Int32)) rfl (hb hby at_21) rfl ?_
    show own_Fin _ _ _ _ _ _ _ _ (mkF m 22 #[.val (.long q1), .second, .val (.int p2), .val (.int (3 : Int32)), .val (.ref bq21), .unset, .unset, .unset, .unset] [(.int (3 : Int32))])
    refine own_step (fun t k => XS.iloadN X21.here hx rfl (hb hby at_22) rfl k) ?_
    show own_Fin _ _ _ _ _ _ _ _ (mkF m 23 #[.val (.long q1), .second, .val (.int p2), .val (.int (3 : Int32)), .val (.ref bq21), .unset, .unset, .unset, .unset] [(.int (3 : Int32)), (.int (3 : Int32))])
    refine own_step (fun t k => XS.icmpYes X21.here hx rfl (pc0 := 23) (pc' := 28) rfl (hb hby at_23) rfl (by decide) (by decide) (by decide) k) ?_
    show own_Fin _ _ _ _ _ _ _ _ (mkF m 28 #[.val (.long q1), .second, .val (.int p2), .val (.int (3 : Int32)), .val (.ref bq21), .unset, .unset, .unset, .unset] [])
    refine own_step (fun t k => XS.aload X21.here hx rfl (hb hby at_28) rfl rfl k) ?_
    show own_Fin _ _ _ _ _ _ _ _ (mkF m 30 #[.val (.long q1), .second, .val (.int p2), .val (.int (3 : Int32)), .val (.ref bq21), .unset, .unset, .unset, .unset] [(.ref bq21)])
    refine own_step (fun t k => XS.iconst X21.here hx rfl (hb hby at_30) k) ?_
    show own_Fin _ _ _ _ _ _ _ _ (mkF m 31 #[.val (.long q1), .second, .val (.int p2), .val (.int (3 : Int32)), .val (.ref bq21), .unset, .unset, .unset, .unset] [(.int (0 : Int32)), (.ref bq21)])
    obtain ⟨_, _, ⟨T22, L22, k22, n22⟩, -, X22, ⟨Lc22, hQ22, l22, y22, z22⟩, st22⟩ := Jvm.LawKit.callS X21 hx (y := (⟨"com/example/kern_tablet/kerntablet/schema/IntegerHandlerLittleEndianPinLaw", "part", "([BI)J"⟩ : MethodName)) hown (mvT hZ (hw _ (List.mem_of_getElem? (i := 5) rfl))) (mvT hZ (hw _ (List.mem_of_getElem? (i := 6) rfl))) (mvT hZ (hw _ (List.mem_of_getElem? (i := 7) rfl))) (mvT hZ (hw _ (List.mem_of_getElem? (i := 8) rfl))) (by decide) (backOf (W := 0) (rm20 l Z a0 hw [] bq21 (0 : Int32) _ _ (3 : Int32) T21.heap n0 Zs V_bq21 rfl (by decide) (by decide)) hZ (hw _ (List.mem_of_getElem? (i := 8) rfl)) (hw _ (List.mem_of_getElem? (i := 7) rfl)) (by decide) (by decide)) (g := (mkF m 31 #[.val (.long q1), .second, .val (.int p2), .val (.int (3 : Int32)), .val (.ref bq21), .unset, .unset, .unset, .unset] [(.int (0 : Int32)), (.ref bq21)])) rfl (by rw [hml]; rfl) (argsL := [(.ref bq21), (.int (0 : Int32))]) (rest := []) (lenOf own_pd_1 rfl) rfl (by show 2 * 0 + _ ≤ _; exact Nat.le_of_eq rfl) (hb hby at_31) (fun _ _ => ⟨rfl, rfl, (by decide : 1 + 0 ≤ _), (by decide : 3 + 0 ≤ _)⟩)
    dsimp only [Pt.U, Pt.locs, Pt.cells, Pt.slots] at X22 l22 y22 z22 st22 hQ22
    rw [l22, y22, z22] at X22
    obtain ⟨rfl, Nq22, hh22⟩ := hQ22
    replace Nf := Fr.app Nf Nq22
    refine own_step st22 ?_
    show own_Fin _ _ _ _ _ _ _ _ (mkF m 34 #[.val (.long q1), .second, .val (.int p2), .val (.int (3 : Int32)), .val (.ref bq21), .unset, .unset, .unset, .unset] [(.long (own_pt ((own_b q1) (0 : Int32).toInt.toNat) (0 : Int32)))])
    refine own_step (fun t k => XS.aload X22.here hx rfl (hb hby at_34) rfl rfl k) ?_
    show own_Fin _ _ _ _ _ _ _ _ (mkF m 36 #[.val (.long q1), .second, .val (.int p2), .val (.int (3 : Int32)), .val (.ref bq21), .unset, .unset, .unset, .unset] [(.ref bq21), (.long (own_pt ((own_b q1) (0 : Int32).toInt.toNat) (0 : Int32)))])
    refine own_step (fun t k => XS.iconst X22.here hx rfl (hb hby at_36) k) ?_
    show own_Fin _ _ _ _ _ _ _ _ (mkF m 37 #[.val (.long q1), .second, .val (.int p2), .val (.int (3 : Int32)), .val (.ref bq21), .unset, .unset, .unset, .unset] [(.int (1 : Int32)), (.ref bq21), (.long (own_pt ((own_b q1) (0 : Int32).toInt.toNat) (0 : Int32)))])
    obtain ⟨_, _, ⟨T23, L23, k23, n23⟩, -, X23, ⟨Lc23, hQ23, l23, y23, z23⟩, st23⟩ := Jvm.LawKit.callS X22 hx (y := (⟨"com/example/kern_tablet/kerntablet/schema/IntegerHandlerLittleEndianPinLaw", "part", "([BI)J"⟩ : MethodName)) hown (mvT hZ (hw _ (List.mem_of_getElem? (i := 5) rfl))) (mvT hZ (hw _ (List.mem_of_getElem? (i := 6) rfl))) (mvT hZ (hw _ (List.mem_of_getElem? (i := 7) rfl))) (mvT hZ (hw _ (List.mem_of_getElem? (i := 8) rfl))) (by decide) (backOf (W := 2) (rm20 l Z a0 hw [] bq21 (1 : Int32) _ _ (3 : Int32) T21.heap n0 Zs V_bq21 rfl (by decide) (by decide)) hZ (hw _ (List.mem_of_getElem? (i := 8) rfl)) (hw _ (List.mem_of_getElem? (i := 7) rfl)) (by decide) (by decide)) (g := (mkF m 37 #[.val (.long q1), .second, .val (.int p2), .val (.int (3 : Int32)), .val (.ref bq21), .unset, .unset, .unset, .unset] [(.int (1 : Int32)), (.ref bq21), (.long (own_pt ((own_b q1) (0 : Int32).toInt.toNat) (0 : Int32)))])) rfl (by rw [hml]; rfl) (argsL := [(.ref bq21), (.int (1 : Int32))]) (rest := [(.long (own_pt ((own_b q1) (0 : Int32).toInt.toNat) (0 : Int32)))]) (lenOf own_pd_1 rfl) rfl (by show 2 * 0 + _ ≤ _; exact Nat.le_of_eq rfl) (hb hby at_37) (fun _ _ => ⟨rfl, hh22, (by decide : 1 + 0 ≤ _), (by decide : 3 + 0 ≤ _)⟩)
    dsimp only [Pt.U, Pt.locs, Pt.cells, Pt.slots] at X23 l23 y23 z23 st23 hQ23
    rw [l23, y23, z23] at X23
    obtain ⟨rfl, Nq23, hh23⟩ := hQ23
    replace Nf := Fr.app Nf Nq23
    refine own_step st23 ?_
    show own_Fin _ _ _ _ _ _ _ _ (mkF m 40 #[.val (.long q1), .second, .val (.int p2), .val (.int (3 : Int32)), .val (.ref bq21), .unset, .unset, .unset, .unset] [(.long (own_pt ((own_b q1) (1 : Int32).toInt.toNat) (1 : Int32))), (.long (own_pt ((own_b q1) (0 : Int32).toInt.toNat) (0 : Int32)))])
    refine own_step (fun t k => XS.lor X23.here hx rfl (hb hby at_40) rfl k) ?_
    show own_Fin _ _ _ _ _ _ _ _ (mkF m 41 #[.val (.long q1), .second, .val (.int p2), .val (.int (3 : Int32)), .val (.ref bq21), .unset, .unset, .unset, .unset] [(.long ((own_pt ((own_b q1) (0 : Int32).toInt.toNat) (0 : Int32)) ||| (own_pt ((own_b q1) (1 : Int32).toInt.toNat) (1 : Int32))))])
    refine own_step (fun t k => XS.aload X23.here hx rfl (hb hby at_41) rfl rfl k) ?_
    show own_Fin _ _ _ _ _ _ _ _ (mkF m 43 #[.val (.long q1), .second, .val (.int p2), .val (.int (3 : Int32)), .val (.ref bq21), .unset, .unset, .unset, .unset] [(.ref bq21), (.long ((own_pt ((own_b q1) (0 : Int32).toInt.toNat) (0 : Int32)) ||| (own_pt ((own_b q1) (1 : Int32).toInt.toNat) (1 : Int32))))])
    refine own_step (fun t k => XS.iconst X23.here hx rfl (hb hby at_43) k) ?_
    show own_Fin _ _ _ _ _ _ _ _ (mkF m 44 #[.val (.long q1), .second, .val (.int p2), .val (.int (3 : Int32)), .val (.ref bq21), .unset, .unset, .unset, .unset] [(.int (2 : Int32)), (.ref bq21), (.long ((own_pt ((own_b q1) (0 : Int32).toInt.toNat) (0 : Int32)) ||| (own_pt ((own_b q1) (1 : Int32).toInt.toNat) (1 : Int32))))])
    obtain ⟨_, _, ⟨T24, L24, k24, n24⟩, -, X24, ⟨Lc24, hQ24, l24, y24, z24⟩, st24⟩ := Jvm.LawKit.callS X23 hx (y := (⟨"com/example/kern_tablet/kerntablet/schema/IntegerHandlerLittleEndianPinLaw", "part", "([BI)J"⟩ : MethodName)) hown (mvT hZ (hw _ (List.mem_of_getElem? (i := 5) rfl))) (mvT hZ (hw _ (List.mem_of_getElem? (i := 6) rfl))) (mvT hZ (hw _ (List.mem_of_getElem? (i := 7) rfl))) (mvT hZ (hw _ (List.mem_of_getElem? (i := 8) rfl))) (by decide) (backOf (W := 2) (rm20 l Z a0 hw [] bq21 (2 : Int32) _ _ (3 : Int32) T21.heap n0 Zs V_bq21 rfl (by decide) (by decide)) hZ (hw _ (List.mem_of_getElem? (i := 8) rfl)) (hw _ (List.mem_of_getElem? (i := 7) rfl)) (by decide) (by decide)) (g := (mkF m 44 #[.val (.long q1), .second, .val (.int p2), .val (.int (3 : Int32)), .val (.ref bq21), .unset, .unset, .unset, .unset] [(.int (2 : Int32)), (.ref bq21), (.long ((own_pt ((own_b q1) (0 : Int32).toInt.toNat) (0 : Int32)) ||| (own_pt ((own_b q1) (1 : Int32).toInt.toNat) (1 : Int32))))])) rfl (by rw [hml]; rfl) (argsL := [(.ref bq21), (.int (2 : Int32))]) (rest := [(.long ((own_pt ((own_b q1) (0 : Int32).toInt.toNat) (0 : Int32)) ||| (own_pt ((own_b q1) (1 : Int32).toInt.toNat) (1 : Int32))))]) (lenOf own_pd_1 rfl) rfl (by show 2 * 0 + _ ≤ _; exact Nat.le_of_eq rfl) (hb hby at_44) (fun _ _ => ⟨rfl, hh23, (by decide : 1 + 0 ≤ _), (by decide : 3 + 0 ≤ _)⟩)
    dsimp only [Pt.U, Pt.locs, Pt.cells, Pt.slots] at X24 l24 y24 z24 st24 hQ24
    rw [l24, y24, z24] at X24
    obtain ⟨rfl, Nq24, hh24⟩ := hQ24
    replace Nf := Fr.app Nf Nq24
    refine own_step st24 ?_
    show own_Fin _ _ _ _ _ _ _ _ (mkF m 47 #[.val (.long q1), .second, .val (.int p2), .val (.int (3 : Int32)), .val (.ref bq21), .unset, .unset, .unset, .unset] [(.long (own_pt ((own_b q1) (2 : Int32).toInt.toNat) (2 : Int32))), (.long ((own_pt ((own_b q1) (0 : Int32).toInt.toNat) (0 : Int32)) ||| (own_pt ((own_b q1) (1 : Int32).toInt.toNat) (1 : Int32))))])
    refine own_step (fun t k => XS.lor X24.here hx rfl (hb hby at_47) rfl k) ?_
    show own_Fin _ _ _ _ _ _ _ _ (mkF m 48 #[.val (.long q1), .second, .val (.int p2), .val (.int (3 : Int32)), .val (.ref bq21), .unset, .unset, .unset, .unset] [(.long (((own_pt ((own_b q1) (0 : Int32).toInt.toNat) (0 : Int32)) ||| (own_pt ((own_b q1) (1 : Int32).toInt.toNat) (1 : Int32))) ||| (own_pt ((own_b q1) (2 : Int32).toInt.toNat) (2 : Int32))))])
    refine own_step (fun t k => XS.aload X24.here hx rfl (hb hby at_48) rfl rfl k) ?_
    show own_Fin _ _ _ _ _ _ _ _ (mkF m 50 #[.val (.long q1), .second, .val (.int p2), .val (.int (3 : Int32)), .val (.ref bq21), .unset, .unset, .unset, .unset] [(.ref bq21), (.long (((own_pt ((own_b q1) (0 : Int32).toInt.toNat) (0 : Int32)) ||| (own_pt ((own_b q1) (1 : Int32).toInt.toNat) (1 : Int32))) ||| (own_pt ((own_b q1) (2 : Int32).toInt.toNat) (2 : Int32))))])
    refine own_step (fun t k => XS.iconst X24.here hx rfl (hb hby at_50) k) ?_
    show own_Fin _ _ _ _ _ _ _ _ (mkF m 51 #[.val (.long q1), .second, .val (.int p2), .val (.int (3 : Int32)), .val (.ref bq21), .unset, .unset, .unset, .unset] [(.int (3 : Int32)), (.ref bq21), (.long (((own_pt ((own_b q1) (0 : Int32).toInt.toNat) (0 : Int32)) ||| (own_pt ((own_b q1) (1 : Int32).toInt.toNat) (1 : Int32))) ||| (own_pt ((own_b q1) (2 : Int32).toInt.toNat) (2 : Int32))))])
    obtain ⟨_, _, ⟨T25, L25, k25, n25⟩, -, X25, ⟨Lc25, hQ25, l25, y25, z25⟩, st25⟩ := Jvm.LawKit.callS X24 hx (y := (⟨"com/example/kern_tablet/kerntablet/schema/IntegerHandlerLittleEndianPinLaw", "part", "([BI)J"⟩ : MethodName)) hown (mvT hZ (hw _ (List.mem_of_getElem? (i := 5) rfl))) (mvT hZ (hw _ (List.mem_of_getElem? (i := 6) rfl))) (mvT hZ (hw _ (List.mem_of_getElem? (i := 7) rfl))) (mvT hZ (hw _ (List.mem_of_getElem? (i := 8) rfl))) (by decide) (backOf (W := 2) (rm21 l Z a0 hw [] bq21 (3 : Int32) _ _ (3 : Int32) T21.heap n0 Zs V_bq21 rfl (by decide) (by decide)) hZ (hw _ (List.mem_of_getElem? (i := 8) rfl)) (hw _ (List.mem_of_getElem? (i := 7) rfl)) (by decide) (by decide)) (g := (mkF m 51 #[.val (.long q1), .second, .val (.int p2), .val (.int (3 : Int32)), .val (.ref bq21), .unset, .unset, .unset, .unset] [(.int (3 : Int32)), (.ref bq21), (.long (((own_pt ((own_b q1) (0 : Int32).toInt.toNat) (0 : Int32)) ||| (own_pt ((own_b q1) (1 : Int32).toInt.toNat) (1 : Int32))) ||| (own_pt ((own_b q1) (2 : Int32).toInt.toNat) (2 : Int32))))])) rfl (by rw [hml]; rfl) (argsL := [(.ref bq21), (.int (3 : Int32))]) (rest := [(.long (((own_pt ((own_b q1) (0 : Int32).toInt.toNat) (0 : Int32)) ||| (own_pt ((own_b q1) (1 : Int32).toInt.toNat) (1 : Int32))) ||| (own_pt ((own_b q1) (2 : Int32).toInt.toNat) (2 : Int32))))]) (lenOf own_pd_1 rfl) rfl (by show 2 * 0 + _ ≤ _; exact Nat.le_of_eq rfl) (hb hby at_51) (fun _ _ => ⟨rfl, hh24, (by decide : 1 + 0 ≤ _), (by decide : 3 + 0 ≤ _)⟩)
    dsimp only [Pt.U, Pt.locs, Pt.cells, Pt.slots] at X25 l25 y25 z25 st25 hQ25
    rw [l25, y25, z25] at X25
    obtain ⟨rfl, Nq25, hh25⟩ := hQ25
    replace Nf := Fr.app Nf Nq25
    refine own_step st25 ?_
    show own_Fin _ _ _ _ _ _ _ _ (mkF m 54 #[.val (.long q1), .second, .val (.int p2), .val (.int (3 : Int32)), .val (.ref bq21), .unset, .unset, .unset, .unset] [(.long (0 : Int64)), (.long (((own_pt ((own_b q1) (0 : Int32).toInt.toNat) (0 : Int32)) ||| (own_pt ((own_b q1) (1 : Int32).toInt.toNat) (1 : Int32))) ||| (own_pt ((own_b q1) (2 : Int32).toInt.toNat) (2 : Int32))))])
    refine own_step (fun t k => XS.lor X25.here hx rfl (hb hby at_54) rfl k) ?_
    show own_Fin _ _ _ _ _ _ _ _ (mkF m 55 #[.val (.long q1), .second, .val (.int p2), .val (.int (3 : Int32)), .val (.ref bq21), .unset, .unset, .unset, .unset] [(.long ((((own_pt ((own_b q1) (0 : Int32).toInt.toNat) (0 : Int32)) ||| (own_pt ((own_b q1) (1 : Int32).toInt.toNat) (1 : Int32))) ||| (own_pt ((own_b q1) (2 : Int32).toInt.toNat) (2 : Int32))) ||| (0 : Int64)))])
    refine own_step (fun t k => XS.aload X25.here hx rfl (hb hby at_55) rfl rfl k) ?_
    show own_Fin _ _ _ _ _ _ _ _ (mkF m 57 #[.val (.long q1), .second, .val (.int p2), .val (.int (3 : Int32)), .val (.ref bq21), .unset, .unset, .unset, .unset] [(.ref bq21), (.long ((((own_pt ((own_b q1) (0 : Int32).toInt.toNat) (0 : Int32)) ||| (own_pt ((own_b q1) (1 : Int32).toInt.toNat) (1 : Int32))) ||| (own_pt ((own_b q1) (2 : Int32).toInt.toNat) (2 : Int32))) ||| (0 : Int64)))])
    refine own_step (fun t k => XS.iconst X25.here hx rfl (hb hby at_57) k) ?_
    show own_Fin _ _ _ _ _ _ _ _ (mkF m 58 #[.val (.long q1), .second, .val (.int p2), .val (.int (3 : Int32)), .val (.ref bq21), .unset, .unset, .unset, .unset] [(.int (4 : Int32)), (.ref bq21), (.long ((((own_pt ((own_b q1) (0 : Int32).toInt.toNat) (0 : Int32)) ||| (own_pt ((own_b q1) (1 : Int32).toInt.toNat) (1 : Int32))) ||| (own_pt ((own_b q1) (2 : Int32).toInt.toNat) (2 : Int32))) ||| (0 : Int64)))])
    obtain ⟨_, _, ⟨T26, L26, k26, n26⟩, -, X26, ⟨Lc26, hQ26, l26, y26, z26⟩, st26⟩ := Jvm.LawKit.callS X25 hx (y := (⟨"com/example/kern_tablet/kerntablet/schema/IntegerHandlerLittleEndianPinLaw", "part", "([BI)J"⟩ : MethodName)) hown (mvT hZ (hw _ (List.mem_of_getElem? (i := 5) rfl))) (mvT hZ (hw _ (List.mem_of_getElem? (i := 6) rfl))) (mvT hZ (hw _ (List.mem_of_getElem? (i := 7) rfl))) (mvT hZ (hw _ (List.mem_of_getElem? (i := 8) rfl))) (by decide) (backOf (W := 2) (rm21 l Z a0 hw [] bq21 (4 : Int32) _ _ (3 : Int32) T21.heap n0 Zs V_bq21 rfl (by decide) (by decide)) hZ (hw _ (List.mem_of_getElem? (i := 8) rfl)) (hw _ (List.mem_of_getElem? (i := 7) rfl)) (by decide) (by decide)) (g := (mkF m 58 #[.val (.long q1), .second, .val (.int p2), .val (.int (3 : Int32)), .val (.ref bq21), .unset, .unset, .unset, .unset] [(.int (4 : Int32)), (.ref bq21), (.long ((((own_pt ((own_b q1) (0 : Int32).toInt.toNat) (0 : Int32)) ||| (own_pt ((own_b q1) (1 : Int32).toInt.toNat) (1 : Int32))) ||| (own_pt ((own_b q1) (2 : Int32).toInt.toNat) (2 : Int32))) ||| (0 : Int64)))])) rfl (by rw [hml]; rfl) (argsL := [(.ref bq21), (.int (4 : Int32))]) (rest := [(.long ((((own_pt ((own_b q1) (0 : Int32).toInt.toNat) (0 : Int32)) ||| (own_pt ((own_b q1) (1 : Int32).toInt.toNat) (1 : Int32))) ||| (own_pt ((own_b q1) (2 : Int32).toInt.toNat) (2 : Int32))) ||| (0 : Int64)))]) (lenOf own_pd_1 rfl) rfl (by show 2 * 0 + _ ≤ _; exact Nat.le_of_eq rfl) (hb hby at_58) (fun _ _ => ⟨rfl, hh25, (by decide : 1 + 0 ≤ _), (by decide : 3 + 0 ≤ _)⟩)
    dsimp only [Pt.U, Pt.locs, Pt.cells, Pt.slots] at X26 l26 y26 z26 st26 hQ26
    rw [l26, y26, z26] at X26
    obtain ⟨rfl, Nq26, hh26⟩ := hQ26
    replace Nf := Fr.app Nf Nq26
    refine own_step st26 ?_
    show own_Fin _ _ _ _ _ _ _ _ (mkF m 61 #[.val (.long q1), .second, .val (.int p2), .val (.int (3 : Int32)), .val (.ref bq21), .unset, .unset, .unset, .unset] [(.long (0 : Int64)), (.long ((((own_pt ((own_b q1) (0 : Int32).toInt.toNat) (0 : Int32)) ||| (own_pt ((own_b q1) (1 : Int32).toInt.toNat) (1 : Int32))) ||| (own_pt ((own_b q1) (2 : Int32).toInt.toNat) (2 : Int32))) ||| (0 : Int64)))])
    refine own_step (fun t k => XS.lor X26.here hx rfl (hb hby at_61) rfl k) ?_
    show own_Fin _ _ _ _ _ _ _ _ (mkF m 62 #[.val (.long q1), .second, .val (.int p2), .val (.int (3 : Int32)), .val (.ref bq21), .unset, .unset, .unset, .unset] [(.long (((((own_pt ((own_b q1) (0 : Int32).toInt.toNat) (0 : Int32)) ||| (own_pt ((own_b q1) (1 : Int32).toInt.toNat) (1 : Int32))) ||| (own_pt ((own_b q1) (2 : Int32).toInt.toNat) (2 : Int32))) ||| (0 : Int64)) ||| (0 : Int64)))])
    refine own_step (fun t k => XS.aload X26.here hx rfl (hb hby at_62) rfl rfl k) ?_
    show own_Fin _ _ _ _ _ _ _ _ (mkF m 64 #[.val (.long q1), .second, .val (.int p2), .val (.int (3 : Int32)), .val (.ref bq21), .unset, .unset, .unset, .unset] [(.ref bq21), (.long (((((own_pt ((own_b q1) (0 : Int32).toInt.toNat) (0 : Int32)) ||| (own_pt ((own_b q1) (1 : Int32).toInt.toNat) (1 : Int32))) ||| (own_pt ((own_b q1) (2 : Int32).toInt.toNat) (2 : Int32))) ||| (0 : Int64)) ||| (0 : Int64)))])
    refine own_step (fun t k => XS.iconst X26.here hx rfl (hb hby at_64) k) ?_
    show own_Fin _ _ _ _ _ _ _ _ (mkF m 65 #[.val (.long q1), .second, .val (.int p2), .val (.int (3 : Int32)), .val (.ref bq21), .unset, .unset, .unset, .unset] [(.int (5 : Int32)), (.ref bq21), (.long (((((own_pt ((own_b q1) (0 : Int32).toInt.toNat) (0 : Int32)) ||| (own_pt ((own_b q1) (1 : Int32).toInt.toNat) (1 : Int32))) ||| (own_pt ((own_b q1) (2 : Int32).toInt.toNat) (2 : Int32))) ||| (0 : Int64)) ||| (0 : Int64)))])
    obtain ⟨_, _, ⟨T27, L27, k27, n27⟩, -, X27, ⟨Lc27, hQ27, l27, y27, z27⟩, st27⟩ := Jvm.LawKit.callS X26 hx (y := (⟨"com/example/kern_tablet/kerntablet/schema/IntegerHandlerLittleEndianPinLaw", "part", "([BI)J"⟩ : MethodName)) hown (mvT hZ (hw _ (List.mem_of_getElem? (i := 5) rfl))) (mvT hZ (hw _ (List.mem_of_getElem? (i := 6) rfl))) (mvT hZ (hw _ (List.mem_of_getElem? (i := 7) rfl))) (mvT hZ (hw _ (List.mem_of_getElem? (i := 8) rfl))) (by decide) (backOf (W := 2) (rm21 l Z a0 hw [] bq21 (5 : Int32) _ _ (3 : Int32) T21.heap n0 Zs V_bq21 rfl (by decide) (by decide)) hZ (hw _ (List.mem_of_getElem? (i := 8) rfl)) (hw _ (List.mem_of_getElem? (i := 7) rfl)) (by decide) (by decide)) (g := (mkF m 65 #[.val (.long q1), .second, .val (.int p2), .val (.int (3 : Int32)), .val (.ref bq21), .unset, .unset, .unset, .unset] [(.int (5 : Int32)), (.ref bq21), (.long (((((own_pt ((own_b q1) (0 : Int32).toInt.toNat) (0 : Int32)) ||| (own_pt ((own_b q1) (1 : Int32).toInt.toNat) (1 : Int32))) ||| (own_pt ((own_b q1) (2 : Int32).toInt.toNat) (2 : Int32))) ||| (0 : Int64)) ||| (0 : Int64)))])) rfl (by rw [hml]; rfl) (argsL := [(.ref bq21), (.int (5 : Int32))]) (rest := [(.long (((((own_pt ((own_b q1) (0 : Int32).toInt.toNat) (0 : Int32)) ||| (own_pt ((own_b q1) (1 : Int32).toInt.toNat) (1 : Int32))) ||| (own_pt ((own_b q1) (2 : Int32).toInt.toNat) (2 : Int32))) ||| (0 : Int64)) ||| (0 : Int64)))]) (lenOf own_pd_1 rfl) rfl (by show 2 * 0 + _ ≤ _; exact Nat.le_of_eq rfl) (hb hby at_65) (fun _ _ => ⟨rfl, hh26, (by decide : 1 + 0 ≤ _), (by decide : 3 + 0 ≤ _)⟩)
    dsimp only [Pt.U, Pt.locs, Pt.cells, Pt.slots] at X27 l27 y27 z27 st27 hQ27
    rw [l27, y27, z27] at X27
    obtain ⟨rfl, Nq27, hh27⟩ := hQ27
    replace Nf := Fr.app Nf Nq27
    refine own_step st27 ?_
    show own_Fin _ _ _ _ _ _ _ _ (mkF m 68 #[.val (.long q1), .second, .val (.int p2), .val (.int (3 : Int32)), .val (.ref bq21), .unset, .unset, .unset, .unset] [(.long (0 : Int64)), (.long (((((own_pt ((own_b q1) (0 : Int32).toInt.toNat) (0 : Int32)) ||| (own_pt ((own_b q1) (1 : Int32).toInt.toNat) (1 : Int32))) ||| (own_pt ((own_b q1) (2 : Int32).toInt.toNat) (2 : Int32))) ||| (0 : Int64)) ||| (0 : Int64)))])
    refine own_step (fun t k => XS.lor X27.here hx rfl (hb hby at_68) rfl k) ?_
    show own_Fin _ _ _ _ _ _ _ _ (mkF m 69 #[.val (.long q1), .second, .val (.int p2), .val (.int (3 : Int32)), .val (.ref bq21), .unset, .unset, .unset, .unset] [(.long ((((((own_pt ((own_b q1) (0 : Int32).toInt.toNat) (0 : Int32)) ||| (own_pt ((own_b q1) (1 : Int32).toInt.toNat) (1 : Int32))) ||| (own_pt ((own_b q1) (2 : Int32).toInt.toNat) (2 : Int32))) ||| (0 : Int64)) ||| (0 : Int64)) ||| (0 : Int64)))])
    refine own_step (fun t k => XS.aload X27.here hx rfl (hb hby at_69) rfl rfl k) ?_
    show own_Fin _ _ _ _ _ _ _ _ (mkF m 71 #[.val (.long q1), .second, .val (.int p2), .val (.int (3 : Int32)), .val (.ref bq21), .unset, .unset, .unset, .unset] [(.ref bq21), (.long ((((((own_pt ((own_b q1) (0 : Int32).toInt.toNat) (0 : Int32)) ||| (own_pt ((own_b q1) (1 : Int32).toInt.toNat) (1 : Int32))) ||| (own_pt ((own_b q1) (2 : Int32).toInt.toNat) (2 : Int32))) ||| (0 : Int64)) ||| (0 : Int64)) ||| (0 : Int64)))])
    refine own_step (fun t k => XS.bipush X27.here hx rfl (hb hby at_71) k) ?_
    show own_Fin _ _ _ _ _ _ _ _ (mkF m 73 #[.val (.long q1), .second, .val (.int p2), .val (.int (3 : Int32)), .val (.ref bq21), .unset, .unset, .unset, .unset] [(.int (6 : Int32)), (.ref bq21), (.long ((((((own_pt ((own_b q1) (0 : Int32).toInt.toNat) (0 : Int32)) ||| (own_pt ((own_b q1) (1 : Int32).toInt.toNat) (1 : Int32))) ||| (own_pt ((own_b q1) (2 : Int32).toInt.toNat) (2 : Int32))) ||| (0 : Int64)) ||| (0 : Int64)) ||| (0 : Int64)))])
    obtain ⟨_, _, ⟨T28, L28, k28, n28⟩, -, X28, ⟨Lc28, hQ28, l28, y28, z28⟩, st28⟩ := Jvm.LawKit.callS X27 hx (y := (⟨"com/example/kern_tablet/kerntablet/schema/IntegerHandlerLittleEndianPinLaw", "part", "([BI)J"⟩ : MethodName)) hown (mvT hZ (hw _ (List.mem_of_getElem? (i := 5) rfl))) (mvT hZ (hw _ (List.mem_of_getElem? (i := 6) rfl))) (mvT hZ (hw _ (List.mem_of_getElem? (i := 7) rfl))) (mvT hZ (hw _ (List.mem_of_getElem? (i := 8) rfl))) (by decide) (backOf (W := 2) (rm21 l Z a0 hw [] bq21 (6 : Int32) _ _ (3 : Int32) T21.heap n0 Zs V_bq21 rfl (by decide) (by decide)) hZ (hw _ (List.mem_of_getElem? (i := 8) rfl)) (hw _ (List.mem_of_getElem? (i := 7) rfl)) (by decide) (by decide)) (g := (mkF m 73 #[.val (.long q1), .second, .val (.int p2), .val (.int (3 : Int32)), .val (.ref bq21), .unset, .unset, .unset, .unset] [(.int (6 : Int32)), (.ref bq21), (.long ((((((own_pt ((own_b q1) (0 : Int32).toInt.toNat) (0 : Int32)) ||| (own_pt ((own_b q1) (1 : Int32).toInt.toNat) (1 : Int32))) ||| (own_pt ((own_b q1) (2 : Int32).toInt.toNat) (2 : Int32))) ||| (0 : Int64)) ||| (0 : Int64)) ||| (0 : Int64)))])) rfl (by rw [hml]; rfl) (argsL := [(.ref bq21), (.int (6 : Int32))]) (rest := [(.long ((((((own_pt ((own_b q1) (0 : Int32).toInt.toNat) (0 : Int32)) ||| (own_pt ((own_b q1) (1 : Int32).toInt.toNat) (1 : Int32))) ||| (own_pt ((own_b q1) (2 : Int32).toInt.toNat) (2 : Int32))) ||| (0 : Int64)) ||| (0 : Int64)) ||| (0 : Int64)))]) (lenOf own_pd_1 rfl) rfl (by show 2 * 0 + _ ≤ _; exact Nat.le_of_eq rfl) (hb hby at_73) (fun _ _ => ⟨rfl, hh27, (by decide : 1 + 0 ≤ _), (by decide : 3 + 0 ≤ _)⟩)
    dsimp only [Pt.U, Pt.locs, Pt.cells, Pt.slots] at X28 l28 y28 z28 st28 hQ28
    rw [l28, y28, z28] at X28
    obtain ⟨rfl, Nq28, hh28⟩ := hQ28
    replace Nf := Fr.app Nf Nq28
    refine own_step st28 ?_
    show own_Fin _ _ _ _ _ _ _ _ (mkF m 76 #[.val (.long q1), .second, .val (.int p2), .val (.int (3 : Int32)), .val (.ref bq21), .unset, .unset, .unset, .unset] [(.long (0 : Int64)), (.long ((((((own_pt ((own_b q1) (0 : Int32).toInt.toNat) (0 : Int32)) ||| (own_pt ((own_b q1) (1 : Int32).toInt.toNat) (1 : Int32))) ||| (own_pt ((own_b q1) (2 : Int32).toInt.toNat) (2 : Int32))) ||| (0 : Int64)) ||| (0 : Int64)) ||| (0 : Int64)))])
    refine own_step (fun t k => XS.lor X28.here hx rfl (hb hby at_76) rfl k) ?_
    show own_Fin _ _ _ _ _ _ _ _ (mkF m 77 #[.val (.long q1), .second, .val (.int p2), .val (.int (3 : Int32)), .val (.ref bq21), .unset, .unset, .unset, .unset] [(.long (((((((own_pt ((own_b q1) (0 : Int32).toInt.toNat) (0 : Int32)) ||| (own_pt ((own_b q1) (1 : Int32).toInt.toNat) (1 : Int32))) ||| (own_pt ((own_b q1) (2 : Int32).toInt.toNat) (2 : Int32))) ||| (0 : Int64)) ||| (0 : Int64)) ||| (0 : Int64)) ||| (0 : Int64)))])
    refine own_step (fun t k => XS.aload X28.here hx rfl (hb hby at_77) rfl rfl k) ?_
    show own_Fin _ _ _ _ _ _ _ _ (mkF m 79 #[.val (.long q1), .second, .val (.int p2), .val (.int (3 : Int32)), .val (.ref bq21), .unset, .unset, .unset, .unset] [(.ref bq21), (.long (((((((own_pt ((own_b q1) (0 : Int32).toInt.toNat) (0 : Int32)) ||| (own_pt ((own_b q1) (1 : Int32).toInt.toNat) (1 : Int32))) ||| (own_pt ((own_b q1) (2 : Int32).toInt.toNat) (2 : Int32))) ||| (0 : Int64)) ||| (0 : Int64)) ||| (0 : Int64)) ||| (0 : Int64)))])
    refine own_step (fun t k => XS.bipush X28.here hx rfl (hb hby at_79) k) ?_
    show own_Fin _ _ _ _ _ _ _ _ (mkF m 81 #[.val (.long q1), .second, .val (.int p2), .val (.int (3 : Int32)), .val (.ref bq21), .unset, .unset, .unset, .unset] [(.int (7 : Int32)), (.ref bq21), (.long (((((((own_pt ((own_b q1) (0 : Int32).toInt.toNat) (0 : Int32)) ||| (own_pt ((own_b q1) (1 : Int32).toInt.toNat) (1 : Int32))) ||| (own_pt ((own_b q1) (2 : Int32).toInt.toNat) (2 : Int32))) ||| (0 : Int64)) ||| (0 : Int64)) ||| (0 : Int64)) ||| (0 : Int64)))])
    obtain ⟨_, _, ⟨T29, L29, k29, n29⟩, -, X29, ⟨Lc29, hQ29, l29, y29, z29⟩, st29⟩ := Jvm.LawKit.callS X28 hx (y := (⟨"com/example/kern_tablet/kerntablet/schema/IntegerHandlerLittleEndianPinLaw", "part", "([BI)J"⟩ : MethodName)) hown (mvT hZ (hw _ (List.mem_of_getElem? (i := 5) rfl))) (mvT hZ (hw _ (List.mem_of_getElem? (i := 6) rfl))) (mvT hZ (hw _ (List.mem_of_getElem? (i := 7) rfl))) (mvT hZ (hw _ (List.mem_of_getElem? (i := 8) rfl))) (by decide) (backOf (W := 2) (rm21 l Z a0 hw [] bq21 (7 : Int32) _ _ (3 : Int32) T21.heap n0 Zs V_bq21 rfl (by decide) (by decide)) hZ (hw _ (List.mem_of_getElem? (i := 8) rfl)) (hw _ (List.mem_of_getElem? (i := 7) rfl)) (by decide) (by decide)) (g := (mkF m 81 #[.val (.long q1), .second, .val (.int p2), .val (.int (3 : Int32)), .val (.ref bq21), .unset, .unset, .unset, .unset] [(.int (7 : Int32)), (.ref bq21), (.long (((((((own_pt ((own_b q1) (0 : Int32).toInt.toNat) (0 : Int32)) ||| (own_pt ((own_b q1) (1 : Int32).toInt.toNat) (1 : Int32))) ||| (own_pt ((own_b q1) (2 : Int32).toInt.toNat) (2 : Int32))) ||| (0 : Int64)) ||| (0 : Int64)) ||| (0 : Int64)) ||| (0 : Int64)))])) rfl (by rw [hml]; rfl) (argsL := [(.ref bq21), (.int (7 : Int32))]) (rest := [(.long (((((((own_pt ((own_b q1) (0 : Int32).toInt.toNat) (0 : Int32)) ||| (own_pt ((own_b q1) (1 : Int32).toInt.toNat) (1 : Int32))) ||| (own_pt ((own_b q1) (2 : Int32).toInt.toNat) (2 : Int32))) ||| (0 : Int64)) ||| (0 : Int64)) ||| (0 : Int64)) ||| (0 : Int64)))]) (lenOf own_pd_1 rfl) rfl (by show 2 * 0 + _ ≤ _; exact Nat.le_of_eq rfl) (hb hby at_81) (fun _ _ => ⟨rfl, hh28, (by decide : 1 + 0 ≤ _), (by decide : 3 + 0 ≤ _)⟩)
    dsimp only [Pt.U, Pt.locs, Pt.cells, Pt.slots] at X29 l29 y29 z29 st29 hQ29
    rw [l29, y29, z29] at X29
    obtain ⟨rfl, Nq29, hh29⟩ := hQ29
    replace Nf := Fr.app Nf Nq29
    refine own_step st29 ?_
    show own_Fin _ _ _ _ _ _ _ _ (mkF m 84 #[.val (.long q1), .second, .val (.int p2), .val (.int (3 : Int32)), .val (.ref bq21), .unset, .unset, .unset, .unset] [(.long (0 : Int64)), (.long (((((((own_pt ((own_b q1) (0 : Int32).toInt.toNat) (0 : Int32)) ||| (own_pt ((own_b q1) (1 : Int32).toInt.toNat) (1 : Int32))) ||| (own_pt ((own_b q1) (2 : Int32).toInt.toNat) (2 : Int32))) ||| (0 : Int64)) ||| (0 : Int64)) ||| (0 : Int64)) ||| (0 : Int64)))])
    refine own_step (fun t k => XS.lor X29.here hx rfl (hb hby at_84) rfl k) ?_
    show own_Fin _ _ _ _ _ _ _ _ (mkF m 85 #[.val (.long q1), .second, .val (.int p2), .val (.int (3 : Int32)), .val (.ref bq21), .unset, .unset, .unset, .unset] [(.long ((((((((own_pt ((own_b q1) (0 : Int32).toInt.toNat) (0 : Int32)) ||| (own_pt ((own_b q1) (1 : Int32).toInt.toNat) (1 : Int32))) ||| (own_pt ((own_b q1) (2 : Int32).toInt.toNat) (2 : Int32))) ||| (0 : Int64)) ||| (0 : Int64)) ||| (0 : Int64)) ||| (0 : Int64)) ||| (0 : Int64)))])
    refine own_step (fun t k => XS.lstore X29.here hx rfl (hb hby at_85) rfl (l' := #[.val (.long q1), .second, .val (.int p2), .val (.int (3 : Int32)), .val (.ref bq21), .val (.long ((((((((own_pt ((own_b q1) (0 : Int32).toInt.toNat) (0 : Int32)) ||| (own_pt ((own_b q1) (1 : Int32).toInt.toNat) (1 : Int32))) ||| (own_pt ((own_b q1) (2 : Int32).toInt.toNat) (2 : Int32))) ||| (0 : Int64)) ||| (0 : Int64)) ||| (0 : Int64)) ||| (0 : Int64)) ||| (0 : Int64))), .second, .unset, .unset]) rfl k) ?_
    show own_Fin _ _ _ _ _ _ _ _ (mkF m 87 #[.val (.long q1), .second, .val (.int p2), .val (.int (3 : Int32)), .val (.ref bq21), .val (.long ((((((((own_pt ((own_b q1) (0 : Int32).toInt.toNat) (0 : Int32)) ||| (own_pt ((own_b q1) (1 : Int32).toInt.toNat) (1 : Int32))) ||| (own_pt ((own_b q1) (2 : Int32).toInt.toNat) (2 : Int32))) ||| (0 : Int64)) ||| (0 : Int64)) ||| (0 : Int64)) ||| (0 : Int64)) ||| (0 : Int64))), .second, .unset, .unset] [])
    refine own_step (fun t k => XS.iloadN X29.here hx rfl (hb hby at_87) rfl k) ?_
    show own_Fin _ _ _ _ _ _ _ _ (mkF m 88 #[.val (.long q1), .second, .val (.int p2), .val (.int (3 : Int32)), .val (.ref bq21), .val (.long ((((((((own_pt ((own_b q1) (0 : Int32).toInt.toNat) (0 : Int32)) ||| (own_pt ((own_b q1) (1 : Int32).toInt.toNat) (1 : Int32))) ||| (own_pt ((own_b q1) (2 : Int32).toInt.toNat) (2 : Int32))) ||| (0 : Int64)) ||| (0 : Int64)) ||| (0 : Int64)) ||| (0 : Int64)) ||| (0 : Int64))), .second, .unset, .unset] [(.int (3 : Int32))])
    refine own_step (fun t k => XS.bipush X29.here hx rfl (hb hby at_88) k) ?_
    show own_Fin _ _ _ _ _ _ _ _ (mkF m 90 #[.val (.long q1), .second, .val (.int p2), .val (.int (3 : Int32)), .val (.ref bq21), .val (.long ((((((((own_pt ((own_b q1) (0 : Int32).toInt.toNat) (0 : Int32)) ||| (own_pt ((own_b q1) (1 : Int32).toInt.toNat) (1 : Int32))) ||| (own_pt ((own_b q1) (2 : Int32).toInt.toNat) (2 : Int32))) ||| (0 : Int64)) ||| (0 : Int64)) ||| (0 : Int64)) ||| (0 : Int64)) ||| (0 : Int64))), .second, .unset, .unset] [(.int (8 : Int32)), (.int (3 : Int32))])
    refine own_step (fun t k => XS.icmpYes X29.here hx rfl (pc0 := 90) (pc' := 99) rfl (hb hby at_90) rfl (by decide) (by decide) (by decide) k) ?_
    show own_Fin _ _ _ _ _ _ _ _ (mkF m 99 #[.val (.long q1), .second, .val (.int p2), .val (.int (3 : Int32)), .val (.ref bq21), .val (.long ((((((((own_pt ((own_b q1) (0 : Int32).toInt.toNat) (0 : Int32)) ||| (own_pt ((own_b q1) (1 : Int32).toInt.toNat) (1 : Int32))) ||| (own_pt ((own_b q1) (2 : Int32).toInt.toNat) (2 : Int32))) ||| (0 : Int64)) ||| (0 : Int64)) ||| (0 : Int64)) ||| (0 : Int64)) ||| (0 : Int64))), .second, .unset, .unset] [])
    refine own_step (fun t k => XS.lconst X29.here hx rfl (hb hby at_99) k) ?_
    show own_Fin _ _ _ _ _ _ _ _ (mkF m 100 #[.val (.long q1), .second, .val (.int p2), .val (.int (3 : Int32)), .val (.ref bq21), .val (.long ((((((((own_pt ((own_b q1) (0 : Int32).toInt.toNat) (0 : Int32)) ||| (own_pt ((own_b q1) (1 : Int32).toInt.toNat) (1 : Int32))) ||| (own_pt ((own_b q1) (2 : Int32).toInt.toNat) (2 : Int32))) ||| (0 : Int64)) ||| (0 : Int64)) ||| (0 : Int64)) ||| (0 : Int64)) ||| (0 : Int64))), .second, .unset, .unset] [(.long (1 : Int64))])
    refine own_step (fun t k => XS.bipush X29.here hx rfl (hb hby at_100) k) ?_
    show own_Fin _ _ _ _ _ _ _ _ (mkF m 102 #[.val (.long q1), .second, .val (.int p2), .val (.int (3 : Int32)), .val (.ref bq21), .val (.long ((((((((own_pt ((own_b q1) (0 : Int32).toInt.toNat) (0 : Int32)) ||| (own_pt ((own_b q1) (1 : Int32).toInt.toNat) (1 : Int32))) ||| (own_pt ((own_b q1) (2 : Int32).toInt.toNat) (2 : Int32))) ||| (0 : Int64)) ||| (0 : Int64)) ||| (0 : Int64)) ||| (0 : Int64)) ||| (0 : Int64))), .second, .unset, .unset] [(.int (8 : Int32)), (.long (1 : Int64))])
    refine own_step (fun t k => XS.iloadN X29.here hx rfl (hb hby at_102) rfl k) ?_
    show own_Fin _ _ _ _ _ _ _ _ (mkF m 103 #[.val (.long q1), .second, .val (.int p2), .val (.int (3 : Int32)), .val (.ref bq21), .val (.long ((((((((own_pt ((own_b q1) (0 : Int32).toInt.toNat) (0 : Int32)) ||| (own_pt ((own_b q1) (1 : Int32).toInt.toNat) (1 : Int32))) ||| (own_pt ((own_b q1) (2 : Int32).toInt.toNat) (2 : Int32))) ||| (0 : Int64)) ||| (0 : Int64)) ||| (0 : Int64)) ||| (0 : Int64)) ||| (0 : Int64))), .second, .unset, .unset] [(.int (3 : Int32)), (.int (8 : Int32)), (.long (1 : Int64))])
    refine own_step (fun t k => XS.imul X29.here hx rfl (hb hby at_103) rfl k) ?_
    show own_Fin _ _ _ _ _ _ _ _ (mkF m 104 #[.val (.long q1), .second, .val (.int p2), .val (.int (3 : Int32)), .val (.ref bq21), .val (.long ((((((((own_pt ((own_b q1) (0 : Int32).toInt.toNat) (0 : Int32)) ||| (own_pt ((own_b q1) (1 : Int32).toInt.toNat) (1 : Int32))) ||| (own_pt ((own_b q1) (2 : Int32).toInt.toNat) (2 : Int32))) ||| (0 : Int64)) ||| (0 : Int64)) ||| (0 : Int64)) ||| (0 : Int64)) ||| (0 : Int64))), .second, .unset, .unset] [(.int (24 : Int32)), (.long (1 : Int64))])
    refine own_step (fun t k => XS.lshl X29.here hx rfl (hb hby at_104) rfl k) ?_
    show own_Fin _ _ _ _ _ _ _ _ (mkF m 105 #[.val (.long q1), .second, .val (.int p2), .val (.int (3 : Int32)), .val (.ref bq21), .val (.long ((((((((own_pt ((own_b q1) (0 : Int32).toInt.toNat) (0 : Int32)) ||| (own_pt ((own_b q1) (1 : Int32).toInt.toNat) (1 : Int32))) ||| (own_pt ((own_b q1) (2 : Int32).toInt.toNat) (2 : Int32))) ||| (0 : Int64)) ||| (0 : Int64)) ||| (0 : Int64)) ||| (0 : Int64)) ||| (0 : Int64))), .second, .unset, .unset] [(.long ((1 : Int64) <<< ((24 : Int32) &&& 0x3f).toInt64))])
    refine own_step (fun t k => XS.lconst X29.here hx rfl (hb hby at_105) k) ?_
    show own_Fin _ _ _ _ _ _ _ _ (mkF m 106 #[.val (.long q1), .second, .val (.int p2), .val (.int (3 : Int32)), .val (.ref bq21), .val (.long ((((((((own_pt ((own_b q1) (0 : Int32).toInt.toNat) (0 : Int32)) ||| (own_pt ((own_b q1) (1 : Int32).toInt.toNat) (1 : Int32))) ||| (own_pt ((own_b q1) (2 : Int32).toInt.toNat) (2 : Int32))) ||| (0 : Int64)) ||| (0 : Int64)) ||| (0 : Int64)) ||| (0 : Int64)) ||| (0 : Int64))), .second, .unset, .unset] [(.long (1 : Int64)), (.long ((1 : Int64) <<< ((24 : Int32) &&& 0x3f).toInt64))])
    refine own_step (fun t k => XS.lsub X29.here hx rfl (hb hby at_106) rfl k) ?_
    show own_Fin _ _ _ _ _ _ _ _ (mkF m 107 #[.val (.long q1), .second, .val (.int p2), .val (.int (3 : Int32)), .val (.ref bq21), .val (.long ((((((((own_pt ((own_b q1) (0 : Int32).toInt.toNat) (0 : Int32)) ||| (own_pt ((own_b q1) (1 : Int32).toInt.toNat) (1 : Int32))) ||| (own_pt ((own_b q1) (2 : Int32).toInt.toNat) (2 : Int32))) ||| (0 : Int64)) ||| (0 : Int64)) ||| (0 : Int64)) ||| (0 : Int64)) ||| (0 : Int64))), .second, .unset, .unset] [(.long (((1 : Int64) <<< ((24 : Int32) &&& 0x3f).toInt64) - (1 : Int64)))])
    refine own_step (fun t k => XS.lstore X29.here hx rfl (hb hby at_107) rfl (l' := #[.val (.long q1), .second, .val (.int p2), .val (.int (3 : Int32)), .val (.ref bq21), .val (.long ((((((((own_pt ((own_b q1) (0 : Int32).toInt.toNat) (0 : Int32)) ||| (own_pt ((own_b q1) (1 : Int32).toInt.toNat) (1 : Int32))) ||| (own_pt ((own_b q1) (2 : Int32).toInt.toNat) (2 : Int32))) ||| (0 : Int64)) ||| (0 : Int64)) ||| (0 : Int64)) ||| (0 : Int64)) ||| (0 : Int64))), .second, .val (.long (((1 : Int64) <<< ((24 : Int32) &&& 0x3f).toInt64) - (1 : Int64))), .second]) rfl k) ?_
    show own_Fin _ _ _ _ _ _ _ _ (mkF m 109 #[.val (.long q1), .second, .val (.int p2), .val (.int (3 : Int32)), .val (.ref bq21), .val (.long ((((((((own_pt ((own_b q1) (0 : Int32).toInt.toNat) (0 : Int32)) ||| (own_pt ((own_b q1) (1 : Int32).toInt.toNat) (1 : Int32))) ||| (own_pt ((own_b q1) (2 : Int32).toInt.toNat) (2 : Int32))) ||| (0 : Int64)) ||| (0 : Int64)) ||| (0 : Int64)) ||| (0 : Int64)) ||| (0 : Int64))), .second, .val (.long (((1 : Int64) <<< ((24 : Int32) &&& 0x3f).toInt64) - (1 : Int64))), .second] [])
    refine own_step (fun t k => XS.lload X29.here hx rfl (hb hby at_109) rfl k) ?_
    show own_Fin _ _ _ _ _ _ _ _ (mkF m 111 #[.val (.long q1), .second, .val (.int p2), .val (.int (3 : Int32)), .val (.ref bq21), .val (.long ((((((((own_pt ((own_b q1) (0 : Int32).toInt.toNat) (0 : Int32)) ||| (own_pt ((own_b q1) (1 : Int32).toInt.toNat) (1 : Int32))) ||| (own_pt ((own_b q1) (2 : Int32).toInt.toNat) (2 : Int32))) ||| (0 : Int64)) ||| (0 : Int64)) ||| (0 : Int64)) ||| (0 : Int64)) ||| (0 : Int64))), .second, .val (.long (((1 : Int64) <<< ((24 : Int32) &&& 0x3f).toInt64) - (1 : Int64))), .second] [(.long ((((((((own_pt ((own_b q1) (0 : Int32).toInt.toNat) (0 : Int32)) ||| (own_pt ((own_b q1) (1 : Int32).toInt.toNat) (1 : Int32))) ||| (own_pt ((own_b q1) (2 : Int32).toInt.toNat) (2 : Int32))) ||| (0 : Int64)) ||| (0 : Int64)) ||| (0 : Int64)) ||| (0 : Int64)) ||| (0 : Int64)))])
    refine own_step (fun t k => XS.lloadN X29.here hx rfl (hb hby at_111) rfl k) ?_
    show own_Fin _ _ _ _ _ _ _ _ (mkF m 112 #[.val (.long q1), .second, .val (.int p2), .val (.int (3 : Int32)), .val (.ref bq21), .val (.long ((((((((own_pt ((own_b q1) (0 : Int32).toInt.toNat) (0 : Int32)) ||| (own_pt ((own_b q1) (1 : Int32).toInt.toNat) (1 : Int32))) ||| (own_pt ((own_b q1) (2 : Int32).toInt.toNat) (2 : Int32))) ||| (0 : Int64)) ||| (0 : Int64)) ||| (0 : Int64)) ||| (0 : Int64)) ||| (0 : Int64))), .second, .val (.long (((1 : Int64) <<< ((24 : Int32) &&& 0x3f).toInt64) - (1 : Int64))), .second] [(.long q1), (.long ((((((((own_pt ((own_b q1) (0 : Int32).toInt.toNat) (0 : Int32)) ||| (own_pt ((own_b q1) (1 : Int32).toInt.toNat) (1 : Int32))) ||| (own_pt ((own_b q1) (2 : Int32).toInt.toNat) (2 : Int32))) ||| (0 : Int64)) ||| (0 : Int64)) ||| (0 : Int64)) ||| (0 : Int64)) ||| (0 : Int64)))])
    refine own_step (fun t k => XS.lload X29.here hx rfl (hb hby at_112) rfl k) ?_
    show own_Fin _ _ _ _ _ _ _ _ (mkF m 114 #[.val (.long q1), .second, .val (.int p2), .val (.int (3 : Int32)), .val (.ref bq21), .val (.long ((((((((own_pt ((own_b q1) (0 : Int32).toInt.toNat) (0 : Int32)) ||| (own_pt ((own_b q1) (1 : Int32).toInt.toNat) (1 : Int32))) ||| (own_pt ((own_b q1) (2 : Int32).toInt.toNat) (2 : Int32))) ||| (0 : Int64)) ||| (0 : Int64)) ||| (0 : Int64)) ||| (0 : Int64)) ||| (0 : Int64))), .second, .val (.long (((1 : Int64) <<< ((24 : Int32) &&& 0x3f).toInt64) - (1 : Int64))), .second] [(.long (((1 : Int64) <<< ((24 : Int32) &&& 0x3f).toInt64) - (1 : Int64))), (.long q1), (.long ((((((((own_pt ((own_b q1) (0 : Int32).toInt.toNat) (0 : Int32)) ||| (own_pt ((own_b q1) (1 : Int32).toInt.toNat) (1 : Int32))) ||| (own_pt ((own_b q1) (2 : Int32).toInt.toNat) (2 : Int32))) ||| (0 : Int64)) ||| (0 : Int64)) ||| (0 : Int64)) ||| (0 : Int64)) ||| (0 : Int64)))])
    refine own_step (fun t k => XS.land X29.here hx rfl (hb hby at_114) rfl k) ?_
    show own_Fin _ _ _ _ _ _ _ _ (mkF m 115 #[.val (.long q1), .second, .val (.int p2), .val (.int (3 : Int32)), .val (.ref bq21), .val (.long ((((((((own_pt ((own_b q1) (0 : Int32).toInt.toNat) (0 : Int32)) ||| (own_pt ((own_b q1) (1 : Int32).toInt.toNat) (1 : Int32))) ||| (own_pt ((own_b q1) (2 : Int32).toInt.toNat) (2 : Int32))) ||| (0 : Int64)) ||| (0 : Int64)) ||| (0 : Int64)) ||| (0 : Int64)) ||| (0 : Int64))), .second, .val (.long (((1 : Int64) <<< ((24 : Int32) &&& 0x3f).toInt64) - (1 : Int64))), .second] [(.long (q1 &&& (((1 : Int64) <<< ((24 : Int32) &&& 0x3f).toInt64) - (1 : Int64)))), (.long ((((((((own_pt ((own_b q1) (0 : Int32).toInt.toNat) (0 : Int32)) ||| (own_pt ((own_b q1) (1 : Int32).toInt.toNat) (1 : Int32))) ||| (own_pt ((own_b q1) (2 : Int32).toInt.toNat) (2 : Int32))) ||| (0 : Int64)) ||| (0 : Int64)) ||| (0 : Int64)) ||| (0 : Int64)) ||| (0 : Int64)))])
    refine own_step (fun t k => XS.lcmp X29.here hx rfl (hb hby at_115) rfl k) ?_
    show own_Fin _ _ _ _ _ _ _ _ (mkF m 116 #[.val (.long q1), .second, .val (.int p2), .val (.int (3 : Int32)), .val (.ref bq21), .val (.long ((((((((own_pt ((own_b q1) (0 : Int32).toInt.toNat) (0 : Int32)) ||| (own_pt ((own_b q1) (1 : Int32).toInt.toNat) (1 : Int32))) ||| (own_pt ((own_b q1) (2 : Int32).toInt.toNat) (2 : Int32))) ||| (0 : Int64)) ||| (0 : Int64)) ||| (0 : Int64)) ||| (0 : Int64)) ||| (0 : Int64))), .second, .val (.long (((1 : Int64) <<< ((24 : Int32) &&& 0x3f).toInt64) - (1 : Int64))), .second] [(.int (lcmpW ((((((((own_pt ((own_b q1) (0 : Int32).toInt.toNat) (0 : Int32)) ||| (own_pt ((own_b q1) (1 : Int32).toInt.toNat) (1 : Int32))) ||| (own_pt ((own_b q1) (2 : Int32).toInt.toNat) (2 : Int32))) ||| (0 : Int64)) ||| (0 : Int64)) ||| (0 : Int64)) ||| (0 : Int64)) ||| (0 : Int64)) (q1 &&& (((1 : Int64) <<< ((24 : Int32) &&& 0x3f).toInt64) - (1 : Int64)))))])
    have hc30 : (((((((((own_pt ((own_b q1) (0 : Int32).toInt.toNat) (0 : Int32)) ||| (own_pt ((own_b q1) (1 : Int32).toInt.toNat) (1 : Int32))) ||| (own_pt ((own_b q1) (2 : Int32).toInt.toNat) (2 : Int32))) ||| (0 : Int64)) ||| (0 : Int64)) ||| (0 : Int64)) ||| (0 : Int64)) ||| (0 : Int64))).toInt = ((q1 &&& (((1 : Int64) <<< ((24 : Int32) &&& 0x3f).toInt64) - (1 : Int64)))).toInt := congrArg Int64.toInt (own_fin3 q1)
    refine own_step (fun t k => XS.ifNo X29.here hx rfl (hb hby at_116) rfl (own_le (x := ((((((((own_pt ((own_b q1) (0 : Int32).toInt.toNat) (0 : Int32)) ||| (own_pt ((own_b q1) (1 : Int32).toInt.toNat) (1 : Int32))) ||| (own_pt ((own_b q1) (2 : Int32).toInt.toNat) (2 : Int32))) ||| (0 : Int64)) ||| (0 : Int64)) ||| (0 : Int64)) ||| (0 : Int64)) ||| (0 : Int64))) (y := (q1 &&& (((1 : Int64) <<< ((24 : Int32) &&& 0x3f).toInt64) - (1 : Int64)))) rfl rfl hc30).2 k) ?_
    show own_Fin _ _ _ _ _ _ _ _ (mkF m 119 #[.val (.long q1), .second, .val (.int p2), .val (.int (3 : Int32)), .val (.ref bq21), .val (.long ((((((((own_pt ((own_b q1) (0 : Int32).toInt.toNat) (0 : Int32)) ||| (own_pt ((own_b q1) (1 : Int32).toInt.toNat) (1 : Int32))) ||| (own_pt ((own_b q1) (2 : Int32).toInt.toNat) (2 : Int32))) ||| (0 : Int64)) ||| (0 : Int64)) ||| (0 : Int64)) ||| (0 : Int64)) ||| (0 : Int64))), .second, .val (.long (((1 : Int64) <<< ((24 : Int32) &&& 0x3f).toInt64) - (1 : Int64))), .second] [])
    refine own_step (fun t k => XS.iconst X29.here hx rfl (hb hby at_119) k) ?_
    show own_Fin _ _ _ _ _ _ _ _ (mkF m 120 #[.val (.long q1), .second, .val (.int p2), .val (.int (3 : Int32)), .val (.ref bq21), .val (.long ((((((((own_pt ((own_b q1) (0 : Int32).toInt.toNat) (0 : Int32)) ||| (own_pt ((own_b q1) (1 : Int32).toInt.toNat) (1 : Int32))) ||| (own_pt ((own_b q1) (2 : Int32).toInt.toNat) (2 : Int32))) ||| (0 : Int64)) ||| (0 : Int64)) ||| (0 : Int64)) ||| (0 : Int64)) ||| (0 : Int64))), .second, .val (.long (((1 : Int64) <<< ((24 : Int32) &&& 0x3f).toInt64) - (1 : Int64))), .second] [(.int (1 : Int32))])
    refine own_step (fun t k => XS.goto X29.here hx rfl (pc0 := 120) (pc' := 124) rfl (hb hby at_120) (by decide) (by decide) k) ?_
    show own_Fin _ _ _ _ _ _ _ _ (mkF m 124 #[.val (.long q1), .second, .val (.int p2), .val (.int (3 : Int32)), .val (.ref bq21), .val (.long ((((((((own_pt ((own_b q1) (0 : Int32).toInt.toNat) (0 : Int32)) ||| (own_pt ((own_b q1) (1 : Int32).toInt.toNat) (1 : Int32))) ||| (own_pt ((own_b q1) (2 : Int32).toInt.toNat) (2 : Int32))) ||| (0 : Int64)) ||| (0 : Int64)) ||| (0 : Int64)) ||| (0 : Int64)) ||| (0 : Int64))), .second, .val (.long (((1 : Int64) <<< ((24 : Int32) &&& 0x3f).toInt64) - (1 : Int64))), .second] [(.int (1 : Int32))])
    refine own_retZ X29 hx hlk Bd.returns (hb hby at_124) (z' := (1 : Int32)) (by decide) (by decide) (by decide) hh29 ?_
    exact ⟨rfl, Nf⟩
  · skip
    show own_Fin _ _ _ _ _ _ _ _ (mkF m 7 #[.val (.long q1), .second, .val (.int p2), .val (.int (4 : Int32)), .unset, .unset, .unset, .unset, .unset] [])
    refine own_step (fun t k => XS.lloadN X0.here hx rfl (hb hby at_7) rfl k) ?_
    show own_Fin _ _ _ _ _ _ _ _ (mkF m 8 #[.val (.long q1), .second, .val (.int p2), .val (.int (4 : Int32)), .unset, .unset, .unset, .unset, .unset] [(.long q1)])
    refine own_step (fun t k => XS.iloadN X0.here hx rfl (hb hby at_8) rfl k) ?_
    show own_Fin _ _ _ _ _ _ _ _ (mkF m 9 #[.val (.long q1), .second, .val (.int p2), .val (.int (4 : Int32)), .unset, .unset, .unset, .unset, .unset] [(.int (4 : Int32)), (.long q1)])
    obtain ⟨_, _, ⟨T31, L31, k31, n31⟩, -, X31, ⟨Lc31, hQ31, l31, y31, z31⟩, st31⟩ := Jvm.LawKit.callS X0 hx (y := (⟨"com/example/kern_tablet/kerntablet/schema/IntegerHandler", "littleEndian", "(JI)[B"⟩ : MethodName)) hown (mvT hZ (hw _ (List.mem_of_getElem? (i := 0) rfl))) (mvT hZ (hw _ (List.mem_of_getElem? (i := 1) rfl))) (mvT hZ (hw _ (List.mem_of_getElem? (i := 2) rfl))) (mvT hZ (hw _ (List.mem_of_getElem? (i := 3) rfl))) (by decide) (backOf (W := 0) (rm14 l Z a0 hw [] q1 h0 n0 Zs) hZ (hw _ (List.mem_of_getElem? (i := 3) rfl)) (hw _ (List.mem_of_getElem? (i := 2) rfl)) (by decide) (by decide)) (g := (mkF m 9 #[.val (.long q1), .second, .val (.int p2), .val (.int (4 : Int32)), .unset, .unset, .unset, .unset, .unset] [(.int (4 : Int32)), (.long q1)])) rfl (by rw [hml]; rfl) (argsL := [(.long q1), (.int (4 : Int32))]) (rest := []) (lenOf own_pd_0 rfl) rfl (by show 2 * 0 + _ ≤ _; exact Nat.le_of_eq rfl) (hb hby at_9) (fun _ _ => ⟨rfl, e0, (by decide : 0 + 1 ≤ _), (by decide : 0 + 4 ≤ _)⟩)
    dsimp only [Pt.U, Pt.locs, Pt.cells, Pt.slots] at X31 l31 y31 z31 st31 hQ31
    rw [l31, y31, z31] at X31
    obtain ⟨bq31, rfl, Nq31, Kq31, gq31, P31⟩ := hQ31
    replace Nf := Fr.app Nf Nq31
    replace Zs := Nat.le_trans Zs Kq31.1
    have V_bq31 := P31
    refine own_step st31 ?_
    show own_Fin _ _ _ _ _ _ _ _ (mkF m 12 #[.val (.long q1), .second, .val (.int p2), .val (.int (4 : Int32)), .unset, .unset, .unset, .unset, .unset] [(.ref bq31)])
    refine own_step (fun t k => XS.astore X31.here hx rfl (hb hby at_12) rfl rfl (l' := #[.val (.long q1), .second, .val (.int p2), .val (.int (4 : Int32)), .val (.ref bq31), .unset, .unset, .unset, .unset]) rfl k) ?_
    show own_Fin _ _ _ _ _ _ _ _ (mkF m 14 #[.val (.long q1), .second, .val (.int p2), .val (.int (4 : Int32)), .val (.ref bq31), .unset, .unset, .unset, .unset] [])
    refine own_step (fun t k => XS.aload X31.here hx rfl (hb hby at_14) rfl rfl k) ?_
    show own_Fin _ _ _ _ _ _ _ _ (mkF m 16 #[.val (.long q1), .second, .val (.int p2), .val (.int (4 : Int32)), .val (.ref bq31), .unset, .unset, .unset, .unset] [(.ref bq31)])
    refine own_step (fun t k => XS.ifnullNo X31.here hx rfl (hb hby at_16) rfl k) ?_
    show own_Fin _ _ _ _ _ _ _ _ (mkF m 19 #[.val (.long q1), .second, .val (.int p2), .val (.int (4 : Int32)), .val (.ref bq31), .unset, .unset, .unset, .unset] [])
    refine own_step (fun t k => XS.aload X31.here hx rfl (hb hby at_19) rfl rfl k) ?_
    show own_Fin _ _ _ _ _ _ _ _ (mkF m 21 #[.val (.long q1), .second, .val (.int p2), .val (.int (4 : Int32)), .val (.ref bq31), .unset, .unset, .unset, .unset] [(.ref bq31)])
    refine own_arrlen X31 hx hZ rfl V_bq31 (z := (4 : Int32)) rfl (hb hby at_21) rfl ?_
    show own_Fin _ _ _ _ _ _ _ _ (mkF m 22 #[.val (.long q1), .second, .val (.int p2), .val (.int (4 : Int32)), .val (.ref bq31), .unset, .unset, .unset, .unset] [(.int (4 : Int32))])
    refine own_step (fun t k => XS.iloadN X31.here hx rfl (hb hby at_22) rfl k) ?_
    show own_Fin _ _ _ _ _ _ _ _ (mkF m 23 #[.val (.long q1), .second, .val (.int p2), .val (.int (4 : Int32)), .val (.ref bq31), .unset, .unset, .unset, .unset] [(.int (4 : Int32)), (.int (4 : Int32))])
    refine own_step (fun t k => XS.icmpYes X31.here hx rfl (pc0 := 23) (pc' := 28) rfl (hb hby at_23) rfl (by decide) (by decide) (by decide) k) ?_
    show own_Fin _ _ _ _ _ _ _ _ (mkF m 28 #[.val (.long q1), .second, .val (.int p2), .val (.int (4 : Int32)), .val (.ref bq31), .unset, .unset, .unset, .unset] [])
    refine own_step (fun t k => XS.aload X31.here hx rfl (hb hby at_28) rfl rfl k) ?_
    show own_Fin _ _ _ _ _ _ _ _ (mkF m 30 #[.val (.long q1), .second, .val (.int p2), .val (.int (4 : Int32)), .val (.ref bq31), .unset, .unset, .unset, .unset] [(.ref bq31)])
    refine own_step (fun t k => XS.iconst X31.here hx rfl (hb hby at_30) k) ?_
    show own_Fin _ _ _ _ _ _ _ _ (mkF m 31 #[.val (.long q1), .second, .val (.int p2), .val (.int (4 : Int32)), .val (.ref bq31), .unset, .unset, .unset, .unset] [(.int (0 : Int32)), (.ref bq31)])
    obtain ⟨_, _, ⟨T32, L32, k32, n32⟩, -, X32, ⟨Lc32, hQ32, l32, y32, z32⟩, st32⟩ := Jvm.LawKit.callS X31 hx (y := (⟨"com/example/kern_tablet/kerntablet/schema/IntegerHandlerLittleEndianPinLaw", "part", "([BI)J"⟩ : MethodName)) hown (mvT hZ (hw _ (List.mem_of_getElem? (i := 5) rfl))) (mvT hZ (hw _ (List.mem_of_getElem? (i := 6) rfl))) (mvT hZ (hw _ (List.mem_of_getElem? (i := 7) rfl))) (mvT hZ (hw _ (List.mem_of_getElem? (i := 8) rfl))) (by decide) (backOf (W := 0) (rm20 l Z a0 hw [] bq31 (0 : Int32) _ _ (4 : Int32) T31.heap n0 Zs V_bq31 rfl (by decide) (by decide)) hZ (hw _ (List.mem_of_getElem? (i := 8) rfl)) (hw _ (List.mem_of_getElem? (i := 7) rfl)) (by decide) (by decide)) (g := (mkF m 31 #[.val (.long q1), .second, .val (.int p2), .val (.int (4 : Int32)), .val (.ref bq31), .unset, .unset, .unset, .unset] [(.int (0 : Int32)), (.ref bq31)])) rfl (by rw [hml]; rfl) (argsL := [(.ref bq31), (.int (0 : Int32))]) (rest := []) (lenOf own_pd_1 rfl) rfl (by show 2 * 0 + _ ≤ _; exact Nat.le_of_eq rfl) (hb hby at_31) (fun _ _ => ⟨rfl, rfl, (by decide : 1 + 0 ≤ _), (by decide : 4 + 0 ≤ _)⟩)
    dsimp only [Pt.U, Pt.locs, Pt.cells, Pt.slots] at X32 l32 y32 z32 st32 hQ32
    rw [l32, y32, z32] at X32
    obtain ⟨rfl, Nq32, hh32⟩ := hQ32
    replace Nf := Fr.app Nf Nq32
    refine own_step st32 ?_
    show own_Fin _ _ _ _ _ _ _ _ (mkF m 34 #[.val (.long q1), .second, .val (.int p2), .val (.int (4 : Int32)), .val (.ref bq31), .unset, .unset, .unset, .unset] [(.long (own_pt ((own_b q1) (0 : Int32).toInt.toNat) (0 : Int32)))])
    refine own_step (fun t k => XS.aload X32.here hx rfl (hb hby at_34) rfl rfl k) ?_
    show own_Fin _ _ _ _ _ _ _ _ (mkF m 36 #[.val (.long q1), .second, .val (.int p2), .val (.int (4 : Int32)), .val (.ref bq31), .unset, .unset, .unset, .unset] [(.ref bq31), (.long (own_pt ((own_b q1) (0 : Int32).toInt.toNat) (0 : Int32)))])
    refine own_step (fun t k => XS.iconst X32.here hx rfl (hb hby at_36) k) ?_
    show own_Fin _ _ _ _ _ _ _ _ (mkF m 37 #[.val (.long q1), .second, .val (.int p2), .val (.int (4 : Int32)), .val (.ref bq31), .unset, .unset, .unset, .unset] [(.int (1 : Int32)), (.ref bq31), (.long (own_pt ((own_b q1) (0 : Int32).toInt.toNat) (0 : Int32)))])
    obtain ⟨_, _, ⟨T33, L33, k33, n33⟩, -, X33, ⟨Lc33, hQ33, l33, y33, z33⟩, st33⟩ := Jvm.LawKit.callS X32 hx (y := (⟨"com/example/kern_tablet/kerntablet/schema/IntegerHandlerLittleEndianPinLaw", "part", "([BI)J"⟩ : MethodName)) hown (mvT hZ (hw _ (List.mem_of_getElem? (i := 5) rfl))) (mvT hZ (hw _ (List.mem_of_getElem? (i := 6) rfl))) (mvT hZ (hw _ (List.mem_of_getElem? (i := 7) rfl))) (mvT hZ (hw _ (List.mem_of_getElem? (i := 8) rfl))) (by decide) (backOf (W := 2) (rm20 l Z a0 hw [] bq31 (1 : Int32) _ _ (4 : Int32) T31.heap n0 Zs V_bq31 rfl (by decide) (by decide)) hZ (hw _ (List.mem_of_getElem? (i := 8) rfl)) (hw _ (List.mem_of_getElem? (i := 7) rfl)) (by decide) (by decide)) (g := (mkF m 37 #[.val (.long q1), .second, .val (.int p2), .val (.int (4 : Int32)), .val (.ref bq31), .unset, .unset, .unset, .unset] [(.int (1 : Int32)), (.ref bq31), (.long (own_pt ((own_b q1) (0 : Int32).toInt.toNat) (0 : Int32)))])) rfl (by rw [hml]; rfl) (argsL := [(.ref bq31), (.int (1 : Int32))]) (rest := [(.long (own_pt ((own_b q1) (0 : Int32).toInt.toNat) (0 : Int32)))]) (lenOf own_pd_1 rfl) rfl (by show 2 * 0 + _ ≤ _; exact Nat.le_of_eq rfl) (hb hby at_37) (fun _ _ => ⟨rfl, hh32, (by decide : 1 + 0 ≤ _), (by decide : 4 + 0 ≤ _)⟩)
    dsimp only [Pt.U, Pt.locs, Pt.cells, Pt.slots] at X33 l33 y33 z33 st33 hQ33
    rw [l33, y33, z33] at X33
    obtain ⟨rfl, Nq33, hh33⟩ := hQ33
    replace Nf := Fr.app Nf Nq33
    refine own_step st33 ?_
    show own_Fin _ _ _ _ _ _ _ _ (mkF m 40 #[.val (.long q1), .second, .val (.int p2), .val (.int (4 : Int32)), .val (.ref bq31), .unset, .unset, .unset, .unset] [(.long (own_pt ((own_b q1) (1 : Int32).toInt.toNat) (1 : Int32))), (.long (own_pt ((own_b q1) (0 : Int32).toInt.toNat) (0 : Int32)))])
    refine own_step (fun t k => XS.lor X33.here hx rfl (hb hby at_40) rfl k) ?_
    show own_Fin _ _ _ _ _ _ _ _ (mkF m 41 #[.val (.long q1), .second, .val (.int p2), .val (.int (4 : Int32)), .val (.ref bq31), .unset, .unset, .unset, .unset] [(.long ((own_pt ((own_b q1) (0 : Int32).toInt.toNat) (0 : Int32)) ||| (own_pt ((own_b q1) (1 : Int32).toInt.toNat) (1 : Int32))))])
    refine own_step (fun t k => XS.aload X33.here hx rfl (hb hby at_41) rfl rfl k) ?_
    show own_Fin _ _ _ _ _ _ _ _ (mkF m 43 #[.val (.long q1), .second, .val (.int p2), .val (.int (4 : Int32)), .val (.ref bq31), .unset, .unset, .unset, .unset] [(.ref bq31), (.long ((own_pt ((own_b q1) (0 : Int32).toInt.toNat) (0 : Int32)) ||| (own_pt ((own_b q1) (1 : Int32).toInt.toNat) (1 : Int32))))])
    refine own_step (fun t k => XS.iconst X33.here hx rfl (hb hby at_43) k) ?_
    show own_Fin _ _ _ _ _ _ _ _ (mkF m 44 #[.val (.long q1), .second, .val (.int p2), .val (.int (4 : Int32)), .val (.ref bq31), .unset, .unset, .unset, .unset] [(.int (2 : Int32)), (.ref bq31), (.long ((own_pt ((own_b q1) (0 : Int32).toInt.toNat) (0 : Int32)) ||| (own_pt ((own_b q1) (1 : Int32).toInt.toNat) (1 : Int32))))])
    obtain ⟨_, _, ⟨T34, L34, k34, n34⟩, -, X34, ⟨Lc34, hQ34, l34, y34, z34⟩, st34⟩ := Jvm.LawKit.callS X33 hx (y := (⟨"com/example/kern_tablet/kerntablet/schema/IntegerHandlerLittleEndianPinLaw", "part", "([BI)J"⟩ : MethodName)) hown (mvT hZ (hw _ (List.mem_of_getElem? (i := 5) rfl))) (mvT hZ (hw _ (List.mem_of_getElem? (i := 6) rfl))) (mvT hZ (hw _ (List.mem_of_getElem? (i := 7) rfl))) (mvT hZ (hw _ (List.mem_of_getElem? (i := 8) rfl))) (by decide) (backOf (W := 2) (rm20 l Z a0 hw [] bq31 (2 : Int32) _ _ (4 : Int32) T31.heap n0 Zs V_bq31 rfl (by decide) (by decide)) hZ (hw _ (List.mem_of_getElem? (i := 8) rfl)) (hw _ (List.mem_of_getElem? (i := 7) rfl)) (by decide) (by decide)) (g := (mkF m 44 #[.val (.long q1), .second, .val (.int p2), .val (.int (4 : Int32)), .val (.ref bq31), .unset, .unset, .unset, .unset] [(.int (2 : Int32)), (.ref bq31), (.long ((own_pt ((own_b q1) (0 : Int32).toInt.toNat) (0 : Int32)) ||| (own_pt ((own_b q1) (1 : Int32).toInt.toNat) (1 : Int32))))])) rfl (by rw [hml]; rfl) (argsL := [(.ref bq31), (.int (2 : Int32))]) (rest := [(.long ((own_pt ((own_b q1) (0 : Int32).toInt.toNat) (0 : Int32)) ||| (own_pt ((own_b q1) (1 : Int32).toInt.toNat) (1 : Int32))))]) (lenOf own_pd_1 rfl) rfl (by show 2 * 0 + _ ≤ _; exact Nat.le_of_eq rfl) (hb hby at_44) (fun _ _ => ⟨rfl, hh33, (by decide : 1 + 0 ≤ _), (by decide : 4 + 0 ≤ _)⟩)
    dsimp only [Pt.U, Pt.locs, Pt.cells, Pt.slots] at X34 l34 y34 z34 st34 hQ34
    rw [l34, y34, z34] at X34
    obtain ⟨rfl, Nq34, hh34⟩ := hQ34
    replace Nf := Fr.app Nf Nq34
    refine own_step st34 ?_
    show own_Fin _ _ _ _ _ _ _ _ (mkF m 47 #[.val (.long q1), .second, .val (.int p2), .val (.int (4 : Int32)), .val (.ref bq31), .unset, .unset, .unset, .unset] [(.long (own_pt ((own_b q1) (2 : Int32).toInt.toNat) (2 : Int32))), (.long ((own_pt ((own_b q1) (0 : Int32).toInt.toNat) (0 : Int32)) ||| (own_pt ((own_b q1) (1 : Int32).toInt.toNat) (1 : Int32))))])
    refine own_step (fun t k => XS.lor X34.here hx rfl (hb hby at_47) rfl k) ?_
    show own_Fin _ _ _ _ _ _ _ _ (mkF m 48 #[.val (.long q1), .second, .val (.int p2), .val (.int (4 : Int32)), .val (.ref bq31), .unset, .unset, .unset, .unset] [(.long (((own_pt ((own_b q1) (0 : Int32).toInt.toNat) (0 : Int32)) ||| (own_pt ((own_b q1) (1 : Int32).toInt.toNat) (1 : Int32))) ||| (own_pt ((own_b q1) (2 : Int32).toInt.toNat) (2 : Int32))))])
    refine own_step (fun t k => XS.aload X34.here hx rfl (hb hby at_48) rfl rfl k) ?_
    show own_Fin _ _ _ _ _ _ _ _ (mkF m 50 #[.val (.long q1), .second, .val (.int p2), .val (.int (4 : Int32)), .val (.ref bq31), .unset, .unset, .unset, .unset] [(.ref bq31), (.long (((own_pt ((own_b q1) (0 : Int32).toInt.toNat) (0 : Int32)) ||| (own_pt ((own_b q1) (1 : Int32).toInt.toNat) (1 : Int32))) ||| (own_pt ((own_b q1) (2 : Int32).toInt.toNat) (2 : Int32))))])
    refine own_step (fun t k => XS.iconst X34.here hx rfl (hb hby at_50) k) ?_
    show own_Fin _ _ _ _ _ _ _ _ (mkF m 51 #[.val (.long q1), .second, .val (.int p2), .val (.int (4 : Int32)), .val (.ref bq31), .unset, .unset, .unset, .unset] [(.int (3 : Int32)), (.ref bq31), (.long (((own_pt ((own_b q1) (0 : Int32).toInt.toNat) (0 : Int32)) ||| (own_pt ((own_b q1) (1 : Int32).toInt.toNat) (1 : Int32))) ||| (own_pt ((own_b q1) (2 : Int32).toInt.toNat) (2 : Int32))))])
    obtain ⟨_, _, ⟨T35, L35, k35, n35⟩, -, X35, ⟨Lc35, hQ35, l35, y35, z35⟩, st35⟩ := Jvm.LawKit.callS X34 hx (y := (⟨"com/example/kern_tablet/kerntablet/schema/IntegerHandlerLittleEndianPinLaw", "part", "([BI)J"⟩ : MethodName)) hown (mvT hZ (hw _ (List.mem_of_getElem? (i := 5) rfl))) (mvT hZ (hw _ (List.mem_of_getElem? (i := 6) rfl))) (mvT hZ (hw _ (List.mem_of_getElem? (i := 7) rfl))) (mvT hZ (hw _ (List.mem_of_getElem? (i := 8) rfl))) (by decide) (backOf (W := 2) (rm20 l Z a0 hw [] bq31 (3 : Int32) _ _ (4 : Int32) T31.heap n0 Zs V_bq31 rfl (by decide) (by decide)) hZ (hw _ (List.mem_of_getElem? (i := 8) rfl)) (hw _ (List.mem_of_getElem? (i := 7) rfl)) (by decide) (by decide)) (g := (mkF m 51 #[.val (.long q1), .second, .val (.int p2), .val (.int (4 : Int32)), .val (.ref bq31), .unset, .unset, .unset, .unset] [(.int (3 : Int32)), (.ref bq31), (.long (((own_pt ((own_b q1) (0 : Int32).toInt.toNat) (0 : Int32)) ||| (own_pt ((own_b q1) (1 : Int32).toInt.toNat) (1 : Int32))) ||| (own_pt ((own_b q1) (2 : Int32).toInt.toNat) (2 : Int32))))])) rfl (by rw [hml]; rfl) (argsL := [(.ref bq31), (.int (3 : Int32))]) (rest := [(.long (((own_pt ((own_b q1) (0 : Int32).toInt.toNat) (0 : Int32)) ||| (own_pt ((own_b q1) (1 : Int32).toInt.toNat) (1 : Int32))) ||| (own_pt ((own_b q1) (2 : Int32).toInt.toNat) (2 : Int32))))]) (lenOf own_pd_1 rfl) rfl (by show 2 * 0 + _ ≤ _; exact Nat.le_of_eq rfl) (hb hby at_51) (fun _ _ => ⟨rfl, hh34, (by decide : 1 + 0 ≤ _), (by decide : 4 + 0 ≤ _)⟩)
    dsimp only [Pt.U, Pt.locs, Pt.cells, Pt.slots] at X35 l35 y35 z35 st35 hQ35
    rw [l35, y35, z35] at X35
    obtain ⟨rfl, Nq35, hh35⟩ := hQ35
    replace Nf := Fr.app Nf Nq35
    refine own_step st35 ?_
    show own_Fin _ _ _ _ _ _ _ _ (mkF m 54 #[.val (.long q1), .second, .val (.int p2), .val (.int (4 : Int32)), .val (.ref bq31), .unset, .unset, .unset, .unset] [(.long (own_pt ((own_b q1) (3 : Int32).toInt.toNat) (3 : Int32))), (.long (((own_pt ((own_b q1) (0 : Int32).toInt.toNat) (0 : Int32)) ||| (own_pt ((own_b q1) (1 : Int32).toInt.toNat) (1 : Int32))) ||| (own_pt ((own_b q1) (2 : Int32).toInt.toNat) (2 : Int32))))])
    refine own_step (fun t k => XS.lor X35.here hx rfl (hb hby at_54) rfl k) ?_
    show own_Fin _ _ _ _ _ _ _ _ (mkF m 55 #[.val (.long q1), .second, .val (.int p2), .val (.int (4 : Int32)), .val (.ref bq31), .unset, .unset, .unset, .unset] [(.long ((((own_pt ((own_b q1) (0 : Int32).toInt.toNat) (0 : Int32)) ||| (own_pt ((own_b q1) (1 : Int32).toInt.toNat) (1 : Int32))) ||| (own_pt ((own_b q1) (2 : Int32).toInt.toNat) (2 : Int32))) ||| (own_pt ((own_b q1) (3 : Int32).toInt.toNat) (3 : Int32))))])
    refine own_step (fun t k => XS.aload X35.here hx rfl (hb hby at_55) rfl rfl k) ?_
    show own_Fin _ _ _ _ _ _ _ _ (mkF m 57 #[.val (.long q1), .second, .val (.int p2), .val (.int (4 : Int32)), .val (.ref bq31), .unset, .unset, .unset, .unset] [(.ref bq31), (.long ((((own_pt ((own_b q1) (0 : Int32).toInt.toNat) (0 : Int32)) ||| (own_pt ((own_b q1) (1 : Int32).toInt.toNat) (1 : Int32))) ||| (own_pt ((own_b q1) (2 : Int32).toInt.toNat) (2 : Int32))) ||| (own_pt ((own_b q1) (3 : Int32).toInt.toNat) (3 : Int32))))])
    refine own_step (fun t k => XS.iconst X35.here hx rfl (hb hby at_57) k) ?_
    show own_Fin _ _ _ _ _ _ _ _ (mkF m 58 #[.val (.long q1), .second, .val (.int p2), .val (.int (4 : Int32)), .val (.ref bq31), .unset, .unset, .unset, .unset] [(.int (4 : Int32)), (.ref bq31), (.long ((((own_pt ((own_b q1) (0 : Int32).toInt.toNat) (0 : Int32)) ||| (own_pt ((own_b q1) (1 : Int32).toInt.toNat) (1 : Int32))) ||| (own_pt ((own_b q1) (2 : Int32).toInt.toNat) (2 : Int32))) ||| (own_pt ((own_b q1) (3 : Int32).toInt.toNat) (3 : Int32))))])
    obtain ⟨_, _, ⟨T36, L36, k36, n36⟩, -, X36, ⟨Lc36, hQ36, l36, y36, z36⟩, st36⟩ := Jvm.LawKit.callS X35 hx (y := (⟨"com/example/kern_tablet/kerntablet/schema/IntegerHandlerLittleEndianPinLaw", "part", "([BI)J"⟩ : MethodName)) hown (mvT hZ (hw _ (List.mem_of_getElem? (i := 5) rfl))) (mvT hZ (hw _ (List.mem_of_getElem? (i := 6) rfl))) (mvT hZ (hw _ (List.mem_of_getElem? (i := 7) rfl))) (mvT hZ (hw _ (List.mem_of_getElem? (i := 8) rfl))) (by decide) (backOf (W := 2) (rm21 l Z a0 hw [] bq31 (4 : Int32) _ _ (4 : Int32) T31.heap n0 Zs V_bq31 rfl (by decide) (by decide)) hZ (hw _ (List.mem_of_getElem? (i := 8) rfl)) (hw _ (List.mem_of_getElem? (i := 7) rfl)) (by decide) (by decide)) (g := (mkF m 58 #[.val (.long q1), .second, .val (.int p2), .val (.int (4 : Int32)), .val (.ref bq31), .unset, .unset, .unset, .unset] [(.int (4 : Int32)), (.ref bq31), (.long ((((own_pt ((own_b q1) (0 : Int32).toInt.toNat) (0 : Int32)) ||| (own_pt ((own_b q1) (1 : Int32).toInt.toNat) (1 : Int32))) ||| (own_pt ((own_b q1) (2 : Int32).toInt.toNat) (2 : Int32))) ||| (own_pt ((own_b q1) (3 : Int32).toInt.toNat) (3 : Int32))))])) rfl (by rw [hml]; rfl) (argsL := [(.ref bq31), (.int (4 : Int32))]) (rest := [(.long ((((own_pt ((own_b q1) (0 : Int32).toInt.toNat) (0 : Int32)) ||| (own_pt ((own_b q1) (1 : Int32).toInt.toNat) (1 : Int32))) ||| (own_pt ((own_b q1) (2 : Int32).toInt.toNat) (2 : Int32))) ||| (own_pt ((own_b q1) (3 : Int32).toInt.toNat) (3 : Int32))))]) (lenOf own_pd_1 rfl) rfl (by show 2 * 0 + _ ≤ _; exact Nat.le_of_eq rfl) (hb hby at_58) (fun _ _ => ⟨rfl, hh35, (by decide : 1 + 0 ≤ _), (by decide : 4 + 0 ≤ _)⟩)
    dsimp only [Pt.U, Pt.locs, Pt.cells, Pt.slots] at X36 l36 y36 z36 st36 hQ36
    rw [l36, y36, z36] at X36
    obtain ⟨rfl, Nq36, hh36⟩ := hQ36
    replace Nf := Fr.app Nf Nq36
    refine own_step st36 ?_
    show own_Fin _ _ _ _ _ _ _ _ (mkF m 61 #[.val (.long q1), .second, .val (.int p2), .val (.int (4 : Int32)), .val (.ref bq31), .unset, .unset, .unset, .unset] [(.long (0 : Int64)), (.long ((((own_pt ((own_b q1) (0 : Int32).toInt.toNat) (0 : Int32)) ||| (own_pt ((own_b q1) (1 : Int32).toInt.toNat) (1 : Int32))) ||| (own_pt ((own_b q1) (2 : Int32).toInt.toNat) (2 : Int32))) ||| (own_pt ((own_b q1) (3 : Int32).toInt.toNat) (3 : Int32))))])
    refine own_step (fun t k => XS.lor X36.here hx rfl (hb hby at_61) rfl k) ?_
    show own_Fin _ _ _ _ _ _ _ _ (mkF m 62 #[.val (.long q1), .second, .val (.int p2), .val (.int (4 : Int32)), .val (.ref bq31), .unset, .unset, .unset, .unset] [(.long (((((own_pt ((own_b q1) (0 : Int32).toInt.toNat) (0 : Int32)) ||| (own_pt ((own_b q1) (1 : Int32).toInt.toNat) (1 : Int32))) ||| (own_pt ((own_b q1) (2 : Int32).toInt.toNat) (2 : Int32))) ||| (own_pt ((own_b q1) (3 : Int32).toInt.toNat) (3 : Int32))) ||| (0 : Int64)))])
    refine own_step (fun t k => XS.aload X36.here hx rfl (hb hby at_62) rfl rfl k) ?_
    show own_Fin _ _ _ _ _ _ _ _ (mkF m 64 #[.val (.long q1), .second, .val (.int p2), .val (.int (4 : Int32)), .val (.ref bq31), .unset, .unset, .unset, .unset] [(.ref bq31), (.long (((((own_pt ((own_b q1) (0 : Int32).toInt.toNat) (0 : Int32)) ||| (own_pt ((own_b q1) (1 : Int32).toInt.toNat) (1 : Int32))) ||| (own_pt ((own_b q1) (2 : Int32).toInt.toNat) (2 : Int32))) ||| (own_pt ((own_b q1) (3 : Int32).toInt.toNat) (3 : Int32))) ||| (0 : Int64)))])
    refine own_step (fun t k => XS.iconst X36.here hx rfl (hb hby at_64) k) ?_
    show own_Fin _ _ _ _ _ _ _ _ (mkF m 65 #[.val (.long q1), .second, .val (.int p2), .val (.int (4 : Int32)), .val (.ref bq31), .unset, .unset, .unset, .unset] [(.int (5 : Int32)), (.ref bq31), (.long (((((own_pt ((own_b q1) (0 : Int32).toInt.toNat) (0 : Int32)) ||| (own_pt ((own_b q1) (1 : Int32).toInt.toNat) (1 : Int32))) ||| (own_pt ((own_b q1) (2 : Int32).toInt.toNat) (2 : Int32))) ||| (own_pt ((own_b q1) (3 : Int32).toInt.toNat) (3 : Int32))) ||| (0 : Int64)))])
    obtain ⟨_, _, ⟨T37, L37, k37, n37⟩, -, X37, ⟨Lc37, hQ37, l37, y37, z37⟩, st37⟩ := Jvm.LawKit.callS X36 hx (y := (⟨"com/example/kern_tablet/kerntablet/schema/IntegerHandlerLittleEndianPinLaw", "part", "([BI)J"⟩ : MethodName)) hown (mvT hZ (hw _ (List.mem_of_getElem? (i := 5) rfl))) (mvT hZ (hw _ (List.mem_of_getElem? (i := 6) rfl))) (mvT hZ (hw _ (List.mem_of_getElem? (i := 7) rfl))) (mvT hZ (hw _ (List.mem_of_getElem? (i := 8) rfl))) (by decide) (backOf (W := 2) (rm21 l Z a0 hw [] bq31 (5 : Int32) _ _ (4 : Int32) T31.heap n0 Zs V_bq31 rfl (by decide) (by decide)) hZ (hw _ (List.mem_of_getElem? (i := 8) rfl)) (hw _ (List.mem_of_getElem? (i := 7) rfl)) (by decide) (by decide)) (g := (mkF m 65 #[.val (.long q1), .second, .val (.int p2), .val (.int (4 : Int32)), .val (.ref bq31), .unset, .unset, .unset, .unset] [(.int (5 : Int32)), (.ref bq31), (.long (((((own_pt ((own_b q1) (0 : Int32).toInt.toNat) (0 : Int32)) ||| (own_pt ((own_b q1) (1 : Int32).toInt.toNat) (1 : Int32))) ||| (own_pt ((own_b q1) (2 : Int32).toInt.toNat) (2 : Int32))) ||| (own_pt ((own_b q1) (3 : Int32).toInt.toNat) (3 : Int32))) ||| (0 : Int64)))])) rfl (by rw [hml]; rfl) (argsL := [(.ref bq31), (.int (5 : Int32))]) (rest := [(.long (((((own_pt ((own_b q1) (0 : Int32).toInt.toNat) (0 : Int32)) ||| (own_pt ((own_b q1) (1 : Int32).toInt.toNat) (1 : Int32))) ||| (own_pt ((own_b q1) (2 : Int32).toInt.toNat) (2 : Int32))) ||| (own_pt ((own_b q1) (3 : Int32).toInt.toNat) (3 : Int32))) ||| (0 : Int64)))]) (lenOf own_pd_1 rfl) rfl (by show 2 * 0 + _ ≤ _; exact Nat.le_of_eq rfl) (hb hby at_65) (fun _ _ => ⟨rfl, hh36, (by decide : 1 + 0 ≤ _), (by decide : 4 + 0 ≤ _)⟩)
    dsimp only [Pt.U, Pt.locs, Pt.cells, Pt.slots] at X37 l37 y37 z37 st37 hQ37
    rw [l37, y37, z37] at X37
    obtain ⟨rfl, Nq37, hh37⟩ := hQ37
    replace Nf := Fr.app Nf Nq37
    refine own_step st37 ?_
    show own_Fin _ _ _ _ _ _ _ _ (mkF m 68 #[.val (.long q1), .second, .val (.int p2), .val (.int (4 : Int32)), .val (.ref bq31), .unset, .unset, .unset, .unset] [(.long (0 : Int64)), (.long (((((own_pt ((own_b q1) (0 : Int32).toInt.toNat) (0 : Int32)) ||| (own_pt ((own_b q1) (1 : Int32).toInt.toNat) (1 : Int32))) ||| (own_pt ((own_b q1) (2 : Int32).toInt.toNat) (2 : Int32))) ||| (own_pt ((own_b q1) (3 : Int32).toInt.toNat) (3 : Int32))) ||| (0 : Int64)))])
    refine own_step (fun t k => XS.lor X37.here hx rfl (hb hby at_68) rfl k) ?_
    show own_Fin _ _ _ _ _ _ _ _ (mkF m 69 #[.val (.long q1), .second, .val (.int p2), .val (.int (4 : Int32)), .val (.ref bq31), .unset, .unset, .unset, .unset] [(.long ((((((own_pt ((own_b q1) (0 : Int32).toInt.toNat) (0 : Int32)) ||| (own_pt ((own_b q1) (1 : Int32).toInt.toNat) (1 : Int32))) ||| (own_pt ((own_b q1) (2 : Int32).toInt.toNat) (2 : Int32))) ||| (own_pt ((own_b q1) (3 : Int32).toInt.toNat) (3 : Int32))) ||| (0 : Int64)) ||| (0 : Int64)))])
    refine own_step (fun t k => XS.aload X37.here hx rfl (hb hby at_69) rfl rfl k) ?_
    show own_Fin _ _ _ _ _ _ _ _ (mkF m 71 #[.val (.long q1), .second, .val (.int p2), .val (.int (4 : Int32)), .val (.ref bq31), .unset, .unset, .unset, .unset] [(.ref bq31), (.long ((((((own_pt ((own_b q1) (0 : Int32).toInt.toNat) (0 : Int32)) ||| (own_pt ((own_b q1) (1 : Int32).toInt.toNat) (1 : Int32))) ||| (own_pt ((own_b q1) (2 : Int32).toInt.toNat) (2 : Int32))) ||| (own_pt ((own_b q1) (3 : Int32).toInt.toNat) (3 : Int32))) ||| (0 : Int64)) ||| (0 : Int64)))])
    refine own_step (fun t k => XS.bipush X37.here hx rfl (hb hby at_71) k) ?_
    show own_Fin _ _ _ _ _ _ _ _ (mkF m 73 #[.val (.long q1), .second, .val (.int p2), .val (.int (4 : Int32)), .val (.ref bq31), .unset, .unset, .unset, .unset] [(.int (6 : Int32)), (.ref bq31), (.long ((((((own_pt ((own_b q1) (0 : Int32).toInt.toNat) (0 : Int32)) ||| (own_pt ((own_b q1) (1 : Int32).toInt.toNat) (1 : Int32))) ||| (own_pt ((own_b q1) (2 : Int32).toInt.toNat) (2 : Int32))) ||| (own_pt ((own_b q1) (3 : Int32).toInt.toNat) (3 : Int32))) ||| (0 : Int64)) ||| (0 : Int64)))])
    obtain ⟨_, _, ⟨T38, L38, k38, n38⟩, -, X38, ⟨Lc38, hQ38, l38, y38, z38⟩, st38⟩ := Jvm.LawKit.callS X37 hx (y := (⟨"com/example/kern_tablet/kerntablet/schema/IntegerHandlerLittleEndianPinLaw", "part", "([BI)J"⟩ : MethodName)) hown (mvT hZ (hw _ (List.mem_of_getElem? (i := 5) rfl))) (mvT hZ (hw _ (List.mem_of_getElem? (i := 6) rfl))) (mvT hZ (hw _ (List.mem_of_getElem? (i := 7) rfl))) (mvT hZ (hw _ (List.mem_of_getElem? (i := 8) rfl))) (by decide) (backOf (W := 2) (rm21 l Z a0 hw [] bq31 (6 : Int32) _ _ (4 : Int32) T31.heap n0 Zs V_bq31 rfl (by decide) (by decide)) hZ (hw _ (List.mem_of_getElem? (i := 8) rfl)) (hw _ (List.mem_of_getElem? (i := 7) rfl)) (by decide) (by decide)) (g := (mkF m 73 #[.val (.long q1), .second, .val (.int p2), .val (.int (4 : Int32)), .val (.ref bq31), .unset, .unset, .unset, .unset] [(.int (6 : Int32)), (.ref bq31), (.long ((((((own_pt ((own_b q1) (0 : Int32).toInt.toNat) (0 : Int32)) ||| (own_pt ((own_b q1) (1 : Int32).toInt.toNat) (1 : Int32))) ||| (own_pt ((own_b q1) (2 : Int32).toInt.toNat) (2 : Int32))) ||| (own_pt ((own_b q1) (3 : Int32).toInt.toNat) (3 : Int32))) ||| (0 : Int64)) ||| (0 : Int64)))])) rfl (by rw [hml]; rfl) (argsL := [(.ref bq31), (.int (6 : Int32))]) (rest := [(.long ((((((own_pt ((own_b q1) (0 : Int32).toInt.toNat) (0 : Int32)) ||| (own_pt ((own_b q1) (1 : Int32).toInt.toNat) (1 : Int32))) ||| (own_pt ((own_b q1) (2 : Int32).toInt.toNat) (2 : Int32))) ||| (own_pt ((own_b q1) (3 : Int32).toInt.toNat) (3 : Int32))) ||| (0 : Int64)) ||| (0 : Int64)))]) (lenOf own_pd_1 rfl) rfl (by show 2 * 0 + _ ≤ _; exact Nat.le_of_eq rfl) (hb hby at_73) (fun _ _ => ⟨rfl, hh37, (by decide : 1 + 0 ≤ _), (by decide : 4 + 0 ≤ _)⟩)
    dsimp only [Pt.U, Pt.locs, Pt.cells, Pt.slots] at X38 l38 y38 z38 st38 hQ38
    rw [l38, y38, z38] at X38
    obtain ⟨rfl, Nq38, hh38⟩ := hQ38
    replace Nf := Fr.app Nf Nq38
    refine own_step st38 ?_
    show own_Fin _ _ _ _ _ _ _ _ (mkF m 76 #[.val (.long q1), .second, .val (.int p2), .val (.int (4 : Int32)), .val (.ref bq31), .unset, .unset, .unset, .unset] [(.long (0 : Int64)), (.long ((((((own_pt ((own_b q1) (0 : Int32).toInt.toNat) (0 : Int32)) ||| (own_pt ((own_b q1) (1 : Int32).toInt.toNat) (1 : Int32))) ||| (own_pt ((own_b q1) (2 : Int32).toInt.toNat) (2 : Int32))) ||| (own_pt ((own_b q1) (3 : Int32).toInt.toNat) (3 : Int32))) ||| (0 : Int64)) ||| (0 : Int64)))])
    refine own_step (fun t k => XS.lor X38.here hx rfl (hb hby at_76) rfl k) ?_
    show own_Fin _ _ _ _ _ _ _ _ (mkF m 77 #[.val (.long q1), .second, .val (.int p2), .val (.int (4 : Int32)), .val (.ref bq31), .unset, .unset, .unset, .unset] [(.long (((((((own_pt ((own_b q1) (0 : Int32).toInt.toNat) (0 : Int32)) ||| (own_pt ((own_b q1) (1 : Int32).toInt.toNat) (1 : Int32))) ||| (own_pt ((own_b q1) (2 : Int32).toInt.toNat) (2 : Int32))) ||| (own_pt ((own_b q1) (3 : Int32).toInt.toNat) (3 : Int32))) ||| (0 : Int64)) ||| (0 : Int64)) ||| (0 : Int64)))])
    refine own_step (fun t k => XS.aload X38.here hx rfl (hb hby at_77) rfl rfl k) ?_
    show own_Fin _ _ _ _ _ _ _ _ (mkF m 79 #[.val (.long q1), .second, .val (.int p2), .val (.int (4 : Int32)), .val (.ref bq31), .unset, .unset, .unset, .unset] [(.ref bq31), (.long (((((((own_pt ((own_b q1) (0 : Int32).toInt.toNat) (0 : Int32)) ||| (own_pt ((own_b q1) (1 : Int32).toInt.toNat) (1 : Int32))) ||| (own_pt ((own_b q1) (2 : Int32).toInt.toNat) (2 : Int32))) ||| (own_pt ((own_b q1) (3 : Int32).toInt.toNat) (3 : Int32))) ||| (0 : Int64)) ||| (0 : Int64)) ||| (0 : Int64)))])
    refine own_step (fun t k => XS.bipush X38.here hx rfl (hb hby at_79) k) ?_
    show own_Fin _ _ _ _ _ _ _ _ (mkF m 81 #[.val (.long q1), .second, .val (.int p2), .val (.int (4 : Int32)), .val (.ref bq31), .unset, .unset, .unset, .unset] [(.int (7 : Int32)), (.ref bq31), (.long (((((((own_pt ((own_b q1) (0 : Int32).toInt.toNat) (0 : Int32)) ||| (own_pt ((own_b q1) (1 : Int32).toInt.toNat) (1 : Int32))) ||| (own_pt ((own_b q1) (2 : Int32).toInt.toNat) (2 : Int32))) ||| (own_pt ((own_b q1) (3 : Int32).toInt.toNat) (3 : Int32))) ||| (0 : Int64)) ||| (0 : Int64)) ||| (0 : Int64)))])
    obtain ⟨_, _, ⟨T39, L39, k39, n39⟩, -, X39, ⟨Lc39, hQ39, l39, y39, z39⟩, st39⟩ := Jvm.LawKit.callS X38 hx (y := (⟨"com/example/kern_tablet/kerntablet/schema/IntegerHandlerLittleEndianPinLaw", "part", "([BI)J"⟩ : MethodName)) hown (mvT hZ (hw _ (List.mem_of_getElem? (i := 5) rfl))) (mvT hZ (hw _ (List.mem_of_getElem? (i := 6) rfl))) (mvT hZ (hw _ (List.mem_of_getElem? (i := 7) rfl))) (mvT hZ (hw _ (List.mem_of_getElem? (i := 8) rfl))) (by decide) (backOf (W := 2) (rm21 l Z a0 hw [] bq31 (7 : Int32) _ _ (4 : Int32) T31.heap n0 Zs V_bq31 rfl (by decide) (by decide)) hZ (hw _ (List.mem_of_getElem? (i := 8) rfl)) (hw _ (List.mem_of_getElem? (i := 7) rfl)) (by decide) (by decide)) (g := (mkF m 81 #[.val (.long q1), .second, .val (.int p2), .val (.int (4 : Int32)), .val (.ref bq31), .unset, .unset, .unset, .unset] [(.int (7 : Int32)), (.ref bq31), (.long (((((((own_pt ((own_b q1) (0 : Int32).toInt.toNat) (0 : Int32)) ||| (own_pt ((own_b q1) (1 : Int32).toInt.toNat) (1 : Int32))) ||| (own_pt ((own_b q1) (2 : Int32).toInt.toNat) (2 : Int32))) ||| (own_pt ((own_b q1) (3 : Int32).toInt.toNat) (3 : Int32))) ||| (0 : Int64)) ||| (0 : Int64)) ||| (0 : Int64)))])) rfl (by rw [hml]; rfl) (argsL := [(.ref bq31), (.int (7 : Int32))]) (rest := [(.long (((((((own_pt ((own_b q1) (0 : Int32).toInt.toNat) (0 : Int32)) ||| (own_pt ((own_b q1) (1 : Int32).toInt.toNat) (1 : Int32))) ||| (own_pt ((own_b q1) (2 : Int32).toInt.toNat) (2 : Int32))) ||| (own_pt ((own_b q1) (3 : Int32).toInt.toNat) (3 : Int32))) ||| (0 : Int64)) ||| (0 : Int64)) ||| (0 : Int64)))]) (lenOf own_pd_1 rfl) rfl (by show 2 * 0 + _ ≤ _; exact Nat.le_of_eq rfl) (hb hby at_81) (fun _ _ => ⟨rfl, hh38, (by decide : 1 + 0 ≤ _), (by decide : 4 + 0 ≤ _)⟩)
    dsimp only [Pt.U, Pt.locs, Pt.cells, Pt.slots] at X39 l39 y39 z39 st39 hQ39
    rw [l39, y39, z39] at X39
    obtain ⟨rfl, Nq39, hh39⟩ := hQ39
    replace Nf := Fr.app Nf Nq39
    refine own_step st39 ?_
    show own_Fin _ _ _ _ _ _ _ _ (mkF m 84 #[.val (.long q1), .second, .val (.int p2), .val (.int (4 : Int32)), .val (.ref bq31), .unset, .unset, .unset, .unset] [(.long (0 : Int64)), (.long (((((((own_pt ((own_b q1) (0 : Int32).toInt.toNat) (0 : Int32)) ||| (own_pt ((own_b q1) (1 : Int32).toInt.toNat) (1 : Int32))) ||| (own_pt ((own_b q1) (2 : Int32).toInt.toNat) (2 : Int32))) ||| (own_pt ((own_b q1) (3 : Int32).toInt.toNat) (3 : Int32))) ||| (0 : Int64)) ||| (0 : Int64)) ||| (0 : Int64)))])
    refine own_step (fun t k => XS.lor X39.here hx rfl (hb hby at_84) rfl k) ?_
    show own_Fin _ _ _ _ _ _ _ _ (mkF m 85 #[.val (.long q1), .second, .val (.int p2), .val (.int (4 : Int32)), .val (.ref bq31), .unset, .unset, .unset, .unset] [(.long ((((((((own_pt ((own_b q1) (0 : Int32).toInt.toNat) (0 : Int32)) ||| (own_pt ((own_b q1) (1 : Int32).toInt.toNat) (1 : Int32))) ||| (own_pt ((own_b q1) (2 : Int32).toInt.toNat) (2 : Int32))) ||| (own_pt ((own_b q1) (3 : Int32).toInt.toNat) (3 : Int32))) ||| (0 : Int64)) ||| (0 : Int64)) ||| (0 : Int64)) ||| (0 : Int64)))])
    refine own_step (fun t k => XS.lstore X39.here hx rfl (hb hby at_85) rfl (l' := #[.val (.long q1), .second, .val (.int p2), .val (.int (4 : Int32)), .val (.ref bq31), .val (.long ((((((((own_pt ((own_b q1) (0 : Int32).toInt.toNat) (0 : Int32)) ||| (own_pt ((own_b q1) (1 : Int32).toInt.toNat) (1 : Int32))) ||| (own_pt ((own_b q1) (2 : Int32).toInt.toNat) (2 : Int32))) ||| (own_pt ((own_b q1) (3 : Int32).toInt.toNat) (3 : Int32))) ||| (0 : Int64)) ||| (0 : Int64)) ||| (0 : Int64)) ||| (0 : Int64))), .second, .unset, .unset]) rfl k) ?_
    show own_Fin _ _ _ _ _ _ _ _ (mkF m 87 #[.val (.long q1), .second, .val (.int p2), .val (.int (4 : Int32)), .val (.ref bq31), .val (.long ((((((((own_pt ((own_b q1) (0 : Int32).toInt.toNat) (0 : Int32)) ||| (own_pt ((own_b q1) (1 : Int32).toInt.toNat) (1 : Int32))) ||| (own_pt ((own_b q1) (2 : Int32).toInt.toNat) (2 : Int32))) ||| (own_pt ((own_b q1) (3 : Int32).toInt.toNat) (3 : Int32))) ||| (0 : Int64)) ||| (0 : Int64)) ||| (0 : Int64)) ||| (0 : Int64))), .second, .unset, .unset] [])
    refine own_step (fun t k => XS.iloadN X39.here hx rfl (hb hby at_87) rfl k) ?_
    show own_Fin _ _ _ _ _ _ _ _ (mkF m 88 #[.val (.long q1), .second, .val (.int p2), .val (.int (4 : Int32)), .val (.ref bq31), .val (.long ((((((((own_pt ((own_b q1) (0 : Int32).toInt.toNat) (0 : Int32)) ||| (own_pt ((own_b q1) (1 : Int32).toInt.toNat) (1 : Int32))) ||| (own_pt ((own_b q1) (2 : Int32).toInt.toNat) (2 : Int32))) ||| (own_pt ((own_b q1) (3 : Int32).toInt.toNat) (3 : Int32))) ||| (0 : Int64)) ||| (0 : Int64)) ||| (0 : Int64)) ||| (0 : Int64))), .second, .unset, .unset] [(.int (4 : Int32))])
    refine own_step (fun t k => XS.bipush X39.here hx rfl (hb hby at_88) k) ?_
    show own_Fin _ _ _ _ _ _ _ _ (mkF m 90 #[.val (.long q1), .second, .val (.int p2), .val (.int (4 : Int32)), .val (.ref bq31), .val (.long ((((((((own_pt ((own_b q1) (0 : Int32).toInt.toNat) (0 : Int32)) ||| (own_pt ((own_b q1) (1 : Int32).toInt.toNat) (1 : Int32))) ||| (own_pt ((own_b q1) (2 : Int32).toInt.toNat) (2 : Int32))) ||| (own_pt ((own_b q1) (3 : Int32).toInt.toNat) (3 : Int32))) ||| (0 : Int64)) ||| (0 : Int64)) ||| (0 : Int64)) ||| (0 : Int64))), .second, .unset, .unset] [(.int (8 : Int32)), (.int (4 : Int32))])
    refine own_step (fun t k => XS.icmpYes X39.here hx rfl (pc0 := 90) (pc' := 99) rfl (hb hby at_90) rfl (by decide) (by decide) (by decide) k) ?_
    show own_Fin _ _ _ _ _ _ _ _ (mkF m 99 #[.val (.long q1), .second, .val (.int p2), .val (.int (4 : Int32)), .val (.ref bq31), .val (.long ((((((((own_pt ((own_b q1) (0 : Int32).toInt.toNat) (0 : Int32)) ||| (own_pt ((own_b q1) (1 : Int32).toInt.toNat) (1 : Int32))) ||| (own_pt ((own_b q1) (2 : Int32).toInt.toNat) (2 : Int32))) ||| (own_pt ((own_b q1) (3 : Int32).toInt.toNat) (3 : Int32))) ||| (0 : Int64)) ||| (0 : Int64)) ||| (0 : Int64)) ||| (0 : Int64))), .second, .unset, .unset] [])
    refine own_step (fun t k => XS.lconst X39.here hx rfl (hb hby at_99) k) ?_
    show own_Fin _ _ _ _ _ _ _ _ (mkF m 100 #[.val (.long q1), .second, .val (.int p2), .val (.int (4 : Int32)), .val (.ref bq31), .val (.long ((((((((own_pt ((own_b q1) (0 : Int32).toInt.toNat) (0 : Int32)) ||| (own_pt ((own_b q1) (1 : Int32).toInt.toNat) (1 : Int32))) ||| (own_pt ((own_b q1) (2 : Int32).toInt.toNat) (2 : Int32))) ||| (own_pt ((own_b q1) (3 : Int32).toInt.toNat) (3 : Int32))) ||| (0 : Int64)) ||| (0 : Int64)) ||| (0 : Int64)) ||| (0 : Int64))), .second, .unset, .unset] [(.long (1 : Int64))])
    refine own_step (fun t k => XS.bipush X39.here hx rfl (hb hby at_100) k) ?_
    show own_Fin _ _ _ _ _ _ _ _ (mkF m 102 #[.val (.long q1), .second, .val (.int p2), .val (.int (4 : Int32)), .val (.ref bq31), .val (.long ((((((((own_pt ((own_b q1) (0 : Int32).toInt.toNat) (0 : Int32)) ||| (own_pt ((own_b q1) (1 : Int32).toInt.toNat) (1 : Int32))) ||| (own_pt ((own_b q1) (2 : Int32).toInt.toNat) (2 : Int32))) ||| (own_pt ((own_b q1) (3 : Int32).toInt.toNat) (3 : Int32))) ||| (0 : Int64)) ||| (0 : Int64)) ||| (0 : Int64)) ||| (0 : Int64))), .second, .unset, .unset] [(.int (8 : Int32)), (.long (1 : Int64))])
    refine own_step (fun t k => XS.iloadN X39.here hx rfl (hb hby at_102) rfl k) ?_
    show own_Fin _ _ _ _ _ _ _ _ (mkF m 103 #[.val (.long q1), .second, .val (.int p2), .val (.int (4 : Int32)), .val (.ref bq31), .val (.long ((((((((own_pt ((own_b q1) (0 : Int32).toInt.toNat) (0 : Int32)) ||| (own_pt ((own_b q1) (1 : Int32).toInt.toNat) (1 : Int32))) ||| (own_pt ((own_b q1) (2 : Int32).toInt.toNat) (2 : Int32))) ||| (own_pt ((own_b q1) (3 : Int32).toInt.toNat) (3 : Int32))) ||| (0 : Int64)) ||| (0 : Int64)) ||| (0 : Int64)) ||| (0 : Int64))), .second, .unset, .unset] [(.int (4 : Int32)), (.int (8 : Int32)), (.long (1 : Int64))])
    refine own_step (fun t k => XS.imul X39.here hx rfl (hb hby at_103) rfl k) ?_
    show own_Fin _ _ _ _ _ _ _ _ (mkF m 104 #[.val (.long q1), .second, .val (.int p2), .val (.int (4 : Int32)), .val (.ref bq31), .val (.long ((((((((own_pt ((own_b q1) (0 : Int32).toInt.toNat) (0 : Int32)) ||| (own_pt ((own_b q1) (1 : Int32).toInt.toNat) (1 : Int32))) ||| (own_pt ((own_b q1) (2 : Int32).toInt.toNat) (2 : Int32))) ||| (own_pt ((own_b q1) (3 : Int32).toInt.toNat) (3 : Int32))) ||| (0 : Int64)) ||| (0 : Int64)) ||| (0 : Int64)) ||| (0 : Int64))), .second, .unset, .unset] [(.int (32 : Int32)), (.long (1 : Int64))])
    refine own_step (fun t k => XS.lshl X39.here hx rfl (hb hby at_104) rfl k) ?_
    show own_Fin _ _ _ _ _ _ _ _ (mkF m 105 #[.val (.long q1), .second, .val (.int p2), .val (.int (4 : Int32)), .val (.ref bq31), .val (.long ((((((((own_pt ((own_b q1) (0 : Int32).toInt.toNat) (0 : Int32)) ||| (own_pt ((own_b q1) (1 : Int32).toInt.toNat) (1 : Int32))) ||| (own_pt ((own_b q1) (2 : Int32).toInt.toNat) (2 : Int32))) ||| (own_pt ((own_b q1) (3 : Int32).toInt.toNat) (3 : Int32))) ||| (0 : Int64)) ||| (0 : Int64)) ||| (0 : Int64)) ||| (0 : Int64))), .second, .unset, .unset] [(.long ((1 : Int64) <<< ((32 : Int32) &&& 0x3f).toInt64))])
    refine own_step (fun t k => XS.lconst X39.here hx rfl (hb hby at_105) k) ?_
    show own_Fin _ _ _ _ _ _ _ _ (mkF m 106 #[.val (.long q1), .second, .val (.int p2), .val (.int (4 : Int32)), .val (.ref bq31), .val (.long ((((((((own_pt ((own_b q1) (0 : Int32).toInt.toNat) (0 : Int32)) ||| (own_pt ((own_b q1) (1 : Int32).toInt.toNat) (1 : Int32))) ||| (own_pt ((own_b q1) (2 : Int32).toInt.toNat) (2 : Int32))) ||| (own_pt ((own_b q1) (3 : Int32).toInt.toNat) (3 : Int32))) ||| (0 : Int64)) ||| (0 : Int64)) ||| (0 : Int64)) ||| (0 : Int64))), .second, .unset, .unset] [(.long (1 : Int64)), (.long ((1 : Int64) <<< ((32 : Int32) &&& 0x3f).toInt64))])
    refine own_step (fun t k => XS.lsub X39.here hx rfl (hb hby at_106) rfl k) ?_
    show own_Fin _ _ _ _ _ _ _ _ (mkF m 107 #[.val (.long q1), .second, .val (.int p2), .val (.int (4 : Int32)), .val (.ref bq31), .val (.long ((((((((own_pt ((own_b q1) (0 : Int32).toInt.toNat) (0 : Int32)) ||| (own_pt ((own_b q1) (1 : Int32).toInt.toNat) (1 : Int32))) ||| (own_pt ((own_b q1) (2 : Int32).toInt.toNat) (2 : Int32))) ||| (own_pt ((own_b q1) (3 : Int32).toInt.toNat) (3 : Int32))) ||| (0 : Int64)) ||| (0 : Int64)) ||| (0 : Int64)) ||| (0 : Int64))), .second, .unset, .unset] [(.long (((1 : Int64) <<< ((32 : Int32) &&& 0x3f).toInt64) - (1 : Int64)))])
    refine own_step (fun t k => XS.lstore X39.here hx rfl (hb hby at_107) rfl (l' := #[.val (.long q1), .second, .val (.int p2), .val (.int (4 : Int32)), .val (.ref bq31), .val (.long ((((((((own_pt ((own_b q1) (0 : Int32).toInt.toNat) (0 : Int32)) ||| (own_pt ((own_b q1) (1 : Int32).toInt.toNat) (1 : Int32))) ||| (own_pt ((own_b q1) (2 : Int32).toInt.toNat) (2 : Int32))) ||| (own_pt ((own_b q1) (3 : Int32).toInt.toNat) (3 : Int32))) ||| (0 : Int64)) ||| (0 : Int64)) ||| (0 : Int64)) ||| (0 : Int64))), .second, .val (.long (((1 : Int64) <<< ((32 : Int32) &&& 0x3f).toInt64) - (1 : Int64))), .second]) rfl k) ?_
    show own_Fin _ _ _ _ _ _ _ _ (mkF m 109 #[.val (.long q1), .second, .val (.int p2), .val (.int (4 : Int32)), .val (.ref bq31), .val (.long ((((((((own_pt ((own_b q1) (0 : Int32).toInt.toNat) (0 : Int32)) ||| (own_pt ((own_b q1) (1 : Int32).toInt.toNat) (1 : Int32))) ||| (own_pt ((own_b q1) (2 : Int32).toInt.toNat) (2 : Int32))) ||| (own_pt ((own_b q1) (3 : Int32).toInt.toNat) (3 : Int32))) ||| (0 : Int64)) ||| (0 : Int64)) ||| (0 : Int64)) ||| (0 : Int64))), .second, .val (.long (((1 : Int64) <<< ((32 : Int32) &&& 0x3f).toInt64) - (1 : Int64))), .second] [])
    refine own_step (fun t k => XS.lload X39.here hx rfl (hb hby at_109) rfl k) ?_
    show own_Fin _ _ _ _ _ _ _ _ (mkF m 111 #[.val (.long q1), .second, .val (.int p2), .val (.int (4 : Int32)), .val (.ref bq31), .val (.long ((((((((own_pt ((own_b q1) (0 : Int32).toInt.toNat) (0 : Int32)) ||| (own_pt ((own_b q1) (1 : Int32).toInt.toNat) (1 : Int32))) ||| (own_pt ((own_b q1) (2 : Int32).toInt.toNat) (2 : Int32))) ||| (own_pt ((own_b q1) (3 : Int32).toInt.toNat) (3 : Int32))) ||| (0 : Int64)) ||| (0 : Int64)) ||| (0 : Int64)) ||| (0 : Int64))), .second, .val (.long (((1 : Int64) <<< ((32 : Int32) &&& 0x3f).toInt64) - (1 : Int64))), .second] [(.long ((((((((own_pt ((own_b q1) (0 : Int32).toInt.toNat) (0 : Int32)) ||| (own_pt ((own_b q1) (1 : Int32).toInt.toNat) (1 : Int32))) ||| (own_pt ((own_b q1) (2 : Int32).toInt.toNat) (2 : Int32))) ||| (own_pt ((own_b q1) (3 : Int32).toInt.toNat) (3 : Int32))) ||| (0 : Int64)) ||| (0 : Int64)) ||| (0 : Int64)) ||| (0 : Int64)))])
    refine own_step (fun t k => XS.lloadN X39.here hx rfl (hb hby at_111) rfl k) ?_
    show own_Fin _ _ _ _ _ _ _ _ (mkF m 112 #[.val (.long q1), .second, .val (.int p2), .val (.int (4 : Int32)), .val (.ref bq31), .val (.long ((((((((own_pt ((own_b q1) (0 : Int32).toInt.toNat) (0 : Int32)) ||| (own_pt ((own_b q1) (1 : Int32).toInt.toNat) (1 : Int32))) ||| (own_pt ((own_b q1) (2 : Int32).toInt.toNat) (2 : Int32))) ||| (own_pt ((own_b q1) (3 : Int32).toInt.toNat) (3 : Int32))) ||| (0 : Int64)) ||| (0 : Int64)) ||| (0 : Int64)) ||| (0 : Int64))), .second, .val (.long (((1 : Int64) <<< ((32 : Int32) &&& 0x3f).toInt64) - (1 : Int64))), .second] [(.long q1), (.long ((((((((own_pt ((own_b q1) (0 : Int32).toInt.toNat) (0 : Int32)) ||| (own_pt ((own_b q1) (1 : Int32).toInt.toNat) (1 : Int32))) ||| (own_pt ((own_b q1) (2 : Int32).toInt.toNat) (2 : Int32))) ||| (own_pt ((own_b q1) (3 : Int32).toInt.toNat) (3 : Int32))) ||| (0 : Int64)) ||| (0 : Int64)) ||| (0 : Int64)) ||| (0 : Int64)))])
    refine own_step (fun t k => XS.lload X39.here hx rfl (hb hby at_112) rfl k) ?_
    show own_Fin _ _ _ _ _ _ _ _ (mkF m 114 #[.val (.long q1), .second, .val (.int p2), .val (.int (4 : Int32)), .val (.ref bq31), .val (.long ((((((((own_pt ((own_b q1) (0 : Int32).toInt.toNat) (0 : Int32)) ||| (own_pt ((own_b q1) (1 : Int32).toInt.toNat) (1 : Int32))) ||| (own_pt ((own_b q1) (2 : Int32).toInt.toNat) (2 : Int32))) ||| (own_pt ((own_b q1) (3 : Int32).toInt.toNat) (3 : Int32))) ||| (0 : Int64)) ||| (0 : Int64)) ||| (0 : Int64)) ||| (0 : Int64))), .second, .val (.long (((1 : Int64) <<< ((32 : Int32) &&& 0x3f).toInt64) - (1 : Int64))), .second] [(.long (((1 : Int64) <<< ((32 : Int32) &&& 0x3f).toInt64) - (1 : Int64))), (.long q1), (.long ((((((((own_pt ((own_b q1) (0 : Int32).toInt.toNat) (0 : Int32)) ||| (own_pt ((own_b q1) (1 : Int32).toInt.toNat) (1 : Int32))) ||| (own_pt ((own_b q1) (2 : Int32).toInt.toNat) (2 : Int32))) ||| (own_pt ((own_b q1) (3 : Int32).toInt.toNat) (3 : Int32))) ||| (0 : Int64)) ||| (0 : Int64)) ||| (0 : Int64)) ||| (0 : Int64)))])
    refine own_step (fun t k => XS.land X39.here hx rfl (hb hby at_114) rfl k) ?_
    show own_Fin _ _ _ _ _ _ _ _ (mkF m 115 #[.val (.long q1), .second, .val (.int p2), .val (.int (4 : Int32)), .val (.ref bq31), .val (.long ((((((((own_pt ((own_b q1) (0 : Int32).toInt.toNat) (0 : Int32)) ||| (own_pt ((own_b q1) (1 : Int32).toInt.toNat) (1 : Int32))) ||| (own_pt ((own_b q1) (2 : Int32).toInt.toNat) (2 : Int32))) ||| (own_pt ((own_b q1) (3 : Int32).toInt.toNat) (3 : Int32))) ||| (0 : Int64)) ||| (0 : Int64)) ||| (0 : Int64)) ||| (0 : Int64))), .second, .val (.long (((1 : Int64) <<< ((32 : Int32) &&& 0x3f).toInt64) - (1 : Int64))), .second] [(.long (q1 &&& (((1 : Int64) <<< ((32 : Int32) &&& 0x3f).toInt64) - (1 : Int64)))), (.long ((((((((own_pt ((own_b q1) (0 : Int32).toInt.toNat) (0 : Int32)) ||| (own_pt ((own_b q1) (1 : Int32).toInt.toNat) (1 : Int32))) ||| (own_pt ((own_b q1) (2 : Int32).toInt.toNat) (2 : Int32))) ||| (own_pt ((own_b q1) (3 : Int32).toInt.toNat) (3 : Int32))) ||| (0 : Int64)) ||| (0 : Int64)) ||| (0 : Int64)) ||| (0 : Int64)))])
    refine own_step (fun t k => XS.lcmp X39.here hx rfl (hb hby at_115) rfl k) ?_
    show own_Fin _ _ _ _ _ _ _ _ (mkF m 116 #[.val (.long q1), .second, .val (.int p2), .val (.int (4 : Int32)), .val (.ref bq31), .val (.long ((((((((own_pt ((own_b q1) (0 : Int32).toInt.toNat) (0 : Int32)) ||| (own_pt ((own_b q1) (1 : Int32).toInt.toNat) (1 : Int32))) ||| (own_pt ((own_b q1) (2 : Int32).toInt.toNat) (2 : Int32))) ||| (own_pt ((own_b q1) (3 : Int32).toInt.toNat) (3 : Int32))) ||| (0 : Int64)) ||| (0 : Int64)) ||| (0 : Int64)) ||| (0 : Int64))), .second, .val (.long (((1 : Int64) <<< ((32 : Int32) &&& 0x3f).toInt64) - (1 : Int64))), .second] [(.int (lcmpW ((((((((own_pt ((own_b q1) (0 : Int32).toInt.toNat) (0 : Int32)) ||| (own_pt ((own_b q1) (1 : Int32).toInt.toNat) (1 : Int32))) ||| (own_pt ((own_b q1) (2 : Int32).toInt.toNat) (2 : Int32))) ||| (own_pt ((own_b q1) (3 : Int32).toInt.toNat) (3 : Int32))) ||| (0 : Int64)) ||| (0 : Int64)) ||| (0 : Int64)) ||| (0 : Int64)) (q1 &&& (((1 : Int64) <<< ((32 : Int32) &&& 0x3f).toInt64) - (1 : Int64)))))])
    have hc40 : (((((((((own_pt ((own_b q1) (0 : Int32).toInt.toNat) (0 : Int32)) ||| (own_pt ((own_b q1) (1 : Int32).toInt.toNat) (1 : Int32))) ||| (own_pt ((own_b q1) (2 : Int32).toInt.toNat) (2 : Int32))) ||| (own_pt ((own_b q1) (3 : Int32).toInt.toNat) (3 : Int32))) ||| (0 : Int64)) ||| (0 : Int64)) ||| (0 : Int64)) ||| (0 : Int64))).toInt = ((q1 &&& (((1 : Int64) <<< ((32 : Int32) &&& 0x3f).toInt64) - (1 : Int64)))).toInt := congrArg Int64.toInt (own_fin4 q1)
    refine own_step (fun t k => XS.ifNo X39.here hx rfl (hb hby at_116) rfl (own_le (x := ((((((((own_pt ((own_b q1) (0 : Int32).toInt.toNat) (0 : Int32)) ||| (own_pt ((own_b q1) (1 : Int32).toInt.toNat) (1 : Int32))) ||| (own_pt ((own_b q1) (2 : Int32).toInt.toNat) (2 : Int32))) ||| (own_pt ((own_b q1) (3 : Int32).toInt.toNat) (3 : Int32))) ||| (0 : Int64)) ||| (0 : Int64)) ||| (0 : Int64)) ||| (0 : Int64))) (y := (q1 &&& (((1 : Int64) <<< ((32 : Int32) &&& 0x3f).toInt64) - (1 : Int64)))) rfl rfl hc40).2 k) ?_
    show own_Fin _ _ _ _ _ _ _ _ (mkF m 119 #[.val (.long q1), .second, .val (.int p2), .val (.int (4 : Int32)), .val (.ref bq31), .val (.long ((((((((own_pt ((own_b q1) (0 : Int32).toInt.toNat) (0 : Int32)) ||| (own_pt ((own_b q1) (1 : Int32).toInt.toNat) (1 : Int32))) ||| (own_pt ((own_b q1) (2 : Int32).toInt.toNat) (2 : Int32))) ||| (own_pt ((own_b q1) (3 : Int32).toInt.toNat) (3 : Int32))) ||| (0 : Int64)) ||| (0 : Int64)) ||| (0 : Int64)) ||| (0 : Int64))), .second, .val (.long (((1 : Int64) <<< ((32 : Int32) &&& 0x3f).toInt64) - (1 : Int64))), .second] [])
    refine own_step (fun t k => XS.iconst X39.here hx rfl (hb hby at_119) k) ?_
    show own_Fin _ _ _ _ _ _ _ _ (mkF m 120 #[.val (.long q1), .second, .val (.int p2), .val (.int (4 : Int32)), .val (.ref bq31), .val (.long ((((((((own_pt ((own_b q1) (0 : Int32).toInt.toNat) (0 : Int32)) ||| (own_pt ((own_b q1) (1 : Int32).toInt.toNat) (1 : Int32))) ||| (own_pt ((own_b q1) (2 : Int32).toInt.toNat) (2 : Int32))) ||| (own_pt ((own_b q1) (3 : Int32).toInt.toNat) (3 : Int32))) ||| (0 : Int64)) ||| (0 : Int64)) ||| (0 : Int64)) ||| (0 : Int64))), .second, .val (.long (((1 : Int64) <<< ((32 : Int32) &&& 0x3f).toInt64) - (1 : Int64))), .second] [(.int (1 : Int32))])
    refine own_step (fun t k => XS.goto X39.here hx rfl (pc0 := 120) (pc' := 124) rfl (hb hby at_120) (by decide) (by decide) k) ?_
    show own_Fin _ _ _ _ _ _ _ _ (mkF m 124 #[.val (.long q1), .second, .val (.int p2), .val (.int (4 : Int32)), .val (.ref bq31), .val (.long ((((((((own_pt ((own_b q1) (0 : Int32).toInt.toNat) (0 : Int32)) ||| (own_pt ((own_b q1) (1 : Int32).toInt.toNat) (1 : Int32))) ||| (own_pt ((own_b q1) (2 : Int32).toInt.toNat) (2 : Int32))) ||| (own_pt ((own_b q1) (3 : Int32).toInt.toNat) (3 : Int32))) ||| (0 : Int64)) ||| (0 : Int64)) ||| (0 : Int64)) ||| (0 : Int64))), .second, .val (.long (((1 : Int64) <<< ((32 : Int32) &&& 0x3f).toInt64) - (1 : Int64))), .second] [(.int (1 : Int32))])
    refine own_retZ X39 hx hlk Bd.returns (hb hby at_124) (z' := (1 : Int32)) (by decide) (by decide) (by decide) hh39 ?_
    exact ⟨rfl, Nf⟩
  · skip
    show own_Fin _ _ _ _ _ _ _ _ (mkF m 7 #[.val (.long q1), .second, .val (.int p2), .val (.int (5 : Int32)), .unset, .unset, .unset, .unset, .unset] [])
    refine own_step (fun t k => XS.lloadN X0.here hx rfl (hb hby at_7) rfl k) ?_
    show own_Fin _ _ _ _ _ _ _ _ (mkF m 8 #[.val (.long q1), .second, .val (.int p2), .val (.int (5 : Int32)), .unset, .unset, .unset, .unset, .unset] [(.long q1)])
    refine own_step (fun t k => XS.iloadN X0.here hx rfl (hb hby at_8) rfl k) ?_
    show own_Fin _ _ _ _ _ _ _ _ (mkF m 9 #[.val (.long q1), .second, .val (.int p2), .val (.int (5 : Int32)), .unset, .unset, .unset, .unset, .unset] [(.int (5 : Int32)), (.long q1)])
    obtain ⟨_, _, ⟨T41, L41, k41, n41⟩, -, X41, ⟨Lc41, hQ41, l41, y41, z41⟩, st41⟩ := Jvm.LawKit.callS X0 hx (y := (⟨"com/example/kern_tablet/kerntablet/schema/IntegerHandler", "littleEndian", "(JI)[B"⟩ : MethodName)) hown (mvT hZ (hw _ (List.mem_of_getElem? (i := 0) rfl))) (mvT hZ (hw _ (List.mem_of_getElem? (i := 1) rfl))) (mvT hZ (hw _ (List.mem_of_getElem? (i := 2) rfl))) (mvT hZ (hw _ (List.mem_of_getElem? (i := 3) rfl))) (by decide) (backOf (W := 0) (rm15 l Z a0 hw [] q1 h0 n0 Zs) hZ (hw _ (List.mem_of_getElem? (i := 3) rfl)) (hw _ (List.mem_of_getElem? (i := 2) rfl)) (by decide) (by decide)) (g := (mkF m 9 #[.val (.long q1), .second, .val (.int p2), .val (.int (5 : Int32)), .unset, .unset, .unset, .unset, .unset] [(.int (5 : Int32)), (.long q1)])) rfl (by rw [hml]; rfl) (argsL := [(.long q1), (.int (5 : Int32))]) (rest := []) (lenOf own_pd_0 rfl) rfl (by show 2 * 0 + _ ≤ _; exact Nat.le_of_eq rfl) (hb hby at_9) (fun _ _ => ⟨rfl, e0, (by decide : 0 + 1 ≤ _), (by decide : 0 + 5 ≤ _)⟩)
    dsimp only [Pt.U, Pt.locs, Pt.cells, Pt.slots] at X41 l41 y41 z41 st41 hQ41
    rw [l41, y41, z41] at X41
    obtain ⟨bq41, rfl, Nq41, Kq41, gq41, P41⟩ := hQ41
    replace Nf := Fr.app Nf Nq41
    replace Zs := Nat.le_trans Zs Kq41.1
    have V_bq41 := P41
    refine own_step st41 ?_
    show own_Fin _ _ _ _ _ _ _ _ (mkF m 12 #[.val (.long q1), .second, .val (.int p2), .val (.int (5 : Int32)), .unset, .unset, .unset, .unset, .unset] [(.ref bq41)])
    refine own_step (fun t k => XS.astore X41.here hx rfl (hb hby at_12) rfl rfl (l' := #[.val (.long q1), .second, .val (.int p2), .val (.int (5 : Int32)), .val (.ref bq41), .unset, .unset, .unset, .unset]) rfl k) ?_
    show own_Fin _ _ _ _ _ _ _ _ (mkF m 14 #[.val (.long q1), .second, .val (.int p2), .val (.int (5 : Int32)), .val (.ref bq41), .unset, .unset, .unset, .unset] [])
    refine own_step (fun t k => XS.aload X41.here hx rfl (hb hby at_14) rfl rfl k) ?_
    show own_Fin _ _ _ _ _ _ _ _ (mkF m 16 #[.val (.long q1), .second, .val (.int p2), .val (.int (5 : Int32)), .val (.ref bq41), .unset, .unset, .unset, .unset] [(.ref bq41)])
    refine own_step (fun t k => XS.ifnullNo X41.here hx rfl (hb hby at_16) rfl k) ?_
    show own_Fin _ _ _ _ _ _ _ _ (mkF m 19 #[.val (.long q1), .second, .val (.int p2), .val (.int (5 : Int32)), .val (.ref bq41), .unset, .unset, .unset, .unset] [])
    refine own_step (fun t k => XS.aload X41.here hx rfl (hb hby at_19) rfl rfl k) ?_
    show own_Fin _ _ _ _ _ _ _ _ (mkF m 21 #[.val (.long q1), .second, .val (.int p2), .val (.int (5 : Int32)), .val (.ref bq41), .unset, .unset, .unset, .unset] [(.ref bq41)])
    refine own_arrlen X41 hx hZ rfl V_bq41 (z := (5 : Int32)) rfl (hb hby at_21) rfl ?_
    show own_Fin _ _ _ _ _ _ _ _ (mkF m 22 #[.val (.long q1), .second, .val (.int p2), .val (.int (5 : Int32)), .val (.ref bq41), .unset, .unset, .unset, .unset] [(.int (5 : Int32))])
    refine own_step (fun t k => XS.iloadN X41.here hx rfl (hb hby at_22) rfl k) ?_
    show own_Fin _ _ _ _ _ _ _ _ (mkF m 23 #[.val (.long q1), .second, .val (.int p2), .val (.int (5 : Int32)), .val (.ref bq41), .unset, .unset, .unset, .unset] [(.int (5 : Int32)), (.int (5 : Int32))])
    refine own_step (fun t k => XS.icmpYes X41.here hx rfl (pc0 := 23) (pc' := 28) rfl (hb hby at_23) rfl (by decide) (by decide) (by decide) k) ?_
    show own_Fin _ _ _ _ _ _ _ _ (mkF m 28 #[.val (.long q1), .second, .val (.int p2), .val (.int (5 : Int32)), .val (.ref bq41), .unset, .unset, .unset, .unset] [])
    refine own_step (fun t k => XS.aload X41.here hx rfl (hb hby at_28) rfl rfl k) ?_
    show own_Fin _ _ _ _ _ _ _ _ (mkF m 30 #[.val (.long q1), .second, .val (.int p2), .val (.int (5 : Int32)), .val (.ref bq41), .unset, .unset, .unset, .unset] [(.ref bq41)])
    refine own_step (fun t k => XS.iconst X41.here hx rfl (hb hby at_30) k) ?_
    show own_Fin _ _ _ _ _ _ _ _ (mkF m 31 #[.val (.long q1), .second, .val (.int p2), .val (.int (5 : Int32)), .val (.ref bq41), .unset, .unset, .unset, .unset] [(.int (0 : Int32)), (.ref bq41)])
    obtain ⟨_, _, ⟨T42, L42, k42, n42⟩, -, X42, ⟨Lc42, hQ42, l42, y42, z42⟩, st42⟩ := Jvm.LawKit.callS X41 hx (y := (⟨"com/example/kern_tablet/kerntablet/schema/IntegerHandlerLittleEndianPinLaw", "part", "([BI)J"⟩ : MethodName)) hown (mvT hZ (hw _ (List.mem_of_getElem? (i := 5) rfl))) (mvT hZ (hw _ (List.mem_of_getElem? (i := 6) rfl))) (mvT hZ (hw _ (List.mem_of_getElem? (i := 7) rfl))) (mvT hZ (hw _ (List.mem_of_getElem? (i := 8) rfl))) (by decide) (backOf (W := 0) (rm20 l Z a0 hw [] bq41 (0 : Int32) _ _ (5 : Int32) T41.heap n0 Zs V_bq41 rfl (by decide) (by decide)) hZ (hw _ (List.mem_of_getElem? (i := 8) rfl)) (hw _ (List.mem_of_getElem? (i := 7) rfl)) (by decide) (by decide)) (g := (mkF m 31 #[.val (.long q1), .second, .val (.int p2), .val (.int (5 : Int32)), .val (.ref bq41), .unset, .unset, .unset, .unset] [(.int (0 : Int32)), (.ref bq41)])) rfl (by rw [hml]; rfl) (argsL := [(.ref bq41), (.int (0 : Int32))]) (rest := []) (lenOf own_pd_1 rfl) rfl (by show 2 * 0 + _ ≤ _; exact Nat.le_of_eq rfl) (hb hby at_31) (fun _ _ => ⟨rfl, rfl, (by decide : 1 + 0 ≤ _), (by decide : 5 + 0 ≤ _)⟩)
    dsimp only [Pt.U, Pt.locs, Pt.cells, Pt.slots] at X42 l42 y42 z42 st42 hQ42
    rw [l42, y42, z42] at X42
    obtain ⟨rfl, Nq42, hh42⟩ := hQ42
    replace Nf := Fr.app Nf Nq42
    refine own_step st42 ?_
    show own_Fin _ _ _ _ _ _ _ _ (mkF m 34 #[.val (.long q1), .second, .val (.int p2), .val (.int (5 : Int32)), .val (.ref bq41), .unset, .unset, .unset, .unset] [(.long (own_pt ((own_b q1) (0 : Int32).toInt.toNat) (0 : Int32)))])
    refine own_step (fun t k => XS.aload X42.here hx rfl (hb hby at_34) rfl rfl k) ?_
    show own_Fin _ _ _ _ _ _ _ _ (mkF m 36 #[.val (.long q1), .second, .val (.int p2), .val (.int (5 : Int32)), .val (.ref bq41), .unset, .unset, .unset, .unset] [(.ref bq41), (.long (own_pt ((own_b q1) (0 : Int32).toInt.toNat) (0 : Int32)))])
    refine own_step (fun t k => XS.iconst X42.here hx rfl (hb hby at_36) k) ?_
    show own_Fin _ _ _ _ _ _ _ _ (mkF m 37 #[.val (.long q1), .second, .val (.int p2), .val (.int (5 : Int32)), .val (.ref bq41), .unset, .unset, .unset, .unset] [(.int (1 : Int32)), (.ref bq41), (.long (own_pt ((own_b q1) (0 : Int32).toInt.toNat) (0 : Int32)))])
    obtain ⟨_, _, ⟨T43, L43, k43, n43⟩, -, X43, ⟨Lc43, hQ43, l43, y43, z43⟩, st43⟩ := Jvm.LawKit.callS X42 hx (y := (⟨"com/example/kern_tablet/kerntablet/schema/IntegerHandlerLittleEndianPinLaw", "part", "([BI)J"⟩ : MethodName)) hown (mvT hZ (hw _ (List.mem_of_getElem? (i := 5) rfl))) (mvT hZ (hw _ (List.mem_of_getElem? (i := 6) rfl))) (mvT hZ (hw _ (List.mem_of_getElem? (i := 7) rfl))) (mvT hZ (hw _ (List.mem_of_getElem? (i := 8) rfl))) (by decide) (backOf (W := 2) (rm20 l Z a0 hw [] bq41 (1 : Int32) _ _ (5 : Int32) T41.heap n0 Zs V_bq41 rfl (by decide) (by decide)) hZ (hw _ (List.mem_of_getElem? (i := 8) rfl)) (hw _ (List.mem_of_getElem? (i := 7) rfl)) (by decide) (by decide)) (g := (mkF m 37 #[.val (.long q1), .second, .val (.int p2), .val (.int (5 : Int32)), .val (.ref bq41), .unset, .unset, .unset, .unset] [(.int (1 : Int32)), (.ref bq41), (.long (own_pt ((own_b q1) (0 : Int32).toInt.toNat) (0 : Int32)))])) rfl (by rw [hml]; rfl) (argsL := [(.ref bq41), (.int (1 : Int32))]) (rest := [(.long (own_pt ((own_b q1) (0 : Int32).toInt.toNat) (0 : Int32)))]) (lenOf own_pd_1 rfl) rfl (by show 2 * 0 + _ ≤ _; exact Nat.le_of_eq rfl) (hb hby at_37) (fun _ _ => ⟨rfl, hh42, (by decide : 1 + 0 ≤ _), (by decide : 5 + 0 ≤ _)⟩)
    dsimp only [Pt.U, Pt.locs, Pt.cells, Pt.slots] at X43 l43 y43 z43 st43 hQ43
    rw [l43, y43, z43] at X43
    obtain ⟨rfl, Nq43, hh43⟩ := hQ43
    replace Nf := Fr.app Nf Nq43
    refine own_step st43 ?_
    show own_Fin _ _ _ _ _ _ _ _ (mkF m 40 #[.val (.long q1), .second, .val (.int p2), .val (.int (5 : Int32)), .val (.ref bq41), .unset, .unset, .unset, .unset] [(.long (own_pt ((own_b q1) (1 : Int32).toInt.toNat) (1 : Int32))), (.long (own_pt ((own_b q1) (0 : Int32).toInt.toNat) (0 : Int32)))])
    refine own_step (fun t k => XS.lor X43.here hx rfl (hb hby at_40) rfl k) ?_
    show own_Fin _ _ _ _ _ _ _ _ (mkF m 41 #[.val (.long q1), .second, .val (.int p2), .val (.int (5 : Int32)), .val (.ref bq41), .unset, .unset, .unset, .unset] [(.long ((own_pt ((own_b q1) (0 : Int32).toInt.toNat) (0 : Int32)) ||| (own_pt ((own_b q1) (1 : Int32).toInt.toNat) (1 : Int32))))])
    refine own_step (fun t k => XS.aload X43.here hx rfl (hb hby at_41) rfl rfl k) ?_
    show own_Fin _ _ _ _ _ _ _ _ (mkF m 43 #[.val (.long q1), .second, .val (.int p2), .val (.int (5 : Int32)), .val (.ref bq41), .unset, .unset, .unset, .unset] [(.ref bq41), (.long ((own_pt ((own_b q1) (0 : Int32).toInt.toNat) (0 : Int32)) ||| (own_pt ((own_b q1) (1 : Int32).toInt.toNat) (1 : Int32))))])
    refine own_step (fun t k => XS.iconst X43.here hx rfl (hb hby at_43) k) ?_
    show own_Fin _ _ _ _ _ _ _ _ (mkF m 44 #[.val (.long q1), .second, .val (.int p2), .val (.int (5 : Int32)), .val (.ref bq41), .unset, .unset, .unset, .unset] [(.int (2 : Int32)), (.ref bq41), (.long ((own_pt ((own_b q1) (0 : Int32).toInt.toNat) (0 : Int32)) ||| (own_pt ((own_b q1) (1 : Int32).toInt.toNat) (1 : Int32))))])
    obtain ⟨_, _, ⟨T44, L44, k44, n44⟩, -, X44, ⟨Lc44, hQ44, l44, y44, z44⟩, st44⟩ := Jvm.LawKit.callS X43 hx (y := (⟨"com/example/kern_tablet/kerntablet/schema/IntegerHandlerLittleEndianPinLaw", "part", "([BI)J"⟩ : MethodName)) hown (mvT hZ (hw _ (List.mem_of_getElem? (i := 5) rfl))) (mvT hZ (hw _ (List.mem_of_getElem? (i := 6) rfl))) (mvT hZ (hw _ (List.mem_of_getElem? (i := 7) rfl))) (mvT hZ (hw _ (List.mem_of_getElem? (i := 8) rfl))) (by decide) (backOf (W := 2) (rm20 l Z a0 hw [] bq41 (2 : Int32) _ _ (5 : Int32) T41.heap n0 Zs V_bq41 rfl (by decide) (by decide)) hZ (hw _ (List.mem_of_getElem? (i := 8) rfl)) (hw _ (List.mem_of_getElem? (i := 7) rfl)) (by decide) (by decide)) (g := (mkF m 44 #[.val (.long q1), .second, .val (.int p2), .val (.int (5 : Int32)), .val (.ref bq41), .unset, .unset, .unset, .unset] [(.int (2 : Int32)), (.ref bq41), (.long ((own_pt ((own_b q1) (0 : Int32).toInt.toNat) (0 : Int32)) ||| (own_pt ((own_b q1) (1 : Int32).toInt.toNat) (1 : Int32))))])) rfl (by rw [hml]; rfl) (argsL := [(.ref bq41), (.int (2 : Int32))]) (rest := [(.long ((own_pt ((own_b q1) (0 : Int32).toInt.toNat) (0 : Int32)) ||| (own_pt ((own_b q1) (1 : Int32).toInt.toNat) (1 : Int32))))]) (lenOf own_pd_1 rfl) rfl (by show 2 * 0 + _ ≤ _; exact Nat.le_of_eq rfl) (hb hby at_44) (fun _ _ => ⟨rfl, hh43, (by decide : 1 + 0 ≤ _), (by decide : 5 + 0 ≤ _)⟩)
    dsimp only [Pt.U, Pt.locs, Pt.cells, Pt.slots] at X44 l44 y44 z44 st44 hQ44
    rw [l44, y44, z44] at X44
    obtain ⟨rfl, Nq44, hh44⟩ := hQ44
    replace Nf := Fr.app Nf Nq44
    refine own_step st44 ?_
    show own_Fin _ _ _ _ _ _ _ _ (mkF m 47 #[.val (.long q1), .second, .val (.int p2), .val (.int (5 : Int32)), .val (.ref bq41), .unset, .unset, .unset, .unset] [(.long (own_pt ((own_b q1) (2 : Int32).toInt.toNat) (2 : Int32))), (.long ((own_pt ((own_b q1) (0 : Int32).toInt.toNat) (0 : Int32)) ||| (own_pt ((own_b q1) (1 : Int32).toInt.toNat) (1 : Int32))))])
    refine own_step (fun t k => XS.lor X44.here hx rfl (hb hby at_47) rfl k) ?_
    show own_Fin _ _ _ _ _ _ _ _ (mkF m 48 #[.val (.long q1), .second, .val (.int p2), .val (.int (5 : Int32)), .val (.ref bq41), .unset, .unset, .unset, .unset] [(.long (((own_pt ((own_b q1) (0 : Int32).toInt.toNat) (0 : Int32)) ||| (own_pt ((own_b q1) (1 : Int32).toInt.toNat) (1 : Int32))) ||| (own_pt ((own_b q1) (2 : Int32).toInt.toNat) (2 : Int32))))])
    refine own_step (fun t k => XS.aload X44.here hx rfl (hb hby at_48) rfl rfl k) ?_
    show own_Fin _ _ _ _ _ _ _ _ (mkF m 50 #[.val (.long q1), .second, .val (.int p2), .val (.int (5 : Int32)), .val (.ref bq41), .unset, .unset, .unset, .unset] [(.ref bq41), (.long (((own_pt ((own_b q1) (0 : Int32).toInt.toNat) (0 : Int32)) ||| (own_pt ((own_b q1) (1 : Int32).toInt.toNat) (1 : Int32))) ||| (own_pt ((own_b q1) (2 : Int32).toInt.toNat) (2 : Int32))))])
    refine own_step (fun t k => XS.iconst X44.here hx rfl (hb hby at_50) k) ?_
    show own_Fin _ _ _ _ _ _ _ _ (mkF m 51 #[.val (.long q1), .second, .val (.int p2), .val (.int (5 : Int32)), .val (.ref bq41), .unset, .unset, .unset, .unset] [(.int (3 : Int32)), (.ref bq41), (.long (((own_pt ((own_b q1) (0 : Int32).toInt.toNat) (0 : Int32)) ||| (own_pt ((own_b q1) (1 : Int32).toInt.toNat) (1 : Int32))) ||| (own_pt ((own_b q1) (2 : Int32).toInt.toNat) (2 : Int32))))])
    obtain ⟨_, _, ⟨T45, L45, k45, n45⟩, -, X45, ⟨Lc45, hQ45, l45, y45, z45⟩, st45⟩ := Jvm.LawKit.callS X44 hx (y := (⟨"com/example/kern_tablet/kerntablet/schema/IntegerHandlerLittleEndianPinLaw", "part", "([BI)J"⟩ : MethodName)) hown (mvT hZ (hw _ (List.mem_of_getElem? (i := 5) rfl))) (mvT hZ (hw _ (List.mem_of_getElem? (i := 6) rfl))) (mvT hZ (hw _ (List.mem_of_getElem? (i := 7) rfl))) (mvT hZ (hw _ (List.mem_of_getElem? (i := 8) rfl))) (by decide) (backOf (W := 2) (rm20 l Z a0 hw [] bq41 (3 : Int32) _ _ (5 : Int32) T41.heap n0 Zs V_bq41 rfl (by decide) (by decide)) hZ (hw _ (List.mem_of_getElem? (i := 8) rfl)) (hw _ (List.mem_of_getElem? (i := 7) rfl)) (by decide) (by decide)) (g := (mkF m 51 #[.val (.long q1), .second, .val (.int p2), .val (.int (5 : Int32)), .val (.ref bq41), .unset, .unset, .unset, .unset] [(.int (3 : Int32)), (.ref bq41), (.long (((own_pt ((own_b q1) (0 : Int32).toInt.toNat) (0 : Int32)) ||| (own_pt ((own_b q1) (1 : Int32).toInt.toNat) (1 : Int32))) ||| (own_pt ((own_b q1) (2 : Int32).toInt.toNat) (2 : Int32))))])) rfl (by rw [hml]; rfl) (argsL := [(.ref bq41), (.int (3 : Int32))]) (rest := [(.long (((own_pt ((own_b q1) (0 : Int32).toInt.toNat) (0 : Int32)) ||| (own_pt ((own_b q1) (1 : Int32).toInt.toNat) (1 : Int32))) ||| (own_pt ((own_b q1) (2 : Int32).toInt.toNat) (2 : Int32))))]) (lenOf own_pd_1 rfl) rfl (by show 2 * 0 + _ ≤ _; exact Nat.le_of_eq rfl) (hb hby at_51) (fun _ _ => ⟨rfl, hh44, (by decide : 1 + 0 ≤ _), (by decide : 5 + 0 ≤ _)⟩)
    dsimp only [Pt.U, Pt.locs, Pt.cells, Pt.slots] at X45 l45 y45 z45 st45 hQ45
    rw [l45, y45, z45] at X45
    obtain ⟨rfl, Nq45, hh45⟩ := hQ45
    replace Nf := Fr.app Nf Nq45
    refine own_step st45 ?_
    show own_Fin _ _ _ _ _ _ _ _ (mkF m 54 #[.val (.long q1), .second, .val (.int p2), .val (.int (5 : Int32)), .val (.ref bq41), .unset, .unset, .unset, .unset] [(.long (own_pt ((own_b q1) (3 : Int32).toInt.toNat) (3 : Int32))), (.long (((own_pt ((own_b q1) (0 : Int32).toInt.toNat) (0 : Int32)) ||| (own_pt ((own_b q1) (1 : Int32).toInt.toNat) (1 : Int32))) ||| (own_pt ((own_b q1) (2 : Int32).toInt.toNat) (2 : Int32))))])
    refine own_step (fun t k => XS.lor X45.here hx rfl (hb hby at_54) rfl k) ?_
    show own_Fin _ _ _ _ _ _ _ _ (mkF m 55 #[.val (.long q1), .second, .val (.int p2), .val (.int (5 : Int32)), .val (.ref bq41), .unset, .unset, .unset, .unset] [(.long ((((own_pt ((own_b q1) (0 : Int32).toInt.toNat) (0 : Int32)) ||| (own_pt ((own_b q1) (1 : Int32).toInt.toNat) (1 : Int32))) ||| (own_pt ((own_b q1) (2 : Int32).toInt.toNat) (2 : Int32))) ||| (own_pt ((own_b q1) (3 : Int32).toInt.toNat) (3 : Int32))))])
    refine own_step (fun t k => XS.aload X45.here hx rfl (hb hby at_55) rfl rfl k) ?_
    show own_Fin _ _ _ _ _ _ _ _ (mkF m 57 #[.val (.long q1), .second, .val (.int p2), .val (.int (5 : Int32)), .val (.ref bq41), .unset, .unset, .unset, .unset] [(.ref bq41), (.long ((((own_pt ((own_b q1) (0 : Int32).toInt.toNat) (0 : Int32)) ||| (own_pt ((own_b q1) (1 : Int32).toInt.toNat) (1 : Int32))) ||| (own_pt ((own_b q1) (2 : Int32).toInt.toNat) (2 : Int32))) ||| (own_pt ((own_b q1) (3 : Int32).toInt.toNat) (3 : Int32))))])
    refine own_step (fun t k => XS.iconst X45.here hx rfl (hb hby at_57) k) ?_
    show own_Fin _ _ _ _ _ _ _ _ (mkF m 58 #[.val (.long q1), .second, .val (.int p2), .val (.int (5 : Int32)), .val (.ref bq41), .unset, .unset, .unset, .unset] [(.int (4 : Int32)), (.ref bq41), (.long ((((own_pt ((own_b q1) (0 : Int32).toInt.toNat) (0 : Int32)) ||| (own_pt ((own_b q1) (1 : Int32).toInt.toNat) (1 : Int32))) ||| (own_pt ((own_b q1) (2 : Int32).toInt.toNat) (2 : Int32))) ||| (own_pt ((own_b q1) (3 : Int32).toInt.toNat) (3 : Int32))))])
    obtain ⟨_, _, ⟨T46, L46, k46, n46⟩, -, X46, ⟨Lc46, hQ46, l46, y46, z46⟩, st46⟩ := Jvm.LawKit.callS X45 hx (y := (⟨"com/example/kern_tablet/kerntablet/schema/IntegerHandlerLittleEndianPinLaw", "part", "([BI)J"⟩ : MethodName)) hown (mvT hZ (hw _ (List.mem_of_getElem? (i := 5) rfl))) (mvT hZ (hw _ (List.mem_of_getElem? (i := 6) rfl))) (mvT hZ (hw _ (List.mem_of_getElem? (i := 7) rfl))) (mvT hZ (hw _ (List.mem_of_getElem? (i := 8) rfl))) (by decide) (backOf (W := 2) (rm20 l Z a0 hw [] bq41 (4 : Int32) _ _ (5 : Int32) T41.heap n0 Zs V_bq41 rfl (by decide) (by decide)) hZ (hw _ (List.mem_of_getElem? (i := 8) rfl)) (hw _ (List.mem_of_getElem? (i := 7) rfl)) (by decide) (by decide)) (g := (mkF m 58 #[.val (.long q1), .second, .val (.int p2), .val (.int (5 : Int32)), .val (.ref bq41), .unset, .unset, .unset, .unset] [(.int (4 : Int32)), (.ref bq41), (.long ((((own_pt ((own_b q1) (0 : Int32).toInt.toNat) (0 : Int32)) ||| (own_pt ((own_b q1) (1 : Int32).toInt.toNat) (1 : Int32))) ||| (own_pt ((own_b q1) (2 : Int32).toInt.toNat) (2 : Int32))) ||| (own_pt ((own_b q1) (3 : Int32).toInt.toNat) (3 : Int32))))])) rfl (by rw [hml]; rfl) (argsL := [(.ref bq41), (.int (4 : Int32))]) (rest := [(.long ((((own_pt ((own_b q1) (0 : Int32).toInt.toNat) (0 : Int32)) ||| (own_pt ((own_b q1) (1 : Int32).toInt.toNat) (1 : Int32))) ||| (own_pt ((own_b q1) (2 : Int32).toInt.toNat) (2 : Int32))) ||| (own_pt ((own_b q1) (3 : Int32).toInt.toNat) (3 : Int32))))]) (lenOf own_pd_1 rfl) rfl (by show 2 * 0 + _ ≤ _; exact Nat.le_of_eq rfl) (hb hby at_58) (fun _ _ => ⟨rfl, hh45, (by decide : 1 + 0 ≤ _), (by decide : 5 + 0 ≤ _)⟩)
    dsimp only [Pt.U, Pt.locs, Pt.cells, Pt.slots] at X46 l46 y46 z46 st46 hQ46
    rw [l46, y46, z46] at X46
    obtain ⟨rfl, Nq46, hh46⟩ := hQ46
    replace Nf := Fr.app Nf Nq46
    refine own_step st46 ?_
    show own_Fin _ _ _ _ _ _ _ _ (mkF m 61 #[.val (.long q1), .second, .val (.int p2), .val (.int (5 : Int32)), .val (.ref bq41), .unset, .unset, .unset, .unset] [(.long (own_pt ((own_b q1) (4 : Int32).toInt.toNat) (4 : Int32))), (.long ((((own_pt ((own_b q1) (0 : Int32).toInt.toNat) (0 : Int32)) ||| (own_pt ((own_b q1) (1 : Int32).toInt.toNat) (1 : Int32))) ||| (own_pt ((own_b q1) (2 : Int32).toInt.toNat) (2 : Int32))) ||| (own_pt ((own_b q1) (3 : Int32).toInt.toNat) (3 : Int32))))])
    refine own_step (fun t k => XS.lor X46.here hx rfl (hb hby at_61) rfl k) ?_
    show own_Fin _ _ _ _ _ _ _ _ (mkF m 62 #[.val (.long q1), .second, .val (.int p2), .val (.int (5 : Int32)), .val (.ref bq41), .unset, .unset, .unset, .unset] [(.long (((((own_pt ((own_b q1) (0 : Int32).toInt.toNat) (0 : Int32)) ||| (own_pt ((own_b q1) (1 : Int32).toInt.toNat) (1 : Int32))) ||| (own_pt ((own_b q1) (2 : Int32).toInt.toNat) (2 : Int32))) ||| (own_pt ((own_b q1) (3 : Int32).toInt.toNat) (3 : Int32))) ||| (own_pt ((own_b q1) (4 : Int32).toInt.toNat) (4 : Int32))))])
    refine own_step (fun t k => XS.aload X46.here hx rfl (hb hby at_62) rfl rfl k) ?_
    show own_Fin _ _ _ _ _ _ _ _ (mkF m 64 #[.val (.long q1), .second, .val (.int p2), .val (.int (5 : Int32)), .val (.ref bq41), .unset, .unset, .unset, .unset] [(.ref bq41), (.long (((((own_pt ((own_b q1) (0 : Int32).toInt.toNat) (0 : Int32)) ||| (own_pt ((own_b q1) (1 : Int32).toInt.toNat) (1 : Int32))) ||| (own_pt ((own_b q1) (2 : Int32).toInt.toNat) (2 : Int32))) ||| (own_pt ((own_b q1) (3 : Int32).toInt.toNat) (3 : Int32))) ||| (own_pt ((own_b q1) (4 : Int32).toInt.toNat) (4 : Int32))))])
    refine own_step (fun t k => XS.iconst X46.here hx rfl (hb hby at_64) k) ?_
    show own_Fin _ _ _ _ _ _ _ _ (mkF m 65 #[.val (.long q1), .second, .val (.int p2), .val (.int (5 : Int32)), .val (.ref bq41), .unset, .unset, .unset, .unset] [(.int (5 : Int32)), (.ref bq41), (.long (((((own_pt ((own_b q1) (0 : Int32).toInt.toNat) (0 : Int32)) ||| (own_pt ((own_b q1) (1 : Int32).toInt.toNat) (1 : Int32))) ||| (own_pt ((own_b q1) (2 : Int32).toInt.toNat) (2 : Int32))) ||| (own_pt ((own_b q1) (3 : Int32).toInt.toNat) (3 : Int32))) ||| (own_pt ((own_b q1) (4 : Int32).toInt.toNat) (4 : Int32))))])
    obtain ⟨_, _, ⟨T47, L47, k47, n47⟩, -, X47, ⟨Lc47, hQ47, l47, y47, z47⟩, st47⟩ := Jvm.LawKit.callS X46 hx (y := (⟨"com/example/kern_tablet/kerntablet/schema/IntegerHandlerLittleEndianPinLaw", "part", "([BI)J"⟩ : MethodName)) hown (mvT hZ (hw _ (List.mem_of_getElem? (i := 5) rfl))) (mvT hZ (hw _ (List.mem_of_getElem? (i := 6) rfl))) (mvT hZ (hw _ (List.mem_of_getElem? (i := 7) rfl))) (mvT hZ (hw _ (List.mem_of_getElem? (i := 8) rfl))) (by decide) (backOf (W := 2) (rm21 l Z a0 hw [] bq41 (5 : Int32) _ _ (5 : Int32) T41.heap n0 Zs V_bq41 rfl (by decide) (by decide)) hZ (hw _ (List.mem_of_getElem? (i := 8) rfl)) (hw _ (List.mem_of_getElem? (i := 7) rfl)) (by decide) (by decide)) (g := (mkF m 65 #[.val (.long q1), .second, .val (.int p2), .val (.int (5 : Int32)), .val (.ref bq41), .unset, .unset, .unset, .unset] [(.int (5 : Int32)), (.ref bq41), (.long (((((own_pt ((own_b q1) (0 : Int32).toInt.toNat) (0 : Int32)) ||| (own_pt ((own_b q1) (1 : Int32).toInt.toNat) (1 : Int32))) ||| (own_pt ((own_b q1) (2 : Int32).toInt.toNat) (2 : Int32))) ||| (own_pt ((own_b q1) (3 : Int32).toInt.toNat) (3 : Int32))) ||| (own_pt ((own_b q1) (4 : Int32).toInt.toNat) (4 : Int32))))])) rfl (by rw [hml]; rfl) (argsL := [(.ref bq41), (.int (5 : Int32))]) (rest := [(.long (((((own_pt ((own_b q1) (0 : Int32).toInt.toNat) (0 : Int32)) ||| (own_pt ((own_b q1) (1 : Int32).toInt.toNat) (1 : Int32))) ||| (own_pt ((own_b q1) (2 : Int32).toInt.toNat) (2 : Int32))) ||| (own_pt ((own_b q1) (3 : Int32).toInt.toNat) (3 : Int32))) ||| (own_pt ((own_b q1) (4 : Int32).toInt.toNat) (4 : Int32))))]) (lenOf own_pd_1 rfl) rfl (by show 2 * 0 + _ ≤ _; exact Nat.le_of_eq rfl) (hb hby at_65) (fun _ _ => ⟨rfl, hh46, (by decide : 1 + 0 ≤ _), (by decide : 5 + 0 ≤ _)⟩)
    dsimp only [Pt.U, Pt.locs, Pt.cells, Pt.slots] at X47 l47 y47 z47 st47 hQ47
    rw [l47, y47, z47] at X47
    obtain ⟨rfl, Nq47, hh47⟩ := hQ47
    replace Nf := Fr.app Nf Nq47
    refine own_step st47 ?_
    show own_Fin _ _ _ _ _ _ _ _ (mkF m 68 #[.val (.long q1), .second, .val (.int p2), .val (.int (5 : Int32)), .val (.ref bq41), .unset, .unset, .unset, .unset] [(.long (0 : Int64)), (.long (((((own_pt ((own_b q1) (0 : Int32).toInt.toNat) (0 : Int32)) ||| (own_pt ((own_b q1) (1 : Int32).toInt.toNat) (1 : Int32))) ||| (own_pt ((own_b q1) (2 : Int32).toInt.toNat) (2 : Int32))) ||| (own_pt ((own_b q1) (3 : Int32).toInt.toNat) (3 : Int32))) ||| (own_pt ((own_b q1) (4 : Int32).toInt.toNat) (4 : Int32))))])
    refine own_step (fun t k => XS.lor X47.here hx rfl (hb hby at_68) rfl k) ?_
    show own_Fin _ _ _ _ _ _ _ _ (mkF m 69 #[.val (.long q1), .second, .val (.int p2), .val (.int (5 : Int32)), .val (.ref bq41), .unset, .unset, .unset, .unset] [(.long ((((((own_pt ((own_b q1) (0 : Int32).toInt.toNat) (0 : Int32)) ||| (own_pt ((own_b q1) (1 : Int32).toInt.toNat) (1 : Int32))) ||| (own_pt ((own_b q1) (2 : Int32).toInt.toNat) (2 : Int32))) ||| (own_pt ((own_b q1) (3 : Int32).toInt.toNat) (3 : Int32))) ||| (own_pt ((own_b q1) (4 : Int32).toInt.toNat) (4 : Int32))) ||| (0 : Int64)))])
    refine own_step (fun t k => XS.aload X47.here hx rfl (hb hby at_69) rfl rfl k) ?_
    show own_Fin _ _ _ _ _ _ _ _ (mkF m 71 #[.val (.long q1), .second, .val (.int p2), .val (.int (5 : Int32)), .val (.ref bq41), .unset, .unset, .unset, .unset] [(.ref bq41), (.long ((((((own_pt ((own_b q1) (0 : Int32).toInt.toNat) (0 : Int32)) ||| (own_pt ((own_b q1) (1 : Int32).toInt.toNat) (1 : Int32))) ||| (own_pt ((own_b q1) (2 : Int32).toInt.toNat) (2 : Int32))) ||| (own_pt ((own_b q1) (3 : Int32).toInt.toNat) (3 : Int32))) ||| (own_pt ((own_b q1) (4 : Int32).toInt.toNat) (4 : Int32))) ||| (0 : Int64)))])
    refine own_step (fun t k => XS.bipush X47.here hx rfl (hb hby at_71) k) ?_
    show own_Fin _ _ _ _ _ _ _ _ (mkF m 73 #[.val (.long q1), .second, .val (.int p2), .val (.int (5 : Int32)), .val (.ref bq41), .unset, .unset, .unset, .unset] [(.int (6 : Int32)), (.ref bq41), (.long ((((((own_pt ((own_b q1) (0 : Int32).toInt.toNat) (0 : Int32)) ||| (own_pt ((own_b q1) (1 : Int32).toInt.toNat) (1 : Int32))) ||| (own_pt ((own_b q1) (2 : Int32).toInt.toNat) (2 : Int32))) ||| (own_pt ((own_b q1) (3 : Int32).toInt.toNat) (3 : Int32))) ||| (own_pt ((own_b q1) (4 : Int32).toInt.toNat) (4 : Int32))) ||| (0 : Int64)))])
    obtain ⟨_, _, ⟨T48, L48, k48, n48⟩, -, X48, ⟨Lc48, hQ48, l48, y48, z48⟩, st48⟩ := Jvm.LawKit.callS X47 hx (y := (⟨"com/example/kern_tablet/kerntablet/schema/IntegerHandlerLittleEndianPinLaw", "part", "([BI)J"⟩ : MethodName)) hown (mvT hZ (hw _ (List.mem_of_getElem? (i := 5) rfl))) (mvT hZ (hw _ (List.mem_of_getElem? (i := 6) rfl))) (mvT hZ (hw _ (List.mem_of_getElem? (i := 7) rfl))) (mvT hZ (hw _ (List.mem_of_getElem? (i := 8) rfl))) (by decide) (backOf (W := 2) (rm21 l Z a0 hw [] bq41 (6 : Int32) _ _ (5 : Int32) T41.heap n0 Zs V_bq41 rfl (by decide) (by decide)) hZ (hw _ (List.mem_of_getElem? (i := 8) rfl)) (hw _ (List.mem_of_getElem? (i := 7) rfl)) (by decide) (by decide)) (g := (mkF m 73 #[.val (.long q1), .second, .val (.int p2), .val (.int (5 : Int32)), .val (.ref bq41), .unset, .unset, .unset, .unset] [(.int (6 : Int32)), (.ref bq41), (.long ((((((own_pt ((own_b q1) (0 : Int32).toInt.toNat) (0 : Int32)) ||| (own_pt ((own_b q1) (1 : Int32).toInt.toNat) (1 : Int32))) ||| (own_pt ((own_b q1) (2 : Int32).toInt.toNat) (2 : Int32))) ||| (own_pt ((own_b q1) (3 : Int32).toInt.toNat) (3 : Int32))) ||| (own_pt ((own_b q1) (4 : Int32).toInt.toNat) (4 : Int32))) ||| (0 : Int64)))])) rfl (by rw [hml]; rfl) (argsL := [(.ref bq41), (.int (6 : Int32))]) (rest := [(.long ((((((own_pt ((own_b q1) (0 : Int32).toInt.toNat) (0 : Int32)) ||| (own_pt ((own_b q1) (1 : Int32).toInt.toNat) (1 : Int32))) ||| (own_pt ((own_b q1) (2 : Int32).toInt.toNat) (2 : Int32))) ||| (own_pt ((own_b q1) (3 : Int32).toInt.toNat) (3 : Int32))) ||| (own_pt ((own_b q1) (4 : Int32).toInt.toNat) (4 : Int32))) ||| (0 : Int64)))]) (lenOf own_pd_1 rfl) rfl (by show 2 * 0 + _ ≤ _; exact Nat.le_of_eq rfl) (hb hby at_73) (fun _ _ => ⟨rfl, hh47, (by decide : 1 + 0 ≤ _), (by decide : 5 + 0 ≤ _)⟩)
    dsimp only [Pt.U, Pt.locs, Pt.cells, Pt.slots] at X48 l48 y48 z48 st48 hQ48
    rw [l48, y48, z48] at X48
    obtain ⟨rfl, Nq48, hh48⟩ := hQ48
    replace Nf := Fr.app Nf Nq48
    refine own_step st48 ?_
    show own_Fin _ _ _ _ _ _ _ _ (mkF m 76 #[.val (.long q1), .second, .val (.int p2), .val (.int (5 : Int32)), .val (.ref bq41), .unset, .unset, .unset, .unset] [(.long (0 : Int64)), (.long ((((((own_pt ((own_b q1) (0 : Int32).toInt.toNat) (0 : Int32)) ||| (own_pt ((own_b q1) (1 : Int32).toInt.toNat) (1 : Int32))) ||| (own_pt ((own_b q1) (2 : Int32).toInt.toNat) (2 : Int32))) ||| (own_pt ((own_b q1) (3 : Int32).toInt.toNat) (3 : Int32))) ||| (own_pt ((own_b q1) (4 : Int32).toInt.toNat) (4 : Int32))) ||| (0 : Int64)))])
    refine own_step (fun t k => XS.lor X48.here hx rfl (hb hby at_76) rfl k) ?_
    show own_Fin _ _ _ _ _ _ _ _ (mkF m 77 #[.val (.long q1), .second, .val (.int p2), .val (.int (5 : Int32)), .val (.ref bq41), .unset, .unset, .unset, .unset] [(.long (((((((own_pt ((own_b q1) (0 : Int32).toInt.toNat) (0 : Int32)) ||| (own_pt ((own_b q1) (1 : Int32).toInt.toNat) (1 : Int32))) ||| (own_pt ((own_b q1) (2 : Int32).toInt.toNat) (2 : Int32))) ||| (own_pt ((own_b q1) (3 : Int32).toInt.toNat) (3 : Int32))) ||| (own_pt ((own_b q1) (4 : Int32).toInt.toNat) (4 : Int32))) ||| (0 : Int64)) ||| (0 : Int64)))])
    refine own_step (fun t k => XS.aload X48.here hx rfl (hb hby at_77) rfl rfl k) ?_
    show own_Fin _ _ _ _ _ _ _ _ (mkF m 79 #[.val (.long q1), .second, .val (.int p2), .val (.int (5 : Int32)), .val (.ref bq41), .unset, .unset, .unset, .unset] [(.ref bq41), (.long (((((((own_pt ((own_b q1) (0 : Int32).toInt.toNat) (0 : Int32)) ||| (own_pt ((own_b q1) (1 : Int32).toInt.toNat) (1 : Int32))) ||| (own_pt ((own_b q1) (2 : Int32).toInt.toNat) (2 : Int32))) ||| (own_pt ((own_b q1) (3 : Int32).toInt.toNat) (3 : Int32))) ||| (own_pt ((own_b q1) (4 : Int32).toInt.toNat) (4 : Int32))) ||| (0 : Int64)) ||| (0 : Int64)))])
    refine own_step (fun t k => XS.bipush X48.here hx rfl (hb hby at_79) k) ?_
    show own_Fin _ _ _ _ _ _ _ _ (mkF m 81 #[.val (.long q1), .second, .val (.int p2), .val (.int (5 : Int32)), .val (.ref bq41), .unset, .unset, .unset, .unset] [(.int (7 : Int32)), (.ref bq41), (.long (((((((own_pt ((own_b q1) (0 : Int32).toInt.toNat) (0 : Int32)) ||| (own_pt ((own_b q1) (1 : Int32).toInt.toNat) (1 : Int32))) ||| (own_pt ((own_b q1) (2 : Int32).toInt.toNat) (2 : Int32))) ||| (own_pt ((own_b q1) (3 : Int32).toInt.toNat) (3 : Int32))) ||| (own_pt ((own_b q1) (4 : Int32).toInt.toNat) (4 : Int32))) ||| (0 : Int64)) ||| (0 : Int64)))])
    obtain ⟨_, _, ⟨T49, L49, k49, n49⟩, -, X49, ⟨Lc49, hQ49, l49, y49, z49⟩, st49⟩ := Jvm.LawKit.callS X48 hx (y := (⟨"com/example/kern_tablet/kerntablet/schema/IntegerHandlerLittleEndianPinLaw", "part", "([BI)J"⟩ : MethodName)) hown (mvT hZ (hw _ (List.mem_of_getElem? (i := 5) rfl))) (mvT hZ (hw _ (List.mem_of_getElem? (i := 6) rfl))) (mvT hZ (hw _ (List.mem_of_getElem? (i := 7) rfl))) (mvT hZ (hw _ (List.mem_of_getElem? (i := 8) rfl))) (by decide) (backOf (W := 2) (rm21 l Z a0 hw [] bq41 (7 : Int32) _ _ (5 : Int32) T41.heap n0 Zs V_bq41 rfl (by decide) (by decide)) hZ (hw _ (List.mem_of_getElem? (i := 8) rfl)) (hw _ (List.mem_of_getElem? (i := 7) rfl)) (by decide) (by decide)) (g := (mkF m 81 #[.val (.long q1), .second, .val (.int p2), .val (.int (5 : Int32)), .val (.ref bq41), .unset, .unset, .unset, .unset] [(.int (7 : Int32)), (.ref bq41), (.long (((((((own_pt ((own_b q1) (0 : Int32).toInt.toNat) (0 : Int32)) ||| (own_pt ((own_b q1) (1 : Int32).toInt.toNat) (1 : Int32))) ||| (own_pt ((own_b q1) (2 : Int32).toInt.toNat) (2 : Int32))) ||| (own_pt ((own_b q1) (3 : Int32).toInt.toNat) (3 : Int32))) ||| (own_pt ((own_b q1) (4 : Int32).toInt.toNat) (4 : Int32))) ||| (0 : Int64)) ||| (0 : Int64)))])) rfl (by rw [hml]; rfl) (argsL := [(.ref bq41), (.int (7 : Int32))]) (rest := [(.long (((((((own_pt ((own_b q1) (0 : Int32).toInt.toNat) (0 : Int32)) ||| (own_pt ((own_b q1) (1 : Int32).toInt.toNat) (1 : Int32))) ||| (own_pt ((own_b q1) (2 : Int32).toInt.toNat) (2 : Int32))) ||| (own_pt ((own_b q1) (3 : Int32).toInt.toNat) (3 : Int32))) ||| (own_pt ((own_b q1) (4 : Int32).toInt.toNat) (4 : Int32))) ||| (0 : Int64)) ||| (0 : Int64)))]) (lenOf own_pd_1 rfl) rfl (by show 2 * 0 + _ ≤ _; exact Nat.le_of_eq rfl) (hb hby at_81) (fun _ _ => ⟨rfl, hh48, (by decide : 1 + 0 ≤ _), (by decide : 5 + 0 ≤ _)⟩)
    dsimp only [Pt.U, Pt.locs, Pt.cells, Pt.slots] at X49 l49 y49 z49 st49 hQ49
    rw [l49, y49, z49] at X49
    obtain ⟨rfl, Nq49, hh49⟩ := hQ49
    replace Nf := Fr.app Nf Nq49
    refine own_step st49 ?_
    show own_Fin _ _ _ _ _ _ _ _ (mkF m 84 #[.val (.long q1), .second, .val (.int p2), .val (.int (5 : Int32)), .val (.ref bq41), .unset, .unset, .unset, .unset] [(.long (0 : Int64)), (.long (((((((own_pt ((own_b q1) (0 : Int32).toInt.toNat) (0 : Int32)) ||| (own_pt ((own_b q1) (1 : Int32).toInt.toNat) (1 : Int32))) ||| (own_pt ((own_b q1) (2 : Int32).toInt.toNat) (2 : Int32))) ||| (own_pt ((own_b q1) (3 : Int32).toInt.toNat) (3 : Int32))) ||| (own_pt ((own_b q1) (4 : Int32).toInt.toNat) (4 : Int32))) ||| (0 : Int64)) ||| (0 : Int64)))])
    refine own_step (fun t k => XS.lor X49.here hx rfl (hb hby at_84) rfl k) ?_
    show own_Fin _ _ _ _ _ _ _ _ (mkF m 85 #[.val (.long q1), .second, .val (.int p2), .val (.int (5 : Int32)), .val (.ref bq41), .unset, .unset, .unset, .unset] [(.long ((((((((own_pt ((own_b q1) (0 : Int32).toInt.toNat) (0 : Int32)) ||| (own_pt ((own_b q1) (1 : Int32).toInt.toNat) (1 : Int32))) ||| (own_pt ((own_b q1) (2 : Int32).toInt.toNat) (2 : Int32))) ||| (own_pt ((own_b q1) (3 : Int32).toInt.toNat) (3 : Int32))) ||| (own_pt ((own_b q1) (4 : Int32).toInt.toNat) (4 : Int32))) ||| (0 : Int64)) ||| (0 : Int64)) ||| (0 : Int64)))])
    refine own_step (fun t k => XS.lstore X49.here hx rfl (hb hby at_85) rfl (l' := #[.val (.long q1), .second, .val (.int p2), .val (.int (5 : Int32)), .val (.ref bq41), .val (.long ((((((((own_pt ((own_b q1) (0 : Int32).toInt.toNat) (0 : Int32)) ||| (own_pt ((own_b q1) (1 : Int32).toInt.toNat) (1 : Int32))) ||| (own_pt ((own_b q1) (2 : Int32).toInt.toNat) (2 : Int32))) ||| (own_pt ((own_b q1) (3 : Int32).toInt.toNat) (3 : Int32))) ||| (own_pt ((own_b q1) (4 : Int32).toInt.toNat) (4 : Int32))) ||| (0 : Int64)) ||| (0 : Int64)) ||| (0 : Int64))), .second, .unset, .unset]) rfl k) ?_
    show own_Fin _ _ _ _ _ _ _ _ (mkF m 87 #[.val (.long q1), .second, .val (.int p2), .val (.int (5 : Int32)), .val (.ref bq41), .val (.long ((((((((own_pt ((own_b q1) (0 : Int32).toInt.toNat) (0 : Int32)) ||| (own_pt ((own_b q1) (1 : Int32).toInt.toNat) (1 : Int32))) ||| (own_pt ((own_b q1) (2 : Int32).toInt.toNat) (2 : Int32))) ||| (own_pt ((own_b q1) (3 : Int32).toInt.toNat) (3 : Int32))) ||| (own_pt ((own_b q1) (4 : Int32).toInt.toNat) (4 : Int32))) ||| (0 : Int64)) ||| (0 : Int64)) ||| (0 : Int64))), .second, .unset, .unset] [])
    refine own_step (fun t k => XS.iloadN X49.here hx rfl (hb hby at_87) rfl k) ?_
    show own_Fin _ _ _ _ _ _ _ _ (mkF m 88 #[.val (.long q1), .second, .val (.int p2), .val (.int (5 : Int32)), .val (.ref bq41), .val (.long ((((((((own_pt ((own_b q1) (0 : Int32).toInt.toNat) (0 : Int32)) ||| (own_pt ((own_b q1) (1 : Int32).toInt.toNat) (1 : Int32))) ||| (own_pt ((own_b q1) (2 : Int32).toInt.toNat) (2 : Int32))) ||| (own_pt ((own_b q1) (3 : Int32).toInt.toNat) (3 : Int32))) ||| (own_pt ((own_b q1) (4 : Int32).toInt.toNat) (4 : Int32))) ||| (0 : Int64)) ||| (0 : Int64)) ||| (0 : Int64))), .second, .unset, .unset] [(.int (5 : Int32))])
    refine own_step (fun t k => XS.bipush X49.here hx rfl (hb hby at_88) k) ?_
    show own_Fin _ _ _ _ _ _ _ _ (mkF m 90 #[.val (.long q1), .second, .val (.int p2), .val (.int (5 : Int32)), .val (.ref bq41), .val (.long ((((((((own_pt ((own_b q1) (0 : Int32).toInt.toNat) (0 : Int32)) ||| (own_pt ((own_b q1) (1 : Int32).toInt.toNat) (1 : Int32))) ||| (own_pt ((own_b q1) (2 : Int32).toInt.toNat) (2 : Int32))) ||| (own_pt ((own_b q1) (3 : Int32).toInt.toNat) (3 : Int32))) ||| (own_pt ((own_b q1) (4 : Int32).toInt.toNat) (4 : Int32))) ||| (0 : Int64)) ||| (0 : Int64)) ||| (0 : Int64))), .second, .unset, .unset] [(.int (8 : Int32)), (.int (5 : Int32))])
    refine own_step (fun t k => XS.icmpYes X49.here hx rfl (pc0 := 90) (pc' := 99) rfl (hb hby at_90) rfl (by decide) (by decide) (by decide) k) ?_
    show own_Fin _ _ _ _ _ _ _ _ (mkF m 99 #[.val (.long q1), .second, .val (.int p2), .val (.int (5 : Int32)), .val (.ref bq41), .val (.long ((((((((own_pt ((own_b q1) (0 : Int32).toInt.toNat) (0 : Int32)) ||| (own_pt ((own_b q1) (1 : Int32).toInt.toNat) (1 : Int32))) ||| (own_pt ((own_b q1) (2 : Int32).toInt.toNat) (2 : Int32))) ||| (own_pt ((own_b q1) (3 : Int32).toInt.toNat) (3 : Int32))) ||| (own_pt ((own_b q1) (4 : Int32).toInt.toNat) (4 : Int32))) ||| (0 : Int64)) ||| (0 : Int64)) ||| (0 : Int64))), .second, .unset, .unset] [])
    refine own_step (fun t k => XS.lconst X49.here hx rfl (hb hby at_99) k) ?_
    show own_Fin _ _ _ _ _ _ _ _ (mkF m 100 #[.val (.long q1), .second, .val (.int p2), .val (.int (5 : Int32)), .val (.ref bq41), .val (.long ((((((((own_pt ((own_b q1) (0 : Int32).toInt.toNat) (0 : Int32)) ||| (own_pt ((own_b q1) (1 : Int32).toInt.toNat) (1 : Int32))) ||| (own_pt ((own_b q1) (2 : Int32).toInt.toNat) (2 : Int32))) ||| (own_pt ((own_b q1) (3 : Int32).toInt.toNat) (3 : Int32))) ||| (own_pt ((own_b q1) (4 : Int32).toInt.toNat) (4 : Int32))) ||| (0 : Int64)) ||| (0 : Int64)) ||| (0 : Int64))), .second, .unset, .unset] [(.long (1 : Int64))])
    refine own_step (fun t k => XS.bipush X49.here hx rfl (hb hby at_100) k) ?_
    show own_Fin _ _ _ _ _ _ _ _ (mkF m 102 #[.val (.long q1), .second, .val (.int p2), .val (.int (5 : Int32)), .val (.ref bq41), .val (.long ((((((((own_pt ((own_b q1) (0 : Int32).toInt.toNat) (0 : Int32)) ||| (own_pt ((own_b q1) (1 : Int32).toInt.toNat) (1 : Int32))) ||| (own_pt ((own_b q1) (2 : Int32).toInt.toNat) (2 : Int32))) ||| (own_pt ((own_b q1) (3 : Int32).toInt.toNat) (3 : Int32))) ||| (own_pt ((own_b q1) (4 : Int32).toInt.toNat) (4 : Int32))) ||| (0 : Int64)) ||| (0 : Int64)) ||| (0 : Int64))), .second, .unset, .unset] [(.int (8 : Int32)), (.long (1 : Int64))])
    refine own_step (fun t k => XS.iloadN X49.here hx rfl (hb hby at_102) rfl k) ?_
    show own_Fin _ _ _ _ _ _ _ _ (mkF m 103 #[.val (.long q1), .second, .val (.int p2), .val (.int (5 : Int32)), .val (.ref bq41), .val (.long ((((((((own_pt ((own_b q1) (0 : Int32).toInt.toNat) (0 : Int32)) ||| (own_pt ((own_b q1) (1 : Int32).toInt.toNat) (1 : Int32))) ||| (own_pt ((own_b q1) (2 : Int32).toInt.toNat) (2 : Int32))) ||| (own_pt ((own_b q1) (3 : Int32).toInt.toNat) (3 : Int32))) ||| (own_pt ((own_b q1) (4 : Int32).toInt.toNat) (4 : Int32))) ||| (0 : Int64)) ||| (0 : Int64)) ||| (0 : Int64))), .second, .unset, .unset] [(.int (5 : Int32)), (.int (8 : Int32)), (.long (1 : Int64))])
    refine own_step (fun t k => XS.imul X49.here hx rfl (hb hby at_103) rfl k) ?_
    show own_Fin _ _ _ _ _ _ _ _ (mkF m 104 #[.val (.long q1), .second, .val (.int p2), .val (.int (5 : Int32)), .val (.ref bq41), .val (.long ((((((((own_pt ((own_b q1) (0 : Int32).toInt.toNat) (0 : Int32)) ||| (own_pt ((own_b q1) (1 : Int32).toInt.toNat) (1 : Int32))) ||| (own_pt ((own_b q1) (2 : Int32).toInt.toNat) (2 : Int32))) ||| (own_pt ((own_b q1) (3 : Int32).toInt.toNat) (3 : Int32))) ||| (own_pt ((own_b q1) (4 : Int32).toInt.toNat) (4 : Int32))) ||| (0 : Int64)) ||| (0 : Int64)) ||| (0 : Int64))), .second, .unset, .unset] [(.int (40 : Int32)), (.long (1 : Int64))])
    refine own_step (fun t k => XS.lshl X49.here hx rfl (hb hby at_104) rfl k) ?_
    show own_Fin _ _ _ _ _ _ _ _ (mkF m 105 #[.val (.long q1), .second, .val (.int p2), .val (.int (5 : Int32)), .val (.ref bq41), .val (.long ((((((((own_pt ((own_b q1) (0 : Int32).toInt.toNat) (0 : Int32)) ||| (own_pt ((own_b q1) (1 : Int32).toInt.toNat) (1 : Int32))) ||| (own_pt ((own_b q1) (2 : Int32).toInt.toNat) (2 : Int32))) ||| (own_pt ((own_b q1) (3 : Int32).toInt.toNat) (3 : Int32))) ||| (own_pt ((own_b q1) (4 : Int32).toInt.toNat) (4 : Int32))) ||| (0 : Int64)) ||| (0 : Int64)) ||| (0 : Int64))), .second, .unset, .unset] [(.long ((1 : Int64) <<< ((40 : Int32) &&& 0x3f).toInt64))])
    refine own_step (fun t k => XS.lconst X49.here hx rfl (hb hby at_105) k) ?_
    show own_Fin _ _ _ _ _ _ _ _ (mkF m 106 #[.val (.long q1), .second, .val (.int p2), .val (.int (5 : Int32)), .val (.ref bq41), .val (.long ((((((((own_pt ((own_b q1) (0 : Int32).toInt.toNat) (0 : Int32)) ||| (own_pt ((own_b q1) (1 : Int32).toInt.toNat) (1 : Int32))) ||| (own_pt ((own_b q1) (2 : Int32).toInt.toNat) (2 : Int32))) ||| (own_pt ((own_b q1) (3 : Int32).toInt.toNat) (3 : Int32))) ||| (own_pt ((own_b q1) (4 : Int32).toInt.toNat) (4 : Int32))) ||| (0 : Int64)) ||| (0 : Int64)) ||| (0 : Int64))), .second, .unset, .unset] [(.long (1 : Int64)), (.long ((1 : Int64) <<< ((40 : Int32) &&& 0x3f).toInt64))])
    refine own_step (fun t k => XS.lsub X49.here hx rfl (hb hby at_106) rfl k) ?_
    show own_Fin _ _ _ _ _ _ _ _ (mkF m 107 #[.val (.long q1), .second, .val (.int p2), .val (.int (5 : Int32)), .val (.ref bq41), .val (.long ((((((((own_pt ((own_b q1) (0 : Int32).toInt.toNat) (0 : Int32)) ||| (own_pt ((own_b q1) (1 : Int32).toInt.toNat) (1 : Int32))) ||| (own_pt ((own_b q1) (2 : Int32).toInt.toNat) (2 : Int32))) ||| (own_pt ((own_b q1) (3 : Int32).toInt.toNat) (3 : Int32))) ||| (own_pt ((own_b q1) (4 : Int32).toInt.toNat) (4 : Int32))) ||| (0 : Int64)) ||| (0 : Int64)) ||| (0 : Int64))), .second, .unset, .unset] [(.long (((1 : Int64) <<< ((40 : Int32) &&& 0x3f).toInt64) - (1 : Int64)))])
    refine own_step (fun t k => XS.lstore X49.here hx rfl (hb hby at_107) rfl (l' := #[.val (.long q1), .second, .val (.int p2), .val (.int (5 : Int32)), .val (.ref bq41), .val (.long ((((((((own_pt ((own_b q1) (0 : Int32).toInt.toNat) (0 : Int32)) ||| (own_pt ((own_b q1) (1 : Int32).toInt.toNat) (1 : Int32))) ||| (own_pt ((own_b q1) (2 : Int32).toInt.toNat) (2 : Int32))) ||| (own_pt ((own_b q1) (3 : Int32).toInt.toNat) (3 : Int32))) ||| (own_pt ((own_b q1) (4 : Int32).toInt.toNat) (4 : Int32))) ||| (0 : Int64)) ||| (0 : Int64)) ||| (0 : Int64))), .second, .val (.long (((1 : Int64) <<< ((40 : Int32) &&& 0x3f).toInt64) - (1 : Int64))), .second]) rfl k) ?_
    show own_Fin _ _ _ _ _ _ _ _ (mkF m 109 #[.val (.long q1), .second, .val (.int p2), .val (.int (5 : Int32)), .val (.ref bq41), .val (.long ((((((((own_pt ((own_b q1) (0 : Int32).toInt.toNat) (0 : Int32)) ||| (own_pt ((own_b q1) (1 : Int32).toInt.toNat) (1 : Int32))) ||| (own_pt ((own_b q1) (2 : Int32).toInt.toNat) (2 : Int32))) ||| (own_pt ((own_b q1) (3 : Int32).toInt.toNat) (3 : Int32))) ||| (own_pt ((own_b q1) (4 : Int32).toInt.toNat) (4 : Int32))) ||| (0 : Int64)) ||| (0 : Int64)) ||| (0 : Int64))), .second, .val (.long (((1 : Int64) <<< ((40 : Int32) &&& 0x3f).toInt64) - (1 : Int64))), .second] [])
    refine own_step (fun t k => XS.lload X49.here hx rfl (hb hby at_109) rfl k) ?_
    show own_Fin _ _ _ _ _ _ _ _ (mkF m 111 #[.val (.long q1), .second, .val (.int p2), .val (.int (5 : Int32)), .val (.ref bq41), .val (.long ((((((((own_pt ((own_b q1) (0 : Int32).toInt.toNat) (0 : Int32)) ||| (own_pt ((own_b q1) (1 : Int32).toInt.toNat) (1 : Int32))) ||| (own_pt ((own_b q1) (2 : Int32).toInt.toNat) (2 : Int32))) ||| (own_pt ((own_b q1) (3 : Int32).toInt.toNat) (3 : Int32))) ||| (own_pt ((own_b q1) (4 : Int32).toInt.toNat) (4 : Int32))) ||| (0 : Int64)) ||| (0 : Int64)) ||| (0 : Int64))), .second, .val (.long (((1 : Int64) <<< ((40 : Int32) &&& 0x3f).toInt64) - (1 : Int64))), .second] [(.long ((((((((own_pt ((own_b q1) (0 : Int32).toInt.toNat) (0 : Int32)) ||| (own_pt ((own_b q1) (1 : Int32).toInt.toNat) (1 : Int32))) ||| (own_pt ((own_b q1) (2 : Int32).toInt.toNat) (2 : Int32))) ||| (own_pt ((own_b q1) (3 : Int32).toInt.toNat) (3 : Int32))) ||| (own_pt ((own_b q1) (4 : Int32).toInt.toNat) (4 : Int32))) ||| (0 : Int64)) ||| (0 : Int64)) ||| (0 : Int64)))])
    refine own_step (fun t k => XS.lloadN X49.here hx rfl (hb hby at_111) rfl k) ?_
    show own_Fin _ _ _ _ _ _ _ _ (mkF m 112 #[.val (.long q1), .second, .val (.int p2), .val (.int (5 : Int32)), .val (.ref bq41), .val (.long ((((((((own_pt ((own_b q1) (0 : Int32).toInt.toNat) (0 : Int32)) ||| (own_pt ((own_b q1) (1 : Int32).toInt.toNat) (1 : Int32))) ||| (own_pt ((own_b q1) (2 : Int32).toInt.toNat) (2 : Int32))) ||| (own_pt ((own_b q1) (3 : Int32).toInt.toNat) (3 : Int32))) ||| (own_pt ((own_b q1) (4 : Int32).toInt.toNat) (4 : Int32))) ||| (0 : Int64)) ||| (0 : Int64)) ||| (0 : Int64))), .second, .val (.long (((1 : Int64) <<< ((40 : Int32) &&& 0x3f).toInt64) - (1 : Int64))), .second] [(.long q1), (.long ((((((((own_pt ((own_b q1) (0 : Int32).toInt.toNat) (0 : Int32)) ||| (own_pt ((own_b q1) (1 : Int32).toInt.toNat) (1 : Int32))) ||| (own_pt ((own_b q1) (2 : Int32).toInt.toNat) (2 : Int32))) ||| (own_pt ((own_b q1) (3 : Int32).toInt.toNat) (3 : Int32))) ||| (own_pt ((own_b q1) (4 : Int32).toInt.toNat) (4 : Int32))) ||| (0 : Int64)) ||| (0 : Int64)) ||| (0 : Int64)))])
    refine own_step (fun t k => XS.lload X49.here hx rfl (hb hby at_112) rfl k) ?_
    show own_Fin _ _ _ _ _ _ _ _ (mkF m 114 #[.val (.long q1), .second, .val (.int p2), .val (.int (5 : Int32)), .val (.ref bq41), .val (.long ((((((((own_pt ((own_b q1) (0 : Int32).toInt.toNat) (0 : Int32)) ||| (own_pt ((own_b q1) (1 : Int32).toInt.toNat) (1 : Int32))) ||| (own_pt ((own_b q1) (2 : Int32).toInt.toNat) (2 : Int32))) ||| (own_pt ((own_b q1) (3 : Int32).toInt.toNat) (3 : Int32))) ||| (own_pt ((own_b q1) (4 : Int32).toInt.toNat) (4 : Int32))) ||| (0 : Int64)) ||| (0 : Int64)) ||| (0 : Int64))), .second, .val (.long (((1 : Int64) <<< ((40 : Int32) &&& 0x3f).toInt64) - (1 : Int64))), .second] [(.long (((1 : Int64) <<< ((40 : Int32) &&& 0x3f).toInt64) - (1 : Int64))), (.long q1), (.long ((((((((own_pt ((own_b q1) (0 : Int32).toInt.toNat) (0 : Int32)) ||| (own_pt ((own_b q1) (1 : Int32).toInt.toNat) (1 : Int32))) ||| (own_pt ((own_b q1) (2 : Int32).toInt.toNat) (2 : Int32))) ||| (own_pt ((own_b q1) (3 : Int32).toInt.toNat) (3 : Int32))) ||| (own_pt ((own_b q1) (4 : Int32).toInt.toNat) (4 : Int32))) ||| (0 : Int64)) ||| (0 : Int64)) ||| (0 : Int64)))])
    refine own_step (fun t k => XS.land X49.here hx rfl (hb hby at_114) rfl k) ?_
    show own_Fin _ _ _ _ _ _ _ _ (mkF m 115 #[.val (.long q1), .second, .val (.int p2), .val (.int (5 : Int32)), .val (.ref bq41), .val (.long ((((((((own_pt ((own_b q1) (0 : Int32).toInt.toNat) (0 : Int32)) ||| (own_pt ((own_b q1) (1 : Int32).toInt.toNat) (1 : Int32))) ||| (own_pt ((own_b q1) (2 : Int32).toInt.toNat) (2 : Int32))) ||| (own_pt ((own_b q1) (3 : Int32).toInt.toNat) (3 : Int32))) ||| (own_pt ((own_b q1) (4 : Int32).toInt.toNat) (4 : Int32))) ||| (0 : Int64)) ||| (0 : Int64)) ||| (0 : Int64))), .second, .val (.long (((1 : Int64) <<< ((40 : Int32) &&& 0x3f).toInt64) - (1 : Int64))), .second] [(.long (q1 &&& (((1 : Int64) <<< ((40 : Int32) &&& 0x3f).toInt64) - (1 : Int64)))), (.long ((((((((own_pt ((own_b q1) (0 : Int32).toInt.toNat) (0 : Int32)) ||| (own_pt ((own_b q1) (1 : Int32).toInt.toNat) (1 : Int32))) ||| (own_pt ((own_b q1) (2 : Int32).toInt.toNat) (2 : Int32))) ||| (own_pt ((own_b q1) (3 : Int32).toInt.toNat) (3 : Int32))) ||| (own_pt ((own_b q1) (4 : Int32).toInt.toNat) (4 : Int32))) ||| (0 : Int64)) ||| (0 : Int64)) ||| (0 : Int64)))])
    refine own_step (fun t k => XS.lcmp X49.here hx rfl (hb hby at_115) rfl k) ?_
    show own_Fin _ _ _ _ _ _ _ _ (mkF m 116 #[.val (.long q1), .second, .val (.int p2), .val (.int (5 : Int32)), .val (.ref bq41), .val (.long ((((((((own_pt ((own_b q1) (0 : Int32).toInt.toNat) (0 : Int32)) ||| (own_pt ((own_b q1) (1 : Int32).toInt.toNat) (1 : Int32))) ||| (own_pt ((own_b q1) (2 : Int32).toInt.toNat) (2 : Int32))) ||| (own_pt ((own_b q1) (3 : Int32).toInt.toNat) (3 : Int32))) ||| (own_pt ((own_b q1) (4 : Int32).toInt.toNat) (4 : Int32))) ||| (0 : Int64)) ||| (0 : Int64)) ||| (0 : Int64))), .second, .val (.long (((1 : Int64) <<< ((40 : Int32) &&& 0x3f).toInt64) - (1 : Int64))), .second] [(.int (lcmpW ((((((((own_pt ((own_b q1) (0 : Int32).toInt.toNat) (0 : Int32)) ||| (own_pt ((own_b q1) (1 : Int32).toInt.toNat) (1 : Int32))) ||| (own_pt ((own_b q1) (2 : Int32).toInt.toNat) (2 : Int32))) ||| (own_pt ((own_b q1) (3 : Int32).toInt.toNat) (3 : Int32))) ||| (own_pt ((own_b q1) (4 : Int32).toInt.toNat) (4 : Int32))) ||| (0 : Int64)) ||| (0 : Int64)) ||| (0 : Int64)) (q1 &&& (((1 : Int64) <<< ((40 : Int32) &&& 0x3f).toInt64) - (1 : Int64)))))])
    have hc50 : (((((((((own_pt ((own_b q1) (0 : Int32).toInt.toNat) (0 : Int32)) ||| (own_pt ((own_b q1) (1 : Int32).toInt.toNat) (1 : Int32))) ||| (own_pt ((own_b q1) (2 : Int32).toInt.toNat) (2 : Int32))) ||| (own_pt ((own_b q1) (3 : Int32).toInt.toNat) (3 : Int32))) ||| (own_pt ((own_b q1) (4 : Int32).toInt.toNat) (4 : Int32))) ||| (0 : Int64)) ||| (0 : Int64)) ||| (0 : Int64))).toInt = ((q1 &&& (((1 : Int64) <<< ((40 : Int32) &&& 0x3f).toInt64) - (1 : Int64)))).toInt := congrArg Int64.toInt (own_fin5 q1)
    refine own_step (fun t k => XS.ifNo X49.here hx rfl (hb hby at_116) rfl (own_le (x := ((((((((own_pt ((own_b q1) (0 : Int32).toInt.toNat) (0 : Int32)) ||| (own_pt ((own_b q1) (1 : Int32).toInt.toNat) (1 : Int32))) ||| (own_pt ((own_b q1) (2 : Int32).toInt.toNat) (2 : Int32))) ||| (own_pt ((own_b q1) (3 : Int32).toInt.toNat) (3 : Int32))) ||| (own_pt ((own_b q1) (4 : Int32).toInt.toNat) (4 : Int32))) ||| (0 : Int64)) ||| (0 : Int64)) ||| (0 : Int64))) (y := (q1 &&& (((1 : Int64) <<< ((40 : Int32) &&& 0x3f).toInt64) - (1 : Int64)))) rfl rfl hc50).2 k) ?_
    show own_Fin _ _ _ _ _ _ _ _ (mkF m 119 #[.val (.long q1), .second, .val (.int p2), .val (.int (5 : Int32)), .val (.ref bq41), .val (.long ((((((((own_pt ((own_b q1) (0 : Int32).toInt.toNat) (0 : Int32)) ||| (own_pt ((own_b q1) (1 : Int32).toInt.toNat) (1 : Int32))) ||| (own_pt ((own_b q1) (2 : Int32).toInt.toNat) (2 : Int32))) ||| (own_pt ((own_b q1) (3 : Int32).toInt.toNat) (3 : Int32))) ||| (own_pt ((own_b q1) (4 : Int32).toInt.toNat) (4 : Int32))) ||| (0 : Int64)) ||| (0 : Int64)) ||| (0 : Int64))), .second, .val (.long (((1 : Int64) <<< ((40 : Int32) &&& 0x3f).toInt64) - (1 : Int64))), .second] [])
    refine own_step (fun t k => XS.iconst X49.here hx rfl (hb hby at_119) k) ?_
    show own_Fin _ _ _ _ _ _ _ _ (mkF m 120 #[.val (.long q1), .second, .val (.int p2), .val (.int (5 : Int32)), .val (.ref bq41), .val (.long ((((((((own_pt ((own_b q1) (0 : Int32).toInt.toNat) (0 : Int32)) ||| (own_pt ((own_b q1) (1 : Int32).toInt.toNat) (1 : Int32))) ||| (own_pt ((own_b q1) (2 : Int32).toInt.toNat) (2 : Int32))) ||| (own_pt ((own_b q1) (3 : Int32).toInt.toNat) (3 : Int32))) ||| (own_pt ((own_b q1) (4 : Int32).toInt.toNat) (4 : Int32))) ||| (0 : Int64)) ||| (0 : Int64)) ||| (0 : Int64))), .second, .val (.long (((1 : Int64) <<< ((40 : Int32) &&& 0x3f).toInt64) - (1 : Int64))), .second] [(.int (1 : Int32))])
    refine own_step (fun t k => XS.goto X49.here hx rfl (pc0 := 120) (pc' := 124) rfl (hb hby at_120) (by decide) (by decide) k) ?_
    show own_Fin _ _ _ _ _ _ _ _ (mkF m 124 #[.val (.long q1), .second, .val (.int p2), .val (.int (5 : Int32)), .val (.ref bq41), .val (.long ((((((((own_pt ((own_b q1) (0 : Int32).toInt.toNat) (0 : Int32)) ||| (own_pt ((own_b q1) (1 : Int32).toInt.toNat) (1 : Int32))) ||| (own_pt ((own_b q1) (2 : Int32).toInt.toNat) (2 : Int32))) ||| (own_pt ((own_b q1) (3 : Int32).toInt.toNat) (3 : Int32))) ||| (own_pt ((own_b q1) (4 : Int32).toInt.toNat) (4 : Int32))) ||| (0 : Int64)) ||| (0 : Int64)) ||| (0 : Int64))), .second, .val (.long (((1 : Int64) <<< ((40 : Int32) &&& 0x3f).toInt64) - (1 : Int64))), .second] [(.int (1 : Int32))])
    refine own_retZ X49 hx hlk Bd.returns (hb hby at_124) (z' := (1 : Int32)) (by decide) (by decide) (by decide) hh49 ?_
    exact ⟨rfl, Nf⟩
  · skip
    show own_Fin _ _ _ _ _ _ _ _ (mkF m 7 #[.val (.long q1), .second, .val (.int p2), .val (.int (6 : Int32)), .unset, .unset, .unset, .unset, .unset] [])
    refine own_step (fun t k => XS.lloadN X0.here hx rfl (hb hby at_7) rfl k) ?_
    show own_Fin _ _ _ _ _ _ _ _ (mkF m 8 #[.val (.long q1), .second, .val (.int p2), .val (.int (6 : Int32)), .unset, .unset, .unset, .unset, .unset] [(.long q1)])
    refine own_step (fun t k => XS.iloadN X0.here hx rfl (hb hby at_8) rfl k) ?_
    show own_Fin _ _ _ _ _ _ _ _ (mkF m 9 #[.val (.long q1), .second, .val (.int p2), .val (.int (6 : Int32)), .unset, .unset, .unset, .unset, .unset] [(.int (6 : Int32)), (.long q1)])
    obtain ⟨_, _, ⟨T51, L51, k51, n51⟩, -, X51, ⟨Lc51, hQ51, l51, y51, z51⟩, st51⟩ := Jvm.LawKit.callS X0 hx (y := (⟨"com/example/kern_tablet/kerntablet/schema/IntegerHandler", "littleEndian", "(JI)[B"⟩ : MethodName)) hown (mvT hZ (hw _ (List.mem_of_getElem? (i := 0) rfl))) (mvT hZ (hw _ (List.mem_of_getElem? (i := 1) rfl))) (mvT hZ (hw _ (List.mem_of_getElem? (i := 2) rfl))) (mvT hZ (hw _ (List.mem_of_getElem? (i := 3) rfl))) (by decide) (backOf (W := 0) (rm16 l Z a0 hw [] q1 h0 n0 Zs) hZ (hw _ (List.mem_of_getElem? (i := 3) rfl)) (hw _ (List.mem_of_getElem? (i := 2) rfl)) (by decide) (by decide)) (g := (mkF m 9 #[.val (.long q1), .second, .val (.int p2), .val (.int (6 : Int32)), .unset, .unset, .unset, .unset, .unset] [(.int (6 : Int32)), (.long q1)])) rfl (by rw [hml]; rfl) (argsL := [(.long q1), (.int (6 : Int32))]) (rest := []) (lenOf own_pd_0 rfl) rfl (by show 2 * 0 + _ ≤ _; exact Nat.le_of_eq rfl) (hb hby at_9) (fun _ _ => ⟨rfl, e0, (by decide : 0 + 1 ≤ _), (by decide : 0 + 6 ≤ _)⟩)
    dsimp only [Pt.U, Pt.locs, Pt.cells, Pt.slots] at X51 l51 y51 z51 st51 hQ51
    rw [l51, y51, z51] at X51
    obtain ⟨bq51, rfl, Nq51, Kq51, gq51, P51⟩ := hQ51
    replace Nf := Fr.app Nf Nq51
    replace Zs := Nat.le_trans Zs Kq51.1
    have V_bq51 := P51
    refine own_step st51 ?_
    show own_Fin _ _ _ _ _ _ _ _ (mkF m 12 #[.val (.long q1), .second, .val (.int p2), .val (.int (6 : Int32)), .unset, .unset, .unset, .unset, .unset] [(.ref bq51)])
    refine own_step (fun t k => XS.astore X51.here hx rfl (hb hby at_12) rfl rfl (l' := #[.val (.long q1), .second, .val (.int p2), .val (.int (6 : Int32)), .val (.ref bq51), .unset, .unset, .unset, .unset]) rfl k) ?_
    show own_Fin _ _ _ _ _ _ _ _ (mkF m 14 #[.val (.long q1), .second, .val (.int p2), .val (.int (6 : Int32)), .val (.ref bq51), .unset, .unset, .unset, .unset] [])
    refine own_step (fun t k => XS.aload X51.here hx rfl (hb hby at_14) rfl rfl k) ?_
    show own_Fin _ _ _ _ _ _ _ _ (mkF m 16 #[.val (.long q1), .second, .val (.int p2), .val (.int (6 : Int32)), .val (.ref bq51), .unset, .unset, .unset, .unset] [(.ref bq51)])
    refine own_step (fun t k => XS.ifnullNo X51.here hx rfl (hb hby at_16) rfl k) ?_
    show own_Fin _ _ _ _ _ _ _ _ (mkF m 19 #[.val (.long q1), .second, .val (.int p2), .val (.int (6 : Int32)), .val (.ref bq51), .unset, .unset, .unset, .unset] [])
    refine own_step (fun t k => XS.aload X51.here hx rfl (hb hby at_19) rfl rfl k) ?_
    show own_Fin _ _ _ _ _ _ _ _ (mkF m 21 #[.val (.long q1), .second, .val (.int p2), .val (.int (6 : Int32)), .val (.ref bq51), .unset, .unset, .unset, .unset] [(.ref bq51)])
    refine own_arrlen X51 hx hZ rfl V_bq51 (z := (6 : Int32)) rfl (hb hby at_21) rfl ?_
    show own_Fin _ _ _ _ _ _ _ _ (mkF m 22 #[.val (.long q1), .second, .val (.int p2), .val (.int (6 : Int32)), .val (.ref bq51), .unset, .unset, .unset, .unset] [(.int (6 : Int32))])
    refine own_step (fun t k => XS.iloadN X51.here hx rfl (hb hby at_22) rfl k) ?_
    show own_Fin _ _ _ _ _ _ _ _ (mkF m 23 #[.val (.long q1), .second, .val (.int p2), .val (.int (6 : Int32)), .val (.ref bq51), .unset, .unset, .unset, .unset] [(.int (6 : Int32)), (.int (6 : Int32))])
    refine own_step (fun t k => XS.icmpYes X51.here hx rfl (pc0 := 23) (pc' := 28) rfl (hb hby at_23) rfl (by decide) (by decide) (by decide) k) ?_
    show own_Fin _ _ _ _ _ _ _ _ (mkF m 28 #[.val (.long q1), .second, .val (.int p2), .val (.int (6 : Int32)), .val (.ref bq51), .unset, .unset, .unset, .unset] [])
    refine own_step (fun t k => XS.aload X51.here hx rfl (hb hby at_28) rfl rfl k) ?_
    show own_Fin _ _ _ _ _ _ _ _ (mkF m 30 #[.val (.long q1), .second, .val (.int p2), .val (.int (6 : Int32)), .val (.ref bq51), .unset, .unset, .unset, .unset] [(.ref bq51)])
    refine own_step (fun t k => XS.iconst X51.here hx rfl (hb hby at_30) k) ?_
    show own_Fin _ _ _ _ _ _ _ _ (mkF m 31 #[.val (.long q1), .second, .val (.int p2), .val (.int (6 : Int32)), .val (.ref bq51), .unset, .unset, .unset, .unset] [(.int (0 : Int32)), (.ref bq51)])
    obtain ⟨_, _, ⟨T52, L52, k52, n52⟩, -, X52, ⟨Lc52, hQ52, l52, y52, z52⟩, st52⟩ := Jvm.LawKit.callS X51 hx (y := (⟨"com/example/kern_tablet/kerntablet/schema/IntegerHandlerLittleEndianPinLaw", "part", "([BI)J"⟩ : MethodName)) hown (mvT hZ (hw _ (List.mem_of_getElem? (i := 5) rfl))) (mvT hZ (hw _ (List.mem_of_getElem? (i := 6) rfl))) (mvT hZ (hw _ (List.mem_of_getElem? (i := 7) rfl))) (mvT hZ (hw _ (List.mem_of_getElem? (i := 8) rfl))) (by decide) (backOf (W := 0) (rm20 l Z a0 hw [] bq51 (0 : Int32) _ _ (6 : Int32) T51.heap n0 Zs V_bq51 rfl (by decide) (by decide)) hZ (hw _ (List.mem_of_getElem? (i := 8) rfl)) (hw _ (List.mem_of_getElem? (i := 7) rfl)) (by decide) (by decide)) (g := (mkF m 31 #[.val (.long q1), .second, .val (.int p2), .val (.int (6 : Int32)), .val (.ref bq51), .unset, .unset, .unset, .unset] [(.int (0 : Int32)), (.ref bq51)])) rfl (by rw [hml]; rfl) (argsL := [(.ref bq51), (.int (0 : Int32))]) (rest := []) (lenOf own_pd_1 rfl) rfl (by show 2 * 0 + _ ≤ _; exact Nat.le_of_eq rfl) (hb hby at_31) (fun _ _ => ⟨rfl, rfl, (by decide : 1 + 0 ≤ _), (by decide : 6 + 0 ≤ _)⟩)
    dsimp only [Pt.U, Pt.locs, Pt.cells, Pt.slots] at X52 l52 y52 z52 st52 hQ52
    rw [l52, y52, z52] at X52
    obtain ⟨rfl, Nq52, hh52⟩ := hQ52
    replace Nf := Fr.app Nf Nq52
    refine own_step st52 ?_
    show own_Fin _ _ _ _ _ _ _ _ (mkF m 34 #[.val (.long q1), .second, .val (.int p2), .val (.int (6 : Int32)), .val (.ref bq51), .unset, .unset, .unset, .unset] [(.long (own_pt ((own_b q1) (0 : Int32).toInt.toNat) (0 : Int32)))])
    refine own_step (fun t k => XS.aload X52.here hx rfl (hb hby at_34) rfl rfl k) ?_
    show own_Fin _ _ _ _ _ _ _ _ (mkF m 36 #[.val (.long q1), .second, .val (.int p2), .val (.int (6 : Int32)), .val (.ref bq51), .unset, .unset, .unset, .unset] [(.ref bq51), (.long (own_pt ((own_b q1) (0 : Int32).toInt.toNat) (0 : Int32)))])
    refine own_step (fun t k => XS.iconst X52.here hx rfl (hb hby at_36) k) ?_
    show own_Fin _ _ _ _ _ _ _ _ (mkF m 37 #[.val (.long q1), .second, .val (.int p2), .val (.int (6 : Int32)), .val (.ref bq51), .unset, .unset, .unset, .unset] [(.int (1 : Int32)), (.ref bq51), (.long (own_pt ((own_b q1) (0 : Int32).toInt.toNat) (0 : Int32)))])
    obtain ⟨_, _, ⟨T53, L53, k53, n53⟩, -, X53, ⟨Lc53, hQ53, l53, y53, z53⟩, st53⟩ := Jvm.LawKit.callS X52 hx (y := (⟨"com/example/kern_tablet/kerntablet/schema/IntegerHandlerLittleEndianPinLaw", "part", "([BI)J"⟩ : MethodName)) hown (mvT hZ (hw _ (List.mem_of_getElem? (i := 5) rfl))) (mvT hZ (hw _ (List.mem_of_getElem? (i := 6) rfl))) (mvT hZ (hw _ (List.mem_of_getElem? (i := 7) rfl))) (mvT hZ (hw _ (List.mem_of_getElem? (i := 8) rfl))) (by decide) (backOf (W := 2) (rm20 l Z a0 hw [] bq51 (1 : Int32) _ _ (6 : Int32) T51.heap n0 Zs V_bq51 rfl (by decide) (by decide)) hZ (hw _ (List.mem_of_getElem? (i := 8) rfl)) (hw _ (List.mem_of_getElem? (i := 7) rfl)) (by decide) (by decide)) (g := (mkF m 37 #[.val (.long q1), .second, .val (.int p2), .val (.int (6 : Int32)), .val (.ref bq51), .unset, .unset, .unset, .unset] [(.int (1 : Int32)), (.ref bq51), (.long (own_pt ((own_b q1) (0 : Int32).toInt.toNat) (0 : Int32)))])) rfl (by rw [hml]; rfl) (argsL := [(.ref bq51), (.int (1 : Int32))]) (rest := [(.long (own_pt ((own_b q1) (0 : Int32).toInt.toNat) (0 : Int32)))]) (lenOf own_pd_1 rfl) rfl (by show 2 * 0 + _ ≤ _; exact Nat.le_of_eq rfl) (hb hby at_37) (fun _ _ => ⟨rfl, hh52, (by decide : 1 + 0 ≤ _), (by decide : 6 + 0 ≤ _)⟩)
    dsimp only [Pt.U, Pt.locs, Pt.cells, Pt.slots] at X53 l53 y53 z53 st53 hQ53
    rw [l53, y53, z53] at X53
    obtain ⟨rfl, Nq53, hh53⟩ := hQ53
    replace Nf := Fr.app Nf Nq53
    refine own_step st53 ?_
    show own_Fin _ _ _ _ _ _ _ _ (mkF m 40 #[.val (.long q1), .second, .val (.int p2), .val (.int (6 : Int32)), .val (.ref bq51), .unset, .unset, .unset, .unset] [(.long (own_pt ((own_b q1) (1 : Int32).toInt.toNat) (1 : Int32))), (.long (own_pt ((own_b q1) (0 : Int32).toInt.toNat) (0 : Int32)))])
    refine own_step (fun t k => XS.lor X53.here hx rfl (hb hby at_40) rfl k) ?_
    show own_Fin _ _ _ _ _ _ _ _ (mkF m 41 #[.val (.long q1), .second, .val (.int p2), .val (.int (6 : Int32)), .val (.ref bq51), .unset, .unset, .unset, .unset] [(.long ((own_pt ((own_b q1) (0 : Int32).toInt.toNat) (0 : Int32)) ||| (own_pt ((own_b q1) (1 : Int32).toInt.toNat) (1 : Int32))))])
    refine own_step (fun t k => XS.aload X53.here hx rfl (hb hby at_41) rfl rfl k) ?_
    show own_Fin _ _ _ _ _ _ _ _ (mkF m 43 #[.val (.long q1), .second, .val (.int p2), .val (.int (6 : Int32)), .val (.ref bq51), .unset, .unset, .unset, .unset] [(.ref bq51), (.long ((own_pt ((own_b q1) (0 : Int32).toInt.toNat) (0 : Int32)) ||| (own_pt ((own_b q1) (1 : Int32).toInt.toNat) (1 : Int32))))])
    refine own_step (fun t k => XS.iconst X53.here hx rfl (hb hby at_43) k) ?_
    show own_Fin _ _ _ _ _ _ _ _ (mkF m 44 #[.val (.long q1), .second, .val (.int p2), .val (.int (6 : Int32)), .val (.ref bq51), .unset, .unset, .unset, .unset] [(.int (2 : Int32)), (.ref bq51), (.long ((own_pt ((own_b q1) (0 : Int32).toInt.toNat) (0 : Int32)) ||| (own_pt ((own_b q1) (1 : Int32).toInt.toNat) (1 : Int32))))])
    obtain ⟨_, _, ⟨T54, L54, k54, n54⟩, -, X54, ⟨Lc54, hQ54, l54, y54, z54⟩, st54⟩ := Jvm.LawKit.callS X53 hx (y := (⟨"com/example/kern_tablet/kerntablet/schema/IntegerHandlerLittleEndianPinLaw", "part", "([BI)J"⟩ : MethodName)) hown (mvT hZ (hw _ (List.mem_of_getElem? (i := 5) rfl))) (mvT hZ (hw _ (List.mem_of_getElem? (i := 6) rfl))) (mvT hZ (hw _ (List.mem_of_getElem? (i := 7) rfl))) (mvT hZ (hw _ (List.mem_of_getElem? (i := 8) rfl))) (by decide) (backOf (W := 2) (rm20 l Z a0 hw [] bq51 (2 : Int32) _ _ (6 : Int32) T51.heap n0 Zs V_bq51 rfl (by decide) (by decide)) hZ (hw _ (List.mem_of_getElem? (i := 8) rfl)) (hw _ (List.mem_of_getElem? (i := 7) rfl)) (by decide) (by decide)) (g := (mkF m 44 #[.val (.long q1), .second, .val (.int p2), .val (.int (6 : Int32)), .val (.ref bq51), .unset, .unset, .unset, .unset] [(.int (2 : Int32)), (.ref bq51), (.long ((own_pt ((own_b q1) (0 : Int32).toInt.toNat) (0 : Int32)) ||| (own_pt ((own_b q1) (1 : Int32).toInt.toNat) (1 : Int32))))])) rfl (by rw [hml]; rfl) (argsL := [(.ref bq51), (.int (2 : Int32))]) (rest := [(.long ((own_pt ((own_b q1) (0 : Int32).toInt.toNat) (0 : Int32)) ||| (own_pt ((own_b q1) (1 : Int32).toInt.toNat) (1 : Int32))))]) (lenOf own_pd_1 rfl) rfl (by show 2 * 0 + _ ≤ _; exact Nat.le_of_eq rfl) (hb hby at_44) (fun _ _ => ⟨rfl, hh53, (by decide : 1 + 0 ≤ _), (by decide : 6 + 0 ≤ _)⟩)
    dsimp only [Pt.U, Pt.locs, Pt.cells, Pt.slots] at X54 l54 y54 z54 st54 hQ54
    rw [l54, y54, z54] at X54
    obtain ⟨rfl, Nq54, hh54⟩ := hQ54
    replace Nf := Fr.app Nf Nq54
    refine own_step st54 ?_
    show own_Fin _ _ _ _ _ _ _ _ (mkF m 47 #[.val (.long q1), .second, .val (.int p2), .val (.int (6 : Int32)), .val (.ref bq51), .unset, .unset, .unset, .unset] [(.long (own_pt ((own_b q1) (2 : Int32).toInt.toNat) (2 : Int32))), (.long ((own_pt ((own_b q1) (0 : Int32).toInt.toNat) (0 : Int32)) ||| (own_pt ((own_b q1) (1 : Int32).toInt.toNat) (1 : Int32))))])
    refine own_step (fun t k => XS.lor X54.here hx rfl (hb hby at_47) rfl k) ?_
    show own_Fin _ _ _ _ _ _ _ _ (mkF m 48 #[.val (.long q1), .second, .val (.int p2), .val (.int (6 : Int32)), .val (.ref bq51), .unset, .unset, .unset, .unset] [(.long (((own_pt ((own_b q1) (0 : Int32).toInt.toNat) (0 : Int32)) ||| (own_pt ((own_b q1) (1 : Int32).toInt.toNat) (1 : Int32))) ||| (own_pt ((own_b q1) (2 : Int32).toInt.toNat) (2 : Int32))))])
    refine own_step (fun t k => XS.aload X54.here hx rfl (hb hby at_48) rfl rfl k) ?_
    show own_Fin _ _ _ _ _ _ _ _ (mkF m 50 #[.val (.long q1), .second, .val (.int p2), .val (.int (6 : Int32)), .val (.ref bq51), .unset, .unset, .unset, .unset] [(.ref bq51), (.long (((own_pt ((own_b q1) (0 : Int32).toInt.toNat) (0 : Int32)) ||| (own_pt ((own_b q1) (1 : Int32).toInt.toNat) (1 : Int32))) ||| (own_pt ((own_b q1) (2 : Int32).toInt.toNat) (2 : Int32))))])
    refine own_step (fun t k => XS.iconst X54.here hx rfl (hb hby at_50) k) ?_
    show own_Fin _ _ _ _ _ _ _ _ (mkF m 51 #[.val (.long q1), .second, .val (.int p2), .val (.int (6 : Int32)), .val (.ref bq51), .unset, .unset, .unset, .unset] [(.int (3 : Int32)), (.ref bq51), (.long (((own_pt ((own_b q1) (0 : Int32).toInt.toNat) (0 : Int32)) ||| (own_pt ((own_b q1) (1 : Int32).toInt.toNat) (1 : Int32))) ||| (own_pt ((own_b q1) (2 : Int32).toInt.toNat) (2 : Int32))))])
    obtain ⟨_, _, ⟨T55, L55, k55, n55⟩, -, X55, ⟨Lc55, hQ55, l55, y55, z55⟩, st55⟩ := Jvm.LawKit.callS X54 hx (y := (⟨"com/example/kern_tablet/kerntablet/schema/IntegerHandlerLittleEndianPinLaw", "part", "([BI)J"⟩ : MethodName)) hown (mvT hZ (hw _ (List.mem_of_getElem? (i := 5) rfl))) (mvT hZ (hw _ (List.mem_of_getElem? (i := 6) rfl))) (mvT hZ (hw _ (List.mem_of_getElem? (i := 7) rfl))) (mvT hZ (hw _ (List.mem_of_getElem? (i := 8) rfl))) (by decide) (backOf (W := 2) (rm20 l Z a0 hw [] bq51 (3 : Int32) _ _ (6 : Int32) T51.heap n0 Zs V_bq51 rfl (by decide) (by decide)) hZ (hw _ (List.mem_of_getElem? (i := 8) rfl)) (hw _ (List.mem_of_getElem? (i := 7) rfl)) (by decide) (by decide)) (g := (mkF m 51 #[.val (.long q1), .second, .val (.int p2), .val (.int (6 : Int32)), .val (.ref bq51), .unset, .unset, .unset, .unset] [(.int (3 : Int32)), (.ref bq51), (.long (((own_pt ((own_b q1) (0 : Int32).toInt.toNat) (0 : Int32)) ||| (own_pt ((own_b q1) (1 : Int32).toInt.toNat) (1 : Int32))) ||| (own_pt ((own_b q1) (2 : Int32).toInt.toNat) (2 : Int32))))])) rfl (by rw [hml]; rfl) (argsL := [(.ref bq51), (.int (3 : Int32))]) (rest := [(.long (((own_pt ((own_b q1) (0 : Int32).toInt.toNat) (0 : Int32)) ||| (own_pt ((own_b q1) (1 : Int32).toInt.toNat) (1 : Int32))) ||| (own_pt ((own_b q1) (2 : Int32).toInt.toNat) (2 : Int32))))]) (lenOf own_pd_1 rfl) rfl (by show 2 * 0 + _ ≤ _; exact Nat.le_of_eq rfl) (hb hby at_51) (fun _ _ => ⟨rfl, hh54, (by decide : 1 + 0 ≤ _), (by decide : 6 + 0 ≤ _)⟩)
    dsimp only [Pt.U, Pt.locs, Pt.cells, Pt.slots] at X55 l55 y55 z55 st55 hQ55
    rw [l55, y55, z55] at X55
    obtain ⟨rfl, Nq55, hh55⟩ := hQ55
    replace Nf := Fr.app Nf Nq55
    refine own_step st55 ?_
    show own_Fin _ _ _ _ _ _ _ _ (mkF m 54 #[.val (.long q1), .second, .val (.int p2), .val (.int (6 : Int32)), .val (.ref bq51), .unset, .unset, .unset, .unset] [(.long (own_pt ((own_b q1) (3 : Int32).toInt.toNat) (3 : Int32))), (.long (((own_pt ((own_b q1) (0 : Int32).toInt.toNat) (0 : Int32)) ||| (own_pt ((own_b q1) (1 : Int32).toInt.toNat) (1 : Int32))) ||| (own_pt ((own_b q1) (2 : Int32).toInt.toNat) (2 : Int32))))])
    refine own_step (fun t k => XS.lor X55.here hx rfl (hb hby at_54) rfl k) ?_
    show own_Fin _ _ _ _ _ _ _ _ (mkF m 55 #[.val (.long q1), .second, .val (.int p2), .val (.int (6 : Int32)), .val (.ref bq51), .unset, .unset, .unset, .unset] [(.long ((((own_pt ((own_b q1) (0 : Int32).toInt.toNat) (0 : Int32)) ||| (own_pt ((own_b q1) (1 : Int32).toInt.toNat) (1 : Int32))) ||| (own_pt ((own_b q1) (2 : Int32).toInt.toNat) (2 : Int32))) ||| (own_pt ((own_b q1) (3 : Int32).toInt.toNat) (3 : Int32))))])
    refine own_step (fun t k => XS.aload X55.here hx rfl (hb hby at_55) rfl rfl k) ?_
    show own_Fin _ _ _ _ _ _ _ _ (mkF m 57 #[.val (.long q1), .second, .val (.int p2), .val (.int (6 : Int32)), .val (.ref bq51), .unset, .unset, .unset, .unset] [(.ref bq51), (.long ((((own_pt ((own_b q1) (0 : Int32).toInt.toNat) (0 : Int32)) ||| (own_pt ((own_b q1) (1 : Int32).toInt.toNat) (1 : Int32))) ||| (own_pt ((own_b q1) (2 : Int32).toInt.toNat) (2 : Int32))) ||| (own_pt ((own_b q1) (3 : Int32).toInt.toNat) (3 : Int32))))])
    refine own_step (fun t k => XS.iconst X55.here hx rfl (hb hby at_57) k) ?_
    show own_Fin _ _ _ _ _ _ _ _ (mkF m 58 #[.val (.long q1), .second, .val (.int p2), .val (.int (6 : Int32)), .val (.ref bq51), .unset, .unset, .unset, .unset] [(.int (4 : Int32)), (.ref bq51), (.long ((((own_pt ((own_b q1) (0 : Int32).toInt.toNat) (0 : Int32)) ||| (own_pt ((own_b q1) (1 : Int32).toInt.toNat) (1 : Int32))) ||| (own_pt ((own_b q1) (2 : Int32).toInt.toNat) (2 : Int32))) ||| (own_pt ((own_b q1) (3 : Int32).toInt.toNat) (3 : Int32))))])
    obtain ⟨_, _, ⟨T56, L56, k56, n56⟩, -, X56, ⟨Lc56, hQ56, l56, y56, z56⟩, st56⟩ := Jvm.LawKit.callS X55 hx (y := (⟨"com/example/kern_tablet/kerntablet/schema/IntegerHandlerLittleEndianPinLaw", "part", "([BI)J"⟩ : MethodName)) hown (mvT hZ (hw _ (List.mem_of_getElem? (i := 5) rfl))) (mvT hZ (hw _ (List.mem_of_getElem? (i := 6) rfl))) (mvT hZ (hw _ (List.mem_of_getElem? (i := 7) rfl))) (mvT hZ (hw _ (List.mem_of_getElem? (i := 8) rfl))) (by decide) (backOf (W := 2) (rm20 l Z a0 hw [] bq51 (4 : Int32) _ _ (6 : Int32) T51.heap n0 Zs V_bq51 rfl (by decide) (by decide)) hZ (hw _ (List.mem_of_getElem? (i := 8) rfl)) (hw _ (List.mem_of_getElem? (i := 7) rfl)) (by decide) (by decide)) (g := (mkF m 58 #[.val (.long q1), .second, .val (.int p2), .val (.int (6 : Int32)), .val (.ref bq51), .unset, .unset, .unset, .unset] [(.int (4 : Int32)), (.ref bq51), (.long ((((own_pt ((own_b q1) (0 : Int32).toInt.toNat) (0 : Int32)) ||| (own_pt ((own_b q1) (1 : Int32).toInt.toNat) (1 : Int32))) ||| (own_pt ((own_b q1) (2 : Int32).toInt.toNat) (2 : Int32))) ||| (own_pt ((own_b q1) (3 : Int32).toInt.toNat) (3 : Int32))))])) rfl (by rw [hml]; rfl) (argsL := [(.ref bq51), (.int (4 : Int32))]) (rest := [(.long ((((own_pt ((own_b q1) (0 : Int32).toInt.toNat) (0 : Int32)) ||| (own_pt ((own_b q1) (1 : Int32).toInt.toNat) (1 : Int32))) ||| (own_pt ((own_b q1) (2 : Int32).toInt.toNat) (2 : Int32))) ||| (own_pt ((own_b q1) (3 : Int32).toInt.toNat) (3 : Int32))))]) (lenOf own_pd_1 rfl) rfl (by show 2 * 0 + _ ≤ _; exact Nat.le_of_eq rfl) (hb hby at_58) (fun _ _ => ⟨rfl, hh55, (by decide : 1 + 0 ≤ _), (by decide : 6 + 0 ≤ _)⟩)
    dsimp only [Pt.U, Pt.locs, Pt.cells, Pt.slots] at X56 l56 y56 z56 st56 hQ56
    rw [l56, y56, z56] at X56
    obtain ⟨rfl, Nq56, hh56⟩ := hQ56
    replace Nf := Fr.app Nf Nq56
    refine own_step st56 ?_
    show own_Fin _ _ _ _ _ _ _ _ (mkF m 61 #[.val (.long q1), .second, .val (.int p2), .val (.int (6 : Int32)), .val (.ref bq51), .unset, .unset, .unset, .unset] [(.long (own_pt ((own_b q1) (4 : Int32).toInt.toNat) (4 : Int32))), (.long ((((own_pt ((own_b q1) (0 : Int32).toInt.toNat) (0 : Int32)) ||| (own_pt ((own_b q1) (1 : Int32).toInt.toNat) (1 : Int32))) ||| (own_pt ((own_b q1) (2 : Int32).toInt.toNat) (2 : Int32))) ||| (own_pt ((own_b q1) (3 : Int32).toInt.toNat) (3 : Int32))))])
    refine own_step (fun t k => XS.lor X56.here hx rfl (hb hby at_61) rfl k) ?_
    show own_Fin _ _ _ _ _ _ _ _ (mkF m 62 #[.val (.long q1), .second, .val (.int p2), .val (.int (6 : Int32)), .val (.ref bq51), .unset, .unset, .unset, .unset] [(.long (((((own_pt ((own_b q1) (0 : Int32).toInt.toNat) (0 : Int32)) ||| (own_pt ((own_b q1) (1 : Int32).toInt.toNat) (1 : Int32))) ||| (own_pt ((own_b q1) (2 : Int32).toInt.toNat) (2 : Int32))) ||| (own_pt ((own_b q1) (3 : Int32).toInt.toNat) (3 : Int32))) ||| (own_pt ((own_b q1) (4 : Int32).toInt.toNat) (4 : Int32))))])
    refine own_step (fun t k => XS.aload X56.here hx rfl (hb hby at_62) rfl rfl k) ?_
    show own_Fin _ _ _ _ _ _ _ _ (mkF m 64 #[.val (.long q1), .second, .val (.int p2), .val (.int (6 : Int32)), .val (.ref bq51), .unset, .unset, .unset, .unset] [(.ref bq51), (.long (((((own_pt ((own_b q1) (0 : Int32).toInt.toNat) (0 : Int32)) ||| (own_pt ((own_b q1) (1 : Int32).toInt.toNat) (1 : Int32))) ||| (own_pt ((own_b q1) (2 : Int32).toInt.toNat) (2 : Int32))) ||| (own_pt ((own_b q1) (3 : Int32).toInt.toNat) (3 : Int32))) ||| (own_pt ((own_b q1) (4 : Int32).toInt.toNat) (4 : Int32))))])
    refine own_step (fun t k => XS.iconst X56.here hx rfl (hb hby at_64) k) ?_
    show own_Fin _ _ _ _ _ _ _ _ (mkF m 65 #[.val (.long q1), .second, .val (.int p2), .val (.int (6 : Int32)), .val (.ref bq51), .unset, .unset, .unset, .unset] [(.int (5 : Int32)), (.ref bq51), (.long (((((own_pt ((own_b q1) (0 : Int32).toInt.toNat) (0 : Int32)) ||| (own_pt ((own_b q1) (1 : Int32).toInt.toNat) (1 : Int32))) ||| (own_pt ((own_b q1) (2 : Int32).toInt.toNat) (2 : Int32))) ||| (own_pt ((own_b q1) (3 : Int32).toInt.toNat) (3 : Int32))) ||| (own_pt ((own_b q1) (4 : Int32).toInt.toNat) (4 : Int32))))])
    obtain ⟨_, _, ⟨T57, L57, k57, n57⟩, -, X57, ⟨Lc57, hQ57, l57, y57, z57⟩, st57⟩ := Jvm.LawKit.callS X56 hx (y := (⟨"com/example/kern_tablet/kerntablet/schema/IntegerHandlerLittleEndianPinLaw", "part", "([BI)J"⟩ : MethodName)) hown (mvT hZ (hw _ (List.mem_of_getElem? (i := 5) rfl))) (mvT hZ (hw _ (List.mem_of_getElem? (i := 6) rfl))) (mvT hZ (hw _ (List.mem_of_getElem? (i := 7) rfl))) (mvT hZ (hw _ (List.mem_of_getElem? (i := 8) rfl))) (by decide) (backOf (W := 2) (rm20 l Z a0 hw [] bq51 (5 : Int32) _ _ (6 : Int32) T51.heap n0 Zs V_bq51 rfl (by decide) (by decide)) hZ (hw _ (List.mem_of_getElem? (i := 8) rfl)) (hw _ (List.mem_of_getElem? (i := 7) rfl)) (by decide) (by decide)) (g := (mkF m 65 #[.val (.long q1), .second, .val (.int p2), .val (.int (6 : Int32)), .val (.ref bq51), .unset, .unset, .unset, .unset] [(.int (5 : Int32)), (.ref bq51), (.long (((((own_pt ((own_b q1) (0 : Int32).toInt.toNat) (0 : Int32)) ||| (own_pt ((own_b q1) (1 : Int32).toInt.toNat) (1 : Int32))) ||| (own_pt ((own_b q1) (2 : Int32).toInt.toNat) (2 : Int32))) ||| (own_pt ((own_b q1) (3 : Int32).toInt.toNat) (3 : Int32))) ||| (own_pt ((own_b q1) (4 : Int32).toInt.toNat) (4 : Int32))))])) rfl (by rw [hml]; rfl) (argsL := [(.ref bq51), (.int (5 : Int32))]) (rest := [(.long (((((own_pt ((own_b q1) (0 : Int32).toInt.toNat) (0 : Int32)) ||| (own_pt ((own_b q1) (1 : Int32).toInt.toNat) (1 : Int32))) ||| (own_pt ((own_b q1) (2 : Int32).toInt.toNat) (2 : Int32))) ||| (own_pt ((own_b q1) (3 : Int32).toInt.toNat) (3 : Int32))) ||| (own_pt ((own_b q1) (4 : Int32).toInt.toNat) (4 : Int32))))]) (lenOf own_pd_1 rfl) rfl (by show 2 * 0 + _ ≤ _; exact Nat.le_of_eq rfl) (hb hby at_65) (fun _ _ => ⟨rfl, hh56, (by decide : 1 + 0 ≤ _), (by decide : 6 + 0 ≤ _)⟩)
    dsimp only [Pt.U, Pt.locs, Pt.cells, Pt.slots] at X57 l57 y57 z57 st57 hQ57
    rw [l57, y57, z57] at X57
    obtain ⟨rfl, Nq57, hh57⟩ := hQ57
    replace Nf := Fr.app Nf Nq57
    refine own_step st57 ?_
    show own_Fin _ _ _ _ _ _ _ _ (mkF m 68 #[.val (.long q1), .second, .val (.int p2), .val (.int (6 : Int32)), .val (.ref bq51), .unset, .unset, .unset, .unset] [(.long (own_pt ((own_b q1) (5 : Int32).toInt.toNat) (5 : Int32))), (.long (((((own_pt ((own_b q1) (0 : Int32).toInt.toNat) (0 : Int32)) ||| (own_pt ((own_b q1) (1 : Int32).toInt.toNat) (1 : Int32))) ||| (own_pt ((own_b q1) (2 : Int32).toInt.toNat) (2 : Int32))) ||| (own_pt ((own_b q1) (3 : Int32).toInt.toNat) (3 : Int32))) ||| (own_pt ((own_b q1) (4 : Int32).toInt.toNat) (4 : Int32))))])
    refine own_step (fun t k => XS.lor X57.here hx rfl (hb hby at_68) rfl k) ?_
    show own_Fin _ _ _ _ _ _ _ _ (mkF m 69 #[.val (.long q1), .second, .val (.int p2), .val (.int (6 : Int32)), .val (.ref bq51), .unset, .unset, .unset, .unset] [(.long ((((((own_pt ((own_b q1) (0 : Int32).toInt.toNat) (0 : Int32)) ||| (own_pt ((own_b q1) (1 : Int32).toInt.toNat) (1 : Int32))) ||| (own_pt ((own_b q1) (2 : Int32).toInt.toNat) (2 : Int32))) ||| (own_pt ((own_b q1) (3 : Int32).toInt.toNat) (3 : Int32))) ||| (own_pt ((own_b q1) (4 : Int32).toInt.toNat) (4 : Int32))) ||| (own_pt ((own_b q1) (5 : Int32).toInt.toNat) (5 : Int32))))])
    refine own_step (fun t k => XS.aload X57.here hx rfl (hb hby at_69) rfl rfl k) ?_
    show own_Fin _ _ _ _ _ _ _ _ (mkF m 71 #[.val (.long q1), .second, .val (.int p2), .val (.int (6 : Int32)), .val (.ref bq51), .unset, .unset, .unset, .unset] [(.ref bq51), (.long ((((((own_pt ((own_b q1) (0 : Int32).toInt.toNat) (0 : Int32)) ||| (own_pt ((own_b q1) (1 : Int32).toInt.toNat) (1 : Int32))) ||| (own_pt ((own_b q1) (2 : Int32).toInt.toNat) (2 : Int32))) ||| (own_pt ((own_b q1) (3 : Int32).toInt.toNat) (3 : Int32))) ||| (own_pt ((own_b q1) (4 : Int32).toInt.toNat) (4 : Int32))) ||| (own_pt ((own_b q1) (5 : Int32).toInt.toNat) (5 : Int32))))])
    refine own_step (fun t k => XS.bipush X57.here hx rfl (hb hby at_71) k) ?_
    show own_Fin _ _ _ _ _ _ _ _ (mkF m 73 #[.val (.long q1), .second, .val (.int p2), .val (.int (6 : Int32)), .val (.ref bq51), .unset, .unset, .unset, .unset] [(.int (6 : Int32)), (.ref bq51), (.long ((((((own_pt ((own_b q1) (0 : Int32).toInt.toNat) (0 : Int32)) ||| (own_pt ((own_b q1) (1 : Int32).toInt.toNat) (1 : Int32))) ||| (own_pt ((own_b q1) (2 : Int32).toInt.toNat) (2 : Int32))) ||| (own_pt ((own_b q1) (3 : Int32).toInt.toNat) (3 : Int32))) ||| (own_pt ((own_b q1) (4 : Int32).toInt.toNat) (4 : Int32))) ||| (own_pt ((own_b q1) (5 : Int32).toInt.toNat) (5 : Int32))))])
    obtain ⟨_, _, ⟨T58, L58, k58, n58⟩, -, X58, ⟨Lc58, hQ58, l58, y58, z58⟩, st58⟩ := Jvm.LawKit.callS X57 hx (y := (⟨"com/example/kern_tablet/kerntablet/schema/IntegerHandlerLittleEndianPinLaw", "part", "([BI)J"⟩ : MethodName)) hown (mvT hZ (hw _ (List.mem_of_getElem? (i := 5) rfl))) (mvT hZ (hw _ (List.mem_of_getElem? (i := 6) rfl))) (mvT hZ (hw _ (List.mem_of_getElem? (i := 7) rfl))) (mvT hZ (hw _ (List.mem_of_getElem? (i := 8) rfl))) (by decide) (backOf (W := 2) (rm21 l Z a0 hw [] bq51 (6 : Int32) _ _ (6 : Int32) T51.heap n0 Zs V_bq51 rfl (by decide) (by decide)) hZ (hw _ (List.mem_of_getElem? (i := 8) rfl)) (hw _ (List.mem_of_getElem? (i := 7) rfl)) (by decide) (by decide)) (g := (mkF m 73 #[.val (.long q1), .second, .val (.int p2), .val (.int (6 : Int32)), .val (.ref bq51), .unset, .unset, .unset, .unset] [(.int (6 : Int32)), (.ref bq51), (.long ((((((own_pt ((own_b q1) (0 : Int32).toInt.toNat) (0 : Int32)) ||| (own_pt ((own_b q1) (1 : Int32).toInt.toNat) (1 : Int32))) ||| (own_pt ((own_b q1) (2 : Int32).toInt.toNat) (2 : Int32))) ||| (own_pt ((own_b q1) (3 : Int32).toInt.toNat) (3 : Int32))) ||| (own_pt ((own_b q1) (4 : Int32).toInt.toNat) (4 : Int32))) ||| (own_pt ((own_b q1) (5 : Int32).toInt.toNat) (5 : Int32))))])) rfl (by rw [hml]; rfl) (argsL := [(.ref bq51), (.int (6 : Int32))]) (rest := [(.long ((((((own_pt ((own_b q1) (0 : Int32).toInt.toNat) (0 : Int32)) ||| (own_pt ((own_b q1) (1 : Int32).toInt.toNat) (1 : Int32))) ||| (own_pt ((own_b q1) (2 : Int32).toInt.toNat) (2 : Int32))) ||| (own_pt ((own_b q1) (3 : Int32).toInt.toNat) (3 : Int32))) ||| (own_pt ((own_b q1) (4 : Int32).toInt.toNat) (4 : Int32))) ||| (own_pt ((own_b q1) (5 : Int32).toInt.toNat) (5 : Int32))))]) (lenOf own_pd_1 rfl) rfl (by show 2 * 0 + _ ≤ _; exact Nat.le_of_eq rfl) (hb hby at_73) (fun _ _ => ⟨rfl, hh57, (by decide : 1 + 0 ≤ _), (by decide : 6 + 0 ≤ _)⟩)
    dsimp only [Pt.U, Pt.locs, Pt.cells, Pt.slots] at X58 l58 y58 z58 st58 hQ58
    rw [l58, y58, z58] at X58
    obtain ⟨rfl, Nq58, hh58⟩ := hQ58
    replace Nf := Fr.app Nf Nq58
    refine own_step st58 ?_
    show own_Fin _ _ _ _ _ _ _ _ (mkF m 76 #[.val (.long q1), .second, .val (.int p2), .val (.int (6 : Int32)), .val (.ref bq51), .unset, .unset, .unset, .unset] [(.long (0 : Int64)), (.long ((((((own_pt ((own_b q1) (0 : Int32).toInt.toNat) (0 : Int32)) ||| (own_pt ((own_b q1) (1 : Int32).toInt.toNat) (1 : Int32))) ||| (own_pt ((own_b q1) (2 : Int32).toInt.toNat) (2 : Int32))) ||| (own_pt ((own_b q1) (3 : Int32).toInt.toNat) (3 : Int32))) ||| (own_pt ((own_b q1) (4 : Int32).toInt.toNat) (4 : Int32))) ||| (own_pt ((own_b q1) (5 : Int32).toInt.toNat) (5 : Int32))))])
    refine own_step (fun t k => XS.lor X58.here hx rfl (hb hby at_76) rfl k) ?_
    show own_Fin _ _ _ _ _ _ _ _ (mkF m 77 #[.val (.long q1), .second, .val (.int p2), .val (.int (6 : Int32)), .val (.ref bq51), .unset, .unset, .unset, .unset] [(.long (((((((own_pt ((own_b q1) (0 : Int32).toInt.toNat) (0 : Int32)) ||| (own_pt ((own_b q1) (1 : Int32).toInt.toNat) (1 : Int32))) ||| (own_pt ((own_b q1) (2 : Int32).toInt.toNat) (2 : Int32))) ||| (own_pt ((own_b q1) (3 : Int32).toInt.toNat) (3 : Int32))) ||| (own_pt ((own_b q1) (4 : Int32).toInt.toNat) (4 : Int32))) ||| (own_pt ((own_b q1) (5 : Int32).toInt.toNat) (5 : Int32))) ||| (0 : Int64)))])
    refine own_step (fun t k => XS.aload X58.here hx rfl (hb hby at_77) rfl rfl k) ?_
    show own_Fin _ _ _ _ _ _ _ _ (mkF m 79 #[.val (.long q1), .second, .val (.int p2), .val (.int (6 : Int32)), .val (.ref bq51), .unset, .unset, .unset, .unset] [(.ref bq51), (.long (((((((own_pt ((own_b q1) (0 : Int32).toInt.toNat) (0 : Int32)) ||| (own_pt ((own_b q1) (1 : Int32).toInt.toNat) (1 : Int32))) ||| (own_pt ((own_b q1) (2 : Int32).toInt.toNat) (2 : Int32))) ||| (own_pt ((own_b q1) (3 : Int32).toInt.toNat) (3 : Int32))) ||| (own_pt ((own_b q1) (4 : Int32).toInt.toNat) (4 : Int32))) ||| (own_pt ((own_b q1) (5 : Int32).toInt.toNat) (5 : Int32))) ||| (0 : Int64)))])
    refine own_step (fun t k => XS.bipush X58.here hx rfl (hb hby at_79) k) ?_
    show own_Fin _ _ _ _ _ _ _ _ (mkF m 81 #[.val (.long q1), .second, .val (.int p2), .val (.int (6 : Int32)), .val (.ref bq51), .unset, .unset, .unset, .unset] [(.int (7 : Int32)), (.ref bq51), (.long (((((((own_pt ((own_b q1) (0 : Int32).toInt.toNat) (0 : Int32)) ||| (own_pt ((own_b q1) (1 : Int32).toInt.toNat) (1 : Int32))) ||| (own_pt ((own_b q1) (2 : Int32).toInt.toNat) (2 : Int32))) ||| (own_pt ((own_b q1) (3 : Int32).toInt.toNat) (3 : Int32))) ||| (own_pt ((own_b q1) (4 : Int32).toInt.toNat) (4 : Int32))) ||| (own_pt ((own_b q1) (5 : Int32).toInt.toNat) (5 : Int32))) ||| (0 : Int64)))])
    obtain ⟨_, _, ⟨T59, L59, k59, n59⟩, -, X59, ⟨Lc59, hQ59, l59, y59, z59⟩, st59⟩ := Jvm.LawKit.callS X58 hx (y := (⟨"com/example/kern_tablet/kerntablet/schema/IntegerHandlerLittleEndianPinLaw", "part", "([BI)J"⟩ : MethodName)) hown (mvT hZ (hw _ (List.mem_of_getElem? (i := 5) rfl))) (mvT hZ (hw _ (List.mem_of_getElem? (i := 6) rfl))) (mvT hZ (hw _ (List.mem_of_getElem? (i := 7) rfl))) (mvT hZ (hw _ (List.mem_of_getElem? (i := 8) rfl))) (by decide) (backOf (W := 2) (rm21 l Z a0 hw [] bq51 (7 : Int32) _ _ (6 : Int32) T51.heap n0 Zs V_bq51 rfl (by decide) (by decide)) hZ (hw _ (List.mem_of_getElem? (i := 8) rfl)) (hw _ (List.mem_of_getElem? (i := 7) rfl)) (by decide) (by decide)) (g := (mkF m 81 #[.val (.long q1), .second, .val (.int p2), .val (.int (6 : Int32)), .val (.ref bq51), .unset, .unset, .unset, .unset] [(.int (7 : Int32)), (.ref bq51), (.long (((((((own_pt ((own_b q1) (0 : Int32).toInt.toNat) (0 : Int32)) ||| (own_pt ((own_b q1) (1 : Int32).toInt.toNat) (1 : Int32))) ||| (own_pt ((own_b q1) (2 : Int32).toInt.toNat) (2 : Int32))) ||| (own_pt ((own_b q1) (3 : Int32).toInt.toNat) (3 : Int32))) ||| (own_pt ((own_b q1) (4 : Int32).toInt.toNat) (4 : Int32))) ||| (own_pt ((own_b q1) (5 : Int32).toInt.toNat) (5 : Int32))) ||| (0 : Int64)))])) rfl (by rw [hml]; rfl) (argsL := [(.ref bq51), (.int (7 : Int32))]) (rest := [(.long (((((((own_pt ((own_b q1) (0 : Int32).toInt.toNat) (0 : Int32)) ||| (own_pt ((own_b q1) (1 : Int32).toInt.toNat) (1 : Int32))) ||| (own_pt ((own_b q1) (2 : Int32).toInt.toNat) (2 : Int32))) ||| (own_pt ((own_b q1) (3 : Int32).toInt.toNat) (3 : Int32))) ||| (own_pt ((own_b q1) (4 : Int32).toInt.toNat) (4 : Int32))) ||| (own_pt ((own_b q1) (5 : Int32).toInt.toNat) (5 : Int32))) ||| (0 : Int64)))]) (lenOf own_pd_1 rfl) rfl (by show 2 * 0 + _ ≤ _; exact Nat.le_of_eq rfl) (hb hby at_81) (fun _ _ => ⟨rfl, hh58, (by decide : 1 + 0 ≤ _), (by decide : 6 + 0 ≤ _)⟩)
    dsimp only [Pt.U, Pt.locs, Pt.cells, Pt.slots] at X59 l59 y59 z59 st59 hQ59
    rw [l59, y59, z59] at X59
    obtain ⟨rfl, Nq59, hh59⟩ := hQ59
    replace Nf := Fr.app Nf Nq59
    refine own_step st59 ?_
    show own_Fin _ _ _ _ _ _ _ _ (mkF m 84 #[.val (.long q1), .second, .val (.int p2), .val (.int (6 : Int32)), .val (.ref bq51), .unset, .unset, .unset, .unset] [(.long (0 : Int64)), (.long (((((((own_pt ((own_b q1) (0 : Int32).toInt.toNat) (0 : Int32)) ||| (own_pt ((own_b q1) (1 : Int32).toInt.toNat) (1 : Int32))) ||| (own_pt ((own_b q1) (2 : Int32).toInt.toNat) (2 : Int32))) ||| (own_pt ((own_b q1) (3 : Int32).toInt.toNat) (3 : Int32))) ||| (own_pt ((own_b q1) (4 : Int32).toInt.toNat) (4 : Int32))) ||| (own_pt ((own_b q1) (5 : Int32).toInt.toNat) (5 : Int32))) ||| (0 : Int64)))])
    refine own_step (fun t k => XS.lor X59.here hx rfl (hb hby at_84) rfl k) ?_
    show own_Fin _ _ _ _ _ _ _ _ (mkF m 85 #[.val (.long q1), .second, .val (.int p2), .val (.int (6 : Int32)), .val (.ref bq51), .unset, .unset, .unset, .unset] [(.long ((((((((own_pt ((own_b q1) (0 : Int32).toInt.toNat) (0 : Int32)) ||| (own_pt ((own_b q1) (1 : Int32).toInt.toNat) (1 : Int32))) ||| (own_pt ((own_b q1) (2 : Int32).toInt.toNat) (2 : Int32))) ||| (own_pt ((own_b q1) (3 : Int32).toInt.toNat) (3 : Int32))) ||| (own_pt ((own_b q1) (4 : Int32).toInt.toNat) (4 : Int32))) ||| (own_pt ((own_b q1) (5 : Int32).toInt.toNat) (5 : Int32))) ||| (0 : Int64)) ||| (0 : Int64)))])
    refine own_step (fun t k => XS.lstore X59.here hx rfl (hb hby at_85) rfl (l' := #[.val (.long q1), .second, .val (.int p2), .val (.int (6 : Int32)), .val (.ref bq51), .val (.long ((((((((own_pt ((own_b q1) (0 : Int32).toInt.toNat) (0 : Int32)) ||| (own_pt ((own_b q1) (1 : Int32).toInt.toNat) (1 : Int32))) ||| (own_pt ((own_b q1) (2 : Int32).toInt.toNat) (2 : Int32))) ||| (own_pt ((own_b q1) (3 : Int32).toInt.toNat) (3 : Int32))) ||| (own_pt ((own_b q1) (4 : Int32).toInt.toNat) (4 : Int32))) ||| (own_pt ((own_b q1) (5 : Int32).toInt.toNat) (5 : Int32))) ||| (0 : Int64)) ||| (0 : Int64))), .second, .unset, .unset]) rfl k) ?_
    show own_Fin _ _ _ _ _ _ _ _ (mkF m 87 #[.val (.long q1), .second, .val (.int p2), .val (.int (6 : Int32)), .val (.ref bq51), .val (.long ((((((((own_pt ((own_b q1) (0 : Int32).toInt.toNat) (0 : Int32)) ||| (own_pt ((own_b q1) (1 : Int32).toInt.toNat) (1 : Int32))) ||| (own_pt ((own_b q1) (2 : Int32).toInt.toNat) (2 : Int32))) ||| (own_pt ((own_b q1) (3 : Int32).toInt.toNat) (3 : Int32))) ||| (own_pt ((own_b q1) (4 : Int32).toInt.toNat) (4 : Int32))) ||| (own_pt ((own_b q1) (5 : Int32).toInt.toNat) (5 : Int32))) ||| (0 : Int64)) ||| (0 : Int64))), .second, .unset, .unset] [])
    refine own_step (fun t k => XS.iloadN X59.here hx rfl (hb hby at_87) rfl k) ?_
    show own_Fin _ _ _ _ _ _ _ _ (mkF m 88 #[.val (.long q1), .second, .val (.int p2), .val (.int (6 : Int32)), .val (.ref bq51), .val (.long ((((((((own_pt ((own_b q1) (0 : Int32).toInt.toNat) (0 : Int32)) ||| (own_pt ((own_b q1) (1 : Int32).toInt.toNat) (1 : Int32))) ||| (own_pt ((own_b q1) (2 : Int32).toInt.toNat) (2 : Int32))) ||| (own_pt ((own_b q1) (3 : Int32).toInt.toNat) (3 : Int32))) ||| (own_pt ((own_b q1) (4 : Int32).toInt.toNat) (4 : Int32))) ||| (own_pt ((own_b q1) (5 : Int32).toInt.toNat) (5 : Int32))) ||| (0 : Int64)) ||| (0 : Int64))), .second, .unset, .unset] [(.int (6 : Int32))])
    refine own_step (fun t k => XS.bipush X59.here hx rfl (hb hby at_88) k) ?_
    show own_Fin _ _ _ _ _ _ _ _ (mkF m 90 #[.val (.long q1), .second, .val (.int p2), .val (.int (6 : Int32)), .val (.ref bq51), .val (.long ((((((((own_pt ((own_b q1) (0 : Int32).toInt.toNat) (0 : Int32)) ||| (own_pt ((own_b q1) (1 : Int32).toInt.toNat) (1 : Int32))) ||| (own_pt ((own_b q1) (2 : Int32).toInt.toNat) (2 : Int32))) ||| (own_pt ((own_b q1) (3 : Int32).toInt.toNat) (3 : Int32))) ||| (own_pt ((own_b q1) (4 : Int32).toInt.toNat) (4 : Int32))) ||| (own_pt ((own_b q1) (5 : Int32).toInt.toNat) (5 : Int32))) ||| (0 : Int64)) ||| (0 : Int64))), .second, .unset, .unset] [(.int (8 : Int32)), (.int (6 : Int32))])
    refine own_step (fun t k => XS.icmpYes X59.here hx rfl (pc0 := 90) (pc' := 99) rfl (hb hby at_90) rfl (by decide) (by decide) (by decide) k) ?_
    show own_Fin _ _ _ _ _ _ _ _ (mkF m 99 #[.val (.long q1), .second, .val (.int p2), .val (.int (6 : Int32)), .val (.ref bq51), .val (.long ((((((((own_pt ((own_b q1) (0 : Int32).toInt.toNat) (0 : Int32)) ||| (own_pt ((own_b q1) (1 : Int32).toInt.toNat) (1 : Int32))) ||| (own_pt ((own_b q1) (2 : Int32).toInt.toNat) (2 : Int32))) ||| (own_pt ((own_b q1) (3 : Int32).toInt.toNat) (3 : Int32))) ||| (own_pt ((own_b q1) (4 : Int32).toInt.toNat) (4 : Int32))) ||| (own_pt ((own_b q1) (5 : Int32).toInt.toNat) (5 : Int32))) ||| (0 : Int64)) ||| (0 : Int64))), .second, .unset, .unset] [])
    refine own_step (fun t k => XS.lconst X59.here hx rfl (hb hby at_99) k) ?_
    show own_Fin _ _ _ _ _ _ _ _ (mkF m 100 #[.val (.long q1), .second, .val (.int p2), .val (.int (6 : Int32)), .val (.ref bq51), .val (.long ((((((((own_pt ((own_b q1) (0 : Int32).toInt.toNat) (0 : Int32)) ||| (own_pt ((own_b q1) (1 : Int32).toInt.toNat) (1 : Int32))) ||| (own_pt ((own_b q1) (2 : Int32).toInt.toNat) (2 : Int32))) ||| (own_pt ((own_b q1) (3 : Int32).toInt.toNat) (3 : Int32))) ||| (own_pt ((own_b q1) (4 : Int32).toInt.toNat) (4 : Int32))) ||| (own_pt ((own_b q1) (5 : Int32).toInt.toNat) (5 : Int32))) ||| (0 : Int64)) ||| (0 : Int64))), .second, .unset, .unset] [(.long (1 : Int64))])
    refine own_step (fun t k => XS.bipush X59.here hx rfl (hb hby at_100) k) ?_
    show own_Fin _ _ _ _ _ _ _ _ (mkF m 102 #[.val (.long q1), .second, .val (.int p2), .val (.int (6 : Int32)), .val (.ref bq51), .val (.long ((((((((own_pt ((own_b q1) (0 : Int32).toInt.toNat) (0 : Int32)) ||| (own_pt ((own_b q1) (1 : Int32).toInt.toNat) (1 : Int32))) ||| (own_pt ((own_b q1) (2 : Int32).toInt.toNat) (2 : Int32))) ||| (own_pt ((own_b q1) (3 : Int32).toInt.toNat) (3 : Int32))) ||| (own_pt ((own_b q1) (4 : Int32).toInt.toNat) (4 : Int32))) ||| (own_pt ((own_b q1) (5 : Int32).toInt.toNat) (5 : Int32))) ||| (0 : Int64)) ||| (0 : Int64))), .second, .unset, .unset] [(.int (8 : Int32)), (.long (1 : Int64))])
    refine own_step (fun t k => XS.iloadN X59.here hx rfl (hb hby at_102) rfl k) ?_
    show own_Fin _ _ _ _ _ _ _ _ (mkF m 103 #[.val (.long q1), .second, .val (.int p2), .val (.int (6 : Int32)), .val (.ref bq51), .val (.long ((((((((own_pt ((own_b q1) (0 : Int32).toInt.toNat) (0 : Int32)) ||| (own_pt ((own_b q1) (1 : Int32).toInt.toNat) (1 : Int32))) ||| (own_pt ((own_b q1) (2 : Int32).toInt.toNat) (2 : Int32))) ||| (own_pt ((own_b q1) (3 : Int32).toInt.toNat) (3 : Int32))) ||| (own_pt ((own_b q1) (4 : Int32).toInt.toNat) (4 : Int32))) ||| (own_pt ((own_b q1) (5 : Int32).toInt.toNat) (5 : Int32))) ||| (0 : Int64)) ||| (0 : Int64))), .second, .unset, .unset] [(.int (6 : Int32)), (.int (8 : Int32)), (.long (1 : Int64))])
    refine own_step (fun t k => XS.imul X59.here hx rfl (hb hby at_103) rfl k) ?_
    show own_Fin _ _ _ _ _ _ _ _ (mkF m 104 #[.val (.long q1), .second, .val (.int p2), .val (.int (6 : Int32)), .val (.ref bq51), .val (.long ((((((((own_pt ((own_b q1) (0 : Int32).toInt.toNat) (0 : Int32)) ||| (own_pt ((own_b q1) (1 : Int32).toInt.toNat) (1 : Int32))) ||| (own_pt ((own_b q1) (2 : Int32).toInt.toNat) (2 : Int32))) ||| (own_pt ((own_b q1) (3 : Int32).toInt.toNat) (3 : Int32))) ||| (own_pt ((own_b q1) (4 : Int32).toInt.toNat) (4 : Int32))) ||| (own_pt ((own_b q1) (5 : Int32).toInt.toNat) (5 : Int32))) ||| (0 : Int64)) ||| (0 : Int64))), .second, .unset, .unset] [(.int (48 : Int32)), (.long (1 : Int64))])
    refine own_step (fun t k => XS.lshl X59.here hx rfl (hb hby at_104) rfl k) ?_
    show own_Fin _ _ _ _ _ _ _ _ (mkF m 105 #[.val (.long q1), .second, .val (.int p2), .val (.int (6 : Int32)), .val (.ref bq51), .val (.long ((((((((own_pt ((own_b q1) (0 : Int32).toInt.toNat) (0 : Int32)) ||| (own_pt ((own_b q1) (1 : Int32).toInt.toNat) (1 : Int32))) ||| (own_pt ((own_b q1) (2 : Int32).toInt.toNat) (2 : Int32))) ||| (own_pt ((own_b q1) (3 : Int32).toInt.toNat) (3 : Int32))) ||| (own_pt ((own_b q1) (4 : Int32).toInt.toNat) (4 : Int32))) ||| (own_pt ((own_b q1) (5 : Int32).toInt.toNat) (5 : Int32))) ||| (0 : Int64)) ||| (0 : Int64))), .second, .unset, .unset] [(.long ((1 : Int64) <<< ((48 : Int32) &&& 0x3f).toInt64))])
    refine own_step (fun t k => XS.lconst X59.here hx rfl (hb hby at_105) k) ?_
    show own_Fin _ _ _ _ _ _ _ _ (mkF m 106 #[.val (.long q1), .second, .val (.int p2), .val (.int (6 : Int32)), .val (.ref bq51), .val (.long ((((((((own_pt ((own_b q1) (0 : Int32).toInt.toNat) (0 : Int32)) ||| (own_pt ((own_b q1) (1 : Int32).toInt.toNat) (1 : Int32))) ||| (own_pt ((own_b q1) (2 : Int32).toInt.toNat) (2 : Int32))) ||| (own_pt ((own_b q1) (3 : Int32).toInt.toNat) (3 : Int32))) ||| (own_pt ((own_b q1) (4 : Int32).toInt.toNat) (4 : Int32))) ||| (own_pt ((own_b q1) (5 : Int32).toInt.toNat) (5 : Int32))) ||| (0 : Int64)) ||| (0 : Int64))), .second, .unset, .unset] [(.long (1 : Int64)), (.long ((1 : Int64) <<< ((48 : Int32) &&& 0x3f).toInt64))])
    refine own_step (fun t k => XS.lsub X59.here hx rfl (hb hby at_106) rfl k) ?_
    show own_Fin _ _ _ _ _ _ _ _ (mkF m 107 #[.val (.long q1), .second, .val (.int p2), .val (.int (6 : Int32)), .val (.ref bq51), .val (.long ((((((((own_pt ((own_b q1) (0 : Int32).toInt.toNat) (0 : Int32)) ||| (own_pt ((own_b q1) (1 : Int32).toInt.toNat) (1 : Int32))) ||| (own_pt ((own_b q1) (2 : Int32).toInt.toNat) (2 : Int32))) ||| (own_pt ((own_b q1) (3 : Int32).toInt.toNat) (3 : Int32))) ||| (own_pt ((own_b q1) (4 : Int32).toInt.toNat) (4 : Int32))) ||| (own_pt ((own_b q1) (5 : Int32).toInt.toNat) (5 : Int32))) ||| (0 : Int64)) ||| (0 : Int64))), .second, .unset, .unset] [(.long (((1 : Int64) <<< ((48 : Int32) &&& 0x3f).toInt64) - (1 : Int64)))])
    refine own_step (fun t k => XS.lstore X59.here hx rfl (hb hby at_107) rfl (l' := #[.val (.long q1), .second, .val (.int p2), .val (.int (6 : Int32)), .val (.ref bq51), .val (.long ((((((((own_pt ((own_b q1) (0 : Int32).toInt.toNat) (0 : Int32)) ||| (own_pt ((own_b q1) (1 : Int32).toInt.toNat) (1 : Int32))) ||| (own_pt ((own_b q1) (2 : Int32).toInt.toNat) (2 : Int32))) ||| (own_pt ((own_b q1) (3 : Int32).toInt.toNat) (3 : Int32))) ||| (own_pt ((own_b q1) (4 : Int32).toInt.toNat) (4 : Int32))) ||| (own_pt ((own_b q1) (5 : Int32).toInt.toNat) (5 : Int32))) ||| (0 : Int64)) ||| (0 : Int64))), .second, .val (.long (((1 : Int64) <<< ((48 : Int32) &&& 0x3f).toInt64) - (1 : Int64))), .second]) rfl k) ?_
    show own_Fin _ _ _ _ _ _ _ _ (mkF m 109 #[.val (.long q1), .second, .val (.int p2), .val (.int (6 : Int32)), .val (.ref bq51), .val (.long ((((((((own_pt ((own_b q1) (0 : Int32).toInt.toNat) (0 : Int32)) ||| (own_pt ((own_b q1) (1 : Int32).toInt.toNat) (1 : Int32))) ||| (own_pt ((own_b q1) (2 : Int32).toInt.toNat) (2 : Int32))) ||| (own_pt ((own_b q1) (3 : Int32).toInt.toNat) (3 : Int32))) ||| (own_pt ((own_b q1) (4 : Int32).toInt.toNat) (4 : Int32))) ||| (own_pt ((own_b q1) (5 : Int32).toInt.toNat) (5 : Int32))) ||| (0 : Int64)) ||| (0 : Int64))), .second, .val (.long (((1 : Int64) <<< ((48 : Int32) &&& 0x3f).toInt64) - (1 : Int64))), .second] [])
    refine own_step (fun t k => XS.lload X59.here hx rfl (hb hby at_109) rfl k) ?_
    show own_Fin _ _ _ _ _ _ _ _ (mkF m 111 #[.val (.long q1), .second, .val (.int p2), .val (.int (6 : Int32)), .val (.ref bq51), .val (.long ((((((((own_pt ((own_b q1) (0 : Int32).toInt.toNat) (0 : Int32)) ||| (own_pt ((own_b q1) (1 : Int32).toInt.toNat) (1 : Int32))) ||| (own_pt ((own_b q1) (2 : Int32).toInt.toNat) (2 : Int32))) ||| (own_pt ((own_b q1) (3 : Int32).toInt.toNat) (3 : Int32))) ||| (own_pt ((own_b q1) (4 : Int32).toInt.toNat) (4 : Int32))) ||| (own_pt ((own_b q1) (5 : Int32).toInt.toNat) (5 : Int32))) ||| (0 : Int64)) ||| (0 : Int64))), .second, .val (.long (((1 : Int64) <<< ((48 : Int32) &&& 0x3f).toInt64) - (1 : Int64))), .second] [(.long ((((((((own_pt ((own_b q1) (0 : Int32).toInt.toNat) (0 : Int32)) ||| (own_pt ((own_b q1) (1 : Int32).toInt.toNat) (1 : Int32))) ||| (own_pt ((own_b q1) (2 : Int32).toInt.toNat) (2 : Int32))) ||| (own_pt ((own_b q1) (3 : Int32).toInt.toNat) (3 : Int32))) ||| (own_pt ((own_b q1) (4 : Int32).toInt.toNat) (4 : Int32))) ||| (own_pt ((own_b q1) (5 : Int32).toInt.toNat) (5 : Int32))) ||| (0 : Int64)) ||| (0 : Int64)))])
    refine own_step (fun t k => XS.lloadN X59.here hx rfl (hb hby at_111) rfl k) ?_
    show own_Fin _ _ _ _ _ _ _ _ (mkF m 112 #[.val (.long q1), .second, .val (.int p2), .val (.int (6 : Int32)), .val (.ref bq51), .val (.long ((((((((own_pt ((own_b q1) (0 : Int32).toInt.toNat) (0 : Int32)) ||| (own_pt ((own_b q1) (1 : Int32).toInt.toNat) (1 : Int32))) ||| (own_pt ((own_b q1) (2 : Int32).toInt.toNat) (2 : Int32))) ||| (own_pt ((own_b q1) (3 : Int32).toInt.toNat) (3 : Int32))) ||| (own_pt ((own_b q1) (4 : Int32).toInt.toNat) (4 : Int32))) ||| (own_pt ((own_b q1) (5 : Int32).toInt.toNat) (5 : Int32))) ||| (0 : Int64)) ||| (0 : Int64))), .second, .val (.long (((1 : Int64) <<< ((48 : Int32) &&& 0x3f).toInt64) - (1 : Int64))), .second] [(.long q1), (.long ((((((((own_pt ((own_b q1) (0 : Int32).toInt.toNat) (0 : Int32)) ||| (own_pt ((own_b q1) (1 : Int32).toInt.toNat) (1 : Int32))) ||| (own_pt ((own_b q1) (2 : Int32).toInt.toNat) (2 : Int32))) ||| (own_pt ((own_b q1) (3 : Int32).toInt.toNat) (3 : Int32))) ||| (own_pt ((own_b q1) (4 : Int32).toInt.toNat) (4 : Int32))) ||| (own_pt ((own_b q1) (5 : Int32).toInt.toNat) (5 : Int32))) ||| (0 : Int64)) ||| (0 : Int64)))])
    refine own_step (fun t k => XS.lload X59.here hx rfl (hb hby at_112) rfl k) ?_
    show own_Fin _ _ _ _ _ _ _ _ (mkF m 114 #[.val (.long q1), .second, .val (.int p2), .val (.int (6 : Int32)), .val (.ref bq51), .val (.long ((((((((own_pt ((own_b q1) (0 : Int32).toInt.toNat) (0 : Int32)) ||| (own_pt ((own_b q1) (1 : Int32).toInt.toNat) (1 : Int32))) ||| (own_pt ((own_b q1) (2 : Int32).toInt.toNat) (2 : Int32))) ||| (own_pt ((own_b q1) (3 : Int32).toInt.toNat) (3 : Int32))) ||| (own_pt ((own_b q1) (4 : Int32).toInt.toNat) (4 : Int32))) ||| (own_pt ((own_b q1) (5 : Int32).toInt.toNat) (5 : Int32))) ||| (0 : Int64)) ||| (0 : Int64))), .second, .val (.long (((1 : Int64) <<< ((48 : Int32) &&& 0x3f).toInt64) - (1 : Int64))), .second] [(.long (((1 : Int64) <<< ((48 : Int32) &&& 0x3f).toInt64) - (1 : Int64))), (.long q1), (.long ((((((((own_pt ((own_b q1) (0 : Int32).toInt.toNat) (0 : Int32)) ||| (own_pt ((own_b q1) (1 : Int32).toInt.toNat) (1 : Int32))) ||| (own_pt ((own_b q1) (2 : Int32).toInt.toNat) (2 : Int32))) ||| (own_pt ((own_b q1) (3 : Int32).toInt.toNat) (3 : Int32))) ||| (own_pt ((own_b q1) (4 : Int32).toInt.toNat) (4 : Int32))) ||| (own_pt ((own_b q1) (5 : Int32).toInt.toNat) (5 : Int32))) ||| (0 : Int64)) ||| (0 : Int64)))])
    refine own_step (fun t k => XS.land X59.here hx rfl (hb hby at_114) rfl k) ?_
    show own_Fin _ _ _ _ _ _ _ _ (mkF m 115 #[.val (.long q1), .second, .val (.int p2), .val (.int (6 : Int32)), .val (.ref bq51), .val (.long ((((((((own_pt ((own_b q1) (0 : Int32).toInt.toNat) (0 : Int32)) ||| (own_pt ((own_b q1) (1 : Int32).toInt.toNat) (1 : Int32))) ||| (own_pt ((own_b q1) (2 : Int32).toInt.toNat) (2 : Int32))) ||| (own_pt ((own_b q1) (3 : Int32).toInt.toNat) (3 : Int32))) ||| (own_pt ((own_b q1) (4 : Int32).toInt.toNat) (4 : Int32))) ||| (own_pt ((own_b q1) (5 : Int32).toInt.toNat) (5 : Int32))) ||| (0 : Int64)) ||| (0 : Int64))), .second, .val (.long (((1 : Int64) <<< ((48 : Int32) &&& 0x3f).toInt64) - (1 : Int64))), .second] [(.long (q1 &&& (((1 : Int64) <<< ((48 : Int32) &&& 0x3f).toInt64) - (1 : Int64)))), (.long ((((((((own_pt ((own_b q1) (0 : Int32).toInt.toNat) (0 : Int32)) ||| (own_pt ((own_b q1) (1 : Int32).toInt.toNat) (1 : Int32))) ||| (own_pt ((own_b q1) (2 : Int32).toInt.toNat) (2 : Int32))) ||| (own_pt ((own_b q1) (3 : Int32).toInt.toNat) (3 : Int32))) ||| (own_pt ((own_b q1) (4 : Int32).toInt.toNat) (4 : Int32))) ||| (own_pt ((own_b q1) (5 : Int32).toInt.toNat) (5 : Int32))) ||| (0 : Int64)) ||| (0 : Int64)))])
    refine own_step (fun t k => XS.lcmp X59.here hx rfl (hb hby at_115) rfl k) ?_
    show own_Fin _ _ _ _ _ _ _ _ (mkF m 116 #[.val (.long q1), .second, .val (.int p2), .val (.int (6 : Int32)), .val (.ref bq51), .val (.long ((((((((own_pt ((own_b q1) (0 : Int32).toInt.toNat) (0 : Int32)) ||| (own_pt ((own_b q1) (1 : Int32).toInt.toNat) (1 : Int32))) ||| (own_pt ((own_b q1) (2 : Int32).toInt.toNat) (2 : Int32))) ||| (own_pt ((own_b q1) (3 : Int32).toInt.toNat) (3 : Int32))) ||| (own_pt ((own_b q1) (4 : Int32).toInt.toNat) (4 : Int32))) ||| (own_pt ((own_b q1) (5 : Int32).toInt.toNat) (5 : Int32))) ||| (0 : Int64)) ||| (0 : Int64))), .second, .val (.long (((1 : Int64) <<< ((48 : Int32) &&& 0x3f).toInt64) - (1 : Int64))), .second] [(.int (lcmpW ((((((((own_pt ((own_b q1) (0 : Int32).toInt.toNat) (0 : Int32)) ||| (own_pt ((own_b q1) (1 : Int32).toInt.toNat) (1 : Int32))) ||| (own_pt ((own_b q1) (2 : Int32).toInt.toNat) (2 : Int32))) ||| (own_pt ((own_b q1) (3 : Int32).toInt.toNat) (3 : Int32))) ||| (own_pt ((own_b q1) (4 : Int32).toInt.toNat) (4 : Int32))) ||| (own_pt ((own_b q1) (5 : Int32).toInt.toNat) (5 : Int32))) ||| (0 : Int64)) ||| (0 : Int64)) (q1 &&& (((1 : Int64) <<< ((48 : Int32) &&& 0x3f).toInt64) - (1 : Int64)))))])
    have hc60 : (((((((((own_pt ((own_b q1) (0 : Int32).toInt.toNat) (0 : Int32)) ||| (own_pt ((own_b q1) (1 : Int32).toInt.toNat) (1 : Int32))) ||| (own_pt ((own_b q1) (2 : Int32).toInt.toNat) (2 : Int32))) ||| (own_pt ((own_b q1) (3 : Int32).toInt.toNat) (3 : Int32))) ||| (own_pt ((own_b q1) (4 : Int32).toInt.toNat) (4 : Int32))) ||| (own_pt ((own_b q1) (5 : Int32).toInt.toNat) (5 : Int32))) ||| (0 : Int64)) ||| (0 : Int64))).toInt = ((q1 &&& (((1 : Int64) <<< ((48 : Int32) &&& 0x3f).toInt64) - (1 : Int64)))).toInt := congrArg Int64.toInt (own_fin6 q1)
    refine own_step (fun t k => XS.ifNo X59.here hx rfl (hb hby at_116) rfl (own_le (x := ((((((((own_pt ((own_b q1) (0 : Int32).toInt.toNat) (0 : Int32)) ||| (own_pt ((own_b q1) (1 : Int32).toInt.toNat) (1 : Int32))) ||| (own_pt ((own_b q1) (2 : Int32).toInt.toNat) (2 : Int32))) ||| (own_pt ((own_b q1) (3 : Int32).toInt.toNat) (3 : Int32))) ||| (own_pt ((own_b q1) (4 : Int32).toInt.toNat) (4 : Int32))) ||| (own_pt ((own_b q1) (5 : Int32).toInt.toNat) (5 : Int32))) ||| (0 : Int64)) ||| (0 : Int64))) (y := (q1 &&& (((1 : Int64) <<< ((48 : Int32) &&& 0x3f).toInt64) - (1 : Int64)))) rfl rfl hc60).2 k) ?_
    show own_Fin _ _ _ _ _ _ _ _ (mkF m 119 #[.val (.long q1), .second, .val (.int p2), .val (.int (6 : Int32)), .val (.ref bq51), .val (.long ((((((((own_pt ((own_b q1) (0 : Int32).toInt.toNat) (0 : Int32)) ||| (own_pt ((own_b q1) (1 : Int32).toInt.toNat) (1 : Int32))) ||| (own_pt ((own_b q1) (2 : Int32).toInt.toNat) (2 : Int32))) ||| (own_pt ((own_b q1) (3 : Int32).toInt.toNat) (3 : Int32))) ||| (own_pt ((own_b q1) (4 : Int32).toInt.toNat) (4 : Int32))) ||| (own_pt ((own_b q1) (5 : Int32).toInt.toNat) (5 : Int32))) ||| (0 : Int64)) ||| (0 : Int64))), .second, .val (.long (((1 : Int64) <<< ((48 : Int32) &&& 0x3f).toInt64) - (1 : Int64))), .second] [])
    refine own_step (fun t k => XS.iconst X59.here hx rfl (hb hby at_119) k) ?_
    show own_Fin _ _ _ _ _ _ _ _ (mkF m 120 #[.val (.long q1), .second, .val (.int p2), .val (.int (6 : Int32)), .val (.ref bq51), .val (.long ((((((((own_pt ((own_b q1) (0 : Int32).toInt.toNat) (0 : Int32)) ||| (own_pt ((own_b q1) (1 : Int32).toInt.toNat) (1 : Int32))) ||| (own_pt ((own_b q1) (2 : Int32).toInt.toNat) (2 : Int32))) ||| (own_pt ((own_b q1) (3 : Int32).toInt.toNat) (3 : Int32))) ||| (own_pt ((own_b q1) (4 : Int32).toInt.toNat) (4 : Int32))) ||| (own_pt ((own_b q1) (5 : Int32).toInt.toNat) (5 : Int32))) ||| (0 : Int64)) ||| (0 : Int64))), .second, .val (.long (((1 : Int64) <<< ((48 : Int32) &&& 0x3f).toInt64) - (1 : Int64))), .second] [(.int (1 : Int32))])
    refine own_step (fun t k => XS.goto X59.here hx rfl (pc0 := 120) (pc' := 124) rfl (hb hby at_120) (by decide) (by decide) k) ?_
    show own_Fin _ _ _ _ _ _ _ _ (mkF m 124 #[.val (.long q1), .second, .val (.int p2), .val (.int (6 : Int32)), .val (.ref bq51), .val (.long ((((((((own_pt ((own_b q1) (0 : Int32).toInt.toNat) (0 : Int32)) ||| (own_pt ((own_b q1) (1 : Int32).toInt.toNat) (1 : Int32))) ||| (own_pt ((own_b q1) (2 : Int32).toInt.toNat) (2 : Int32))) ||| (own_pt ((own_b q1) (3 : Int32).toInt.toNat) (3 : Int32))) ||| (own_pt ((own_b q1) (4 : Int32).toInt.toNat) (4 : Int32))) ||| (own_pt ((own_b q1) (5 : Int32).toInt.toNat) (5 : Int32))) ||| (0 : Int64)) ||| (0 : Int64))), .second, .val (.long (((1 : Int64) <<< ((48 : Int32) &&& 0x3f).toInt64) - (1 : Int64))), .second] [(.int (1 : Int32))])
    refine own_retZ X59 hx hlk Bd.returns (hb hby at_124) (z' := (1 : Int32)) (by decide) (by decide) (by decide) hh59 ?_
    exact ⟨rfl, Nf⟩
  · skip
    show own_Fin _ _ _ _ _ _ _ _ (mkF m 7 #[.val (.long q1), .second, .val (.int p2), .val (.int (7 : Int32)), .unset, .unset, .unset, .unset, .unset] [])
    refine own_step (fun t k => XS.lloadN X0.here hx rfl (hb hby at_7) rfl k) ?_
    show own_Fin _ _ _ _ _ _ _ _ (mkF m 8 #[.val (.long q1), .second, .val (.int p2), .val (.int (7 : Int32)), .unset, .unset, .unset, .unset, .unset] [(.long q1)])
    refine own_step (fun t k => XS.iloadN X0.here hx rfl (hb hby at_8) rfl k) ?_
    show own_Fin _ _ _ _ _ _ _ _ (mkF m 9 #[.val (.long q1), .second, .val (.int p2), .val (.int (7 : Int32)), .unset, .unset, .unset, .unset, .unset] [(.int (7 : Int32)), (.long q1)])
    obtain ⟨_, _, ⟨T61, L61, k61, n61⟩, -, X61, ⟨Lc61, hQ61, l61, y61, z61⟩, st61⟩ := Jvm.LawKit.callS X0 hx (y := (⟨"com/example/kern_tablet/kerntablet/schema/IntegerHandler", "littleEndian", "(JI)[B"⟩ : MethodName)) hown (mvT hZ (hw _ (List.mem_of_getElem? (i := 0) rfl))) (mvT hZ (hw _ (List.mem_of_getElem? (i := 1) rfl))) (mvT hZ (hw _ (List.mem_of_getElem? (i := 2) rfl))) (mvT hZ (hw _ (List.mem_of_getElem? (i := 3) rfl))) (by decide) (backOf (W := 0) (rm17 l Z a0 hw [] q1 h0 n0 Zs) hZ (hw _ (List.mem_of_getElem? (i := 3) rfl)) (hw _ (List.mem_of_getElem? (i := 2) rfl)) (by decide) (by decide)) (g := (mkF m 9 #[.val (.long q1), .second, .val (.int p2), .val (.int (7 : Int32)), .unset, .unset, .unset, .unset, .unset] [(.int (7 : Int32)), (.long q1)])) rfl (by rw [hml]; rfl) (argsL := [(.long q1), (.int (7 : Int32))]) (rest := []) (lenOf own_pd_0 rfl) rfl (by show 2 * 0 + _ ≤ _; exact Nat.le_of_eq rfl) (hb hby at_9) (fun _ _ => ⟨rfl, e0, (by decide : 0 + 1 ≤ _), (by decide : 0 + 7 ≤ _)⟩)
    dsimp only [Pt.U, Pt.locs, Pt.cells, Pt.slots] at X61 l61 y61 z61 st61 hQ61
    rw [l61, y61, z61] at X61
    obtain ⟨bq61, rfl, Nq61, Kq61, gq61, P61⟩ := hQ61
    replace Nf := Fr.app Nf Nq61
    replace Zs := Nat.le_trans Zs Kq61.1
    have V_bq61 := P61
    refine own_step st61 ?_
    show own_Fin _ _ _ _ _ _ _ _ (mkF m 12 #[.val (.long q1), .second, .val (.int p2), .val (.int (7 : Int32)), .unset, .unset, .unset, .unset, .unset] [(.ref bq61)])
    refine own_step (fun t k => XS.astore X61.here hx rfl (hb hby at_12) rfl rfl (l' := #[.val (.long q1), .second, .val (.int p2), .val (.int (7 : Int32)), .val (.ref bq61), .unset, .unset, .unset, .unset]) rfl k) ?_
    show own_Fin _ _ _ _ _ _ _ _ (mkF m 14 #[.val (.long q1), .second, .val (.int p2), .val (.int (7 : Int32)), .val (.ref bq61), .unset, .unset, .unset, .unset] [])
    refine own_step (fun t k => XS.aload X61.here hx rfl (hb hby at_14) rfl rfl k) ?_
    show own_Fin _ _ _ _ _ _ _ _ (mkF m 16 #[.val (.long q1), .second, .val (.int p2), .val (.int (7 : Int32)), .val (.ref bq61), .unset, .unset, .unset, .unset] [(.ref bq61)])
    refine own_step (fun t k => XS.ifnullNo X61.here hx rfl (hb hby at_16) rfl k) ?_
    show own_Fin _ _ _ _ _ _ _ _ (mkF m 19 #[.val (.long q1), .second, .val (.int p2), .val (.int (7 : Int32)), .val (.ref bq61), .unset, .unset, .unset, .unset] [])
    refine own_step (fun t k => XS.aload X61.here hx rfl (hb hby at_19) rfl rfl k) ?_
    show own_Fin _ _ _ _ _ _ _ _ (mkF m 21 #[.val (.long q1), .second, .val (.int p2), .val (.int (7 : Int32)), .val (.ref bq61), .unset, .unset, .unset, .unset] [(.ref bq61)])
    refine own_arrlen X61 hx hZ rfl V_bq61 (z := (7 : Int32)) rfl (hb hby at_21) rfl ?_
    show own_Fin _ _ _ _ _ _ _ _ (mkF m 22 #[.val (.long q1), .second, .val (.int p2), .val (.int (7 : Int32)), .val (.ref bq61), .unset, .unset, .unset, .unset] [(.int (7 : Int32))])
    refine own_step (fun t k => XS.iloadN X61.here hx rfl (hb hby at_22) rfl k) ?_
    show own_Fin _ _ _ _ _ _ _ _ (mkF m 23 #[.val (.long q1), .second, .val (.int p2), .val (.int (7 : Int32)), .val (.ref bq61), .unset, .unset, .unset, .unset] [(.int (7 : Int32)), (.int (7 : Int32))])
    refine own_step (fun t k => XS.icmpYes X61.here hx rfl (pc0 := 23) (pc' := 28) rfl (hb hby at_23) rfl (by decide) (by decide) (by decide) k) ?_
    show own_Fin _ _ _ _ _ _ _ _ (mkF m 28 #[.val (.long q1), .second, .val (.int p2), .val (.int (7 : Int32)), .val (.ref bq61), .unset, .unset, .unset, .unset] [])
    refine own_step (fun t k => XS.aload X61.here hx rfl (hb hby at_28) rfl rfl k) ?_
    show own_Fin _ _ _ _ _ _ _ _ (mkF m 30 #[.val (.long q1), .second, .val (.int p2), .val (.int (7 : Int32)), .val (.ref bq61), .unset, .unset, .unset, .unset] [(.ref bq61)])
    refine own_step (fun t k => XS.iconst X61.here hx rfl (hb hby at_30) k) ?_
    show own_Fin _ _ _ _ _ _ _ _ (mkF m 31 #[.val (.long q1), .second, .val (.int p2), .val (.int (7 : Int32)), .val (.ref bq61), .unset, .unset, .unset, .unset] [(.int (0 : Int32)), (.ref bq61)])
    obtain ⟨_, _, ⟨T62, L62, k62, n62⟩, -, X62, ⟨Lc62, hQ62, l62, y62, z62⟩, st62⟩ := Jvm.LawKit.callS X61 hx (y := (⟨"com/example/kern_tablet/kerntablet/schema/IntegerHandlerLittleEndianPinLaw", "part", "([BI)J"⟩ : MethodName)) hown (mvT hZ (hw _ (List.mem_of_getElem? (i := 5) rfl))) (mvT hZ (hw _ (List.mem_of_getElem? (i := 6) rfl))) (mvT hZ (hw _ (List.mem_of_getElem? (i := 7) rfl))) (mvT hZ (hw _ (List.mem_of_getElem? (i := 8) rfl))) (by decide) (backOf (W := 0) (rm20 l Z a0 hw [] bq61 (0 : Int32) _ _ (7 : Int32) T61.heap n0 Zs V_bq61 rfl (by decide) (by decide)) hZ (hw _ (List.mem_of_getElem? (i := 8) rfl)) (hw _ (List.mem_of_getElem? (i := 7) rfl)) (by decide) (by decide)) (g := (mkF m 31 #[.val (.long q1), .second, .val (.int p2), .val (.int (7 : Int32)), .val (.ref bq61), .unset, .unset, .unset, .unset] [(.int (0 : Int32)), (.ref bq61)])) rfl (by rw [hml]; rfl) (argsL := [(.ref bq61), (.int (0 : Int32))]) (rest := []) (lenOf own_pd_1 rfl) rfl (by show 2 * 0 + _ ≤ _; exact Nat.le_of_eq rfl) (hb hby at_31) (fun _ _ => ⟨rfl, rfl, (by decide : 1 + 0 ≤ _), (by decide : 7 + 0 ≤ _)⟩)
    dsimp only [Pt.U, Pt.locs, Pt.cells, Pt.slots] at X62 l62 y62 z62 st62 hQ62
    rw [l62, y62, z62] at X62
    obtain ⟨rfl, Nq62, hh62⟩ := hQ62
    replace Nf := Fr.app Nf Nq62
    refine own_step st62 ?_
    show own_Fin _ _ _ _ _ _ _ _ (mkF m 34 #[.val (.long q1), .second, .val (.int p2), .val (.int (7 : Int32)), .val (.ref bq61), .unset, .unset, .unset, .unset] [(.long (own_pt ((own_b q1) (0 : Int32).toInt.toNat) (0 : Int32)))])
    refine own_step (fun t k => XS.aload X62.here hx rfl (hb hby at_34) rfl rfl k) ?_
    show own_Fin _ _ _ _ _ _ _ _ (mkF m 36 #[.val (.long q1), .second, .val (.int p2), .val (.int (7 : Int32)), .val (.ref bq61), .unset, .unset, .unset, .unset] [(.ref bq61), (.long (own_pt ((own_b q1) (0 : Int32).toInt.toNat) (0 : Int32)))])
    refine own_step (fun t k => XS.iconst X62.here hx rfl (hb hby at_36) k) ?_
    show own_Fin _ _ _ _ _ _ _ _ (mkF m 37 #[.val (.long q1), .second, .val (.int p2), .val (.int (7 : Int32)), .val (.ref bq61), .unset, .unset, .unset, .unset] [(.int (1 : Int32)), (.ref bq61), (.long (own_pt ((own_b q1) (0 : Int32).toInt.toNat) (0 : Int32)))])
    obtain ⟨_, _, ⟨T63, L63, k63, n63⟩, -, X63, ⟨Lc63, hQ63, l63, y63, z63⟩, st63⟩ := Jvm.LawKit.callS X62 hx (y := (⟨"com/example/kern_tablet/kerntablet/schema/IntegerHandlerLittleEndianPinLaw", "part", "([BI)J"⟩ : MethodName)) hown (mvT hZ (hw _ (List.mem_of_getElem? (i := 5) rfl))) (mvT hZ (hw _ (List.mem_of_getElem? (i := 6) rfl))) (mvT hZ (hw _ (List.mem_of_getElem? (i := 7) rfl))) (mvT hZ (hw _ (List.mem_of_getElem? (i := 8) rfl))) (by decide) (backOf (W := 2) (rm20 l Z a0 hw [] bq61 (1 : Int32) _ _ (7 : Int32) T61.heap n0 Zs V_bq61 rfl (by decide) (by decide)) hZ (hw _ (List.mem_of_getElem? (i := 8) rfl)) (hw _ (List.mem_of_getElem? (i := 7) rfl)) (by decide) (by decide)) (g := (mkF m 37 #[.val (.long q1), .second, .val (.int p2), .val (.int (7 : Int32)), .val (.ref bq61), .unset, .unset, .unset, .unset] [(.int (1 : Int32)), (.ref bq61), (.long (own_pt ((own_b q1) (0 : Int32).toInt.toNat) (0 : Int32)))])) rfl (by rw [hml]; rfl) (argsL := [(.ref bq61), (.int (1 : Int32))]) (rest := [(.long (own_pt ((own_b q1) (0 : Int32).toInt.toNat) (0 : Int32)))]) (lenOf own_pd_1 rfl) rfl (by show 2 * 0 + _ ≤ _; exact Nat.le_of_eq rfl) (hb hby at_37) (fun _ _ => ⟨rfl, hh62, (by decide : 1 + 0 ≤ _), (by decide : 7 + 0 ≤ _)⟩)
    dsimp only [Pt.U, Pt.locs, Pt.cells, Pt.slots] at X63 l63 y63 z63 st63 hQ63
    rw [l63, y63, z63] at X63
    obtain ⟨rfl, Nq63, hh63⟩ := hQ63
    replace Nf := Fr.app Nf Nq63
    refine own_step st63 ?_
    show own_Fin _ _ _ _ _ _ _ _ (mkF m 40 #[.val (.long q1), .second, .val (.int p2), .val (.int (7 : Int32)), .val (.ref bq61), .unset, .unset, .unset, .unset] [(.long (own_pt ((own_b q1) (1 : Int32).toInt.toNat) (1 : Int32))), (.long (own_pt ((own_b q1) (0 : Int32).toInt.toNat) (0 : Int32)))])
    refine own_step (fun t k => XS.lor X63.here hx rfl (hb hby at_40) rfl k) ?_
    show own_Fin _ _ _ _ _ _ _ _ (mkF m 41 #[.val (.long q1), .second, .val (.int p2), .val (.int (7 : Int32)), .val (.ref bq61), .unset, .unset, .unset, .unset] [(.long ((own_pt ((own_b q1) (0 : Int32).toInt.toNat) (0 : Int32)) ||| (own_pt ((own_b q1) (1 : Int32).toInt.toNat) (1 : Int32))))])
    refine own_step (fun t k => XS.aload X63.here hx rfl (hb hby at_41) rfl rfl k) ?_
    show own_Fin _ _ _ _ _ _ _ _ (mkF m 43 #[.val (.long q1), .second, .val (.int p2), .val (.int (7 : Int32)), .val (.ref bq61), .unset, .unset, .unset, .unset] [(.ref bq61), (.long ((own_pt ((own_b q1) (0 : Int32).toInt.toNat) (0 : Int32)) ||| (own_pt ((own_b q1) (1 : Int32).toInt.toNat) (1 : Int32))))])
    refine own_step (fun t k => XS.iconst X63.here hx rfl (hb hby at_43) k) ?_
    show own_Fin _ _ _ _ _ _ _ _ (mkF m 44 #[.val (.long q1), .second, .val (.int p2), .val (.int (7 : Int32)), .val (.ref bq61), .unset, .unset, .unset, .unset] [(.int (2 : Int32)), (.ref bq61), (.long ((own_pt ((own_b q1) (0 : Int32).toInt.toNat) (0 : Int32)) ||| (own_pt ((own_b q1) (1 : Int32).toInt.toNat) (1 : Int32))))])
    obtain ⟨_, _, ⟨T64, L64, k64, n64⟩, -, X64, ⟨Lc64, hQ64, l64, y64, z64⟩, st64⟩ := Jvm.LawKit.callS X63 hx (y := (⟨"com/example/kern_tablet/kerntablet/schema/IntegerHandlerLittleEndianPinLaw", "part", "([BI)J"⟩ : MethodName)) hown (mvT hZ (hw _ (List.mem_of_getElem? (i := 5) rfl))) (mvT hZ (hw _ (List.mem_of_getElem? (i := 6) rfl))) (mvT hZ (hw _ (List.mem_of_getElem? (i := 7) rfl))) (mvT hZ (hw _ (List.mem_of_getElem? (i := 8) rfl))) (by decide) (backOf (W := 2) (rm20 l Z a0 hw [] bq61 (2 : Int32) _ _ (7 : Int32) T61.heap n0 Zs V_bq61 rfl (by decide) (by decide)) hZ (hw _ (List.mem_of_getElem? (i := 8) rfl)) (hw _ (List.mem_of_getElem? (i := 7) rfl)) (by decide) (by decide)) (g := (mkF m 44 #[.val (.long q1), .second, .val (.int p2), .val (.int (7 : Int32)), .val (.ref bq61), .unset, .unset, .unset, .unset] [(.int (2 : Int32)), (.ref bq61), (.long ((own_pt ((own_b q1) (0 : Int32).toInt.toNat) (0 : Int32)) ||| (own_pt ((own_b q1) (1 : Int32).toInt.toNat) (1 : Int32))))])) rfl (by rw [hml]; rfl) (argsL := [(.ref bq61), (.int (2 : Int32))]) (rest := [(.long ((own_pt ((own_b q1) (0 : Int32).toInt.toNat) (0 : Int32)) ||| (own_pt ((own_b q1) (1 : Int32).toInt.toNat) (1 : Int32))))]) (lenOf own_pd_1 rfl) rfl (by show 2 * 0 + _ ≤ _; exact Nat.le_of_eq rfl) (hb hby at_44) (fun _ _ => ⟨rfl, hh63, (by decide : 1 + 0 ≤ _), (by decide : 7 + 0 ≤ _)⟩)
    dsimp only [Pt.U, Pt.locs, Pt.cells, Pt.slots] at X64 l64 y64 z64 st64 hQ64
    rw [l64, y64, z64] at X64
    obtain ⟨rfl, Nq64, hh64⟩ := hQ64
    replace Nf := Fr.app Nf Nq64
    refine own_step st64 ?_
    show own_Fin _ _ _ _ _ _ _ _ (mkF m 47 #[.val (.long q1), .second, .val (.int p2), .val (.int (7 : Int32)), .val (.ref bq61), .unset, .unset, .unset, .unset] [(.long (own_pt ((own_b q1) (2 : Int32).toInt.toNat) (2 : Int32))), (.long ((own_pt ((own_b q1) (0 : Int32).toInt.toNat) (0 : Int32)) ||| (own_pt ((own_b q1) (1 : Int32).toInt.toNat) (1 : Int32))))])
    refine own_step (fun t k => XS.lor X64.here hx rfl (hb hby at_47) rfl k) ?_
    show own_Fin _ _ _ _ _ _ _ _ (mkF m 48 #[.val (.long q1), .second, .val (.int p2), .val (.int (7 : Int32)), .val (.ref bq61), .unset, .unset, .unset, .unset] [(.long (((own_pt ((own_b q1) (0 : Int32).toInt.toNat) (0 : Int32)) ||| (own_pt ((own_b q1) (1 : Int32).toInt.toNat) (1 : Int32))) ||| (own_pt ((own_b q1) (2 : Int32).toInt.toNat) (2 : Int32))))])
    refine own_step (fun t k => XS.aload X64.here hx rfl (hb hby at_48) rfl rfl k) ?_
    show own_Fin _ _ _ _ _ _ _ _ (mkF m 50 #[.val (.long q1), .second, .val (.int p2), .val (.int (7 : Int32)), .val (.ref bq61), .unset, .unset, .unset, .unset] [(.ref bq61), (.long (((own_pt ((own_b q1) (0 : Int32).toInt.toNat) (0 : Int32)) ||| (own_pt ((own_b q1) (1 : Int32).toInt.toNat) (1 : Int32))) ||| (own_pt ((own_b q1) (2 : Int32).toInt.toNat) (2 : Int32))))])
    refine own_step (fun t k => XS.iconst X64.here hx rfl (hb hby at_50) k) ?_
    show own_Fin _ _ _ _ _ _ _ _ (mkF m 51 #[.val (.long q1), .second, .val (.int p2), .val (.int (7 : Int32)), .val (.ref bq61), .unset, .unset, .unset, .unset] [(.int (3 : Int32)), (.ref bq61), (.long (((own_pt ((own_b q1) (0 : Int32).toInt.toNat) (0 : Int32)) ||| (own_pt ((own_b q1) (1 : Int32).toInt.toNat) (1 : Int32))) ||| (own_pt ((own_b q1) (2 : Int32).toInt.toNat) (2 : Int32))))])
    obtain ⟨_, _, ⟨T65, L65, k65, n65⟩, -, X65, ⟨Lc65, hQ65, l65, y65, z65⟩, st65⟩ := Jvm.LawKit.callS X64 hx (y := (⟨"com/example/kern_tablet/kerntablet/schema/IntegerHandlerLittleEndianPinLaw", "part", "([BI)J"⟩ : MethodName)) hown (mvT hZ (hw _ (List.mem_of_getElem? (i := 5) rfl))) (mvT hZ (hw _ (List.mem_of_getElem? (i := 6) rfl))) (mvT hZ (hw _ (List.mem_of_getElem? (i := 7) rfl))) (mvT hZ (hw _ (List.mem_of_getElem? (i := 8) rfl))) (by decide) (backOf (W := 2) (rm20 l Z a0 hw [] bq61 (3 : Int32) _ _ (7 : Int32) T61.heap n0 Zs V_bq61 rfl (by decide) (by decide)) hZ (hw _ (List.mem_of_getElem? (i := 8) rfl)) (hw _ (List.mem_of_getElem? (i := 7) rfl)) (by decide) (by decide)) (g := (mkF m 51 #[.val (.long q1), .second, .val (.int p2), .val (.int (7 : Int32)), .val (.ref bq61), .unset, .unset, .unset, .unset] [(.int (3 : Int32)), (.ref bq61), (.long (((own_pt ((own_b q1) (0 : Int32).toInt.toNat) (0 : Int32)) ||| (own_pt ((own_b q1) (1 : Int32).toInt.toNat) (1 : Int32))) ||| (own_pt ((own_b q1) (2 : Int32).toInt.toNat) (2 : Int32))))])) rfl (by rw [hml]; rfl) (argsL := [(.ref bq61), (.int (3 : Int32))]) (rest := [(.long (((own_pt ((own_b q1) (0 : Int32).toInt.toNat) (0 : Int32)) ||| (own_pt ((own_b q1) (1 : Int32).toInt.toNat) (1 : Int32))) ||| (own_pt ((own_b q1) (2 : Int32).toInt.toNat) (2 : Int32))))]) (lenOf own_pd_1 rfl) rfl (by show 2 * 0 + _ ≤ _; exact Nat.le_of_eq rfl) (hb hby at_51) (fun _ _ => ⟨rfl, hh64, (by decide : 1 + 0 ≤ _), (by decide : 7 + 0 ≤ _)⟩)
    dsimp only [Pt.U, Pt.locs, Pt.cells, Pt.slots] at X65 l65 y65 z65 st65 hQ65
    rw [l65, y65, z65] at X65
    obtain ⟨rfl, Nq65, hh65⟩ := hQ65
    replace Nf := Fr.app Nf Nq65
    refine own_step st65 ?_
    show own_Fin _ _ _ _ _ _ _ _ (mkF m 54 #[.val (.long q1), .second, .val (.int p2), .val (.int (7 : Int32)), .val (.ref bq61), .unset, .unset, .unset, .unset] [(.long (own_pt ((own_b q1) (3 : Int32).toInt.toNat) (3 : Int32))), (.long (((own_pt ((own_b q1) (0 : Int32).toInt.toNat) (0 : Int32)) ||| (own_pt ((own_b q1) (1 : Int32).toInt.toNat) (1 : Int32))) ||| (own_pt ((own_b q1) (2 : Int32).toInt.toNat) (2 : Int32))))])
    refine own_step (fun t k => XS.lor X65.here hx rfl (hb hby at_54) rfl k) ?_
    show own_Fin _ _ _ _ _ _ _ _ (mkF m 55 #[.val (.long q1), .second, .val (.int p2), .val (.int (7 : Int32)), .val (.ref bq61), .unset, .unset, .unset, .unset] [(.long ((((own_pt ((own_b q1) (0 : Int32).toInt.toNat) (0 : Int32)) ||| (own_pt ((own_b q1) (1 : Int32).toInt.toNat) (1 : Int32))) ||| (own_pt ((own_b q1) (2 : Int32).toInt.toNat) (2 : Int32))) ||| (own_pt ((own_b q1) (3 : Int32).toInt.toNat) (3 : Int32))))])
    refine own_step (fun t k => XS.aload X65.here hx rfl (hb hby at_55) rfl rfl k) ?_
    show own_Fin _ _ _ _ _ _ _ _ (mkF m 57 #[.val (.long q1), .second, .val (.int p2), .val (.int (7 : Int32)), .val (.ref bq61), .unset, .unset, .unset, .unset] [(.ref bq61), (.long ((((own_pt ((own_b q1) (0 : Int32).toInt.toNat) (0 : Int32)) ||| (own_pt ((own_b q1) (1 : Int32).toInt.toNat) (1 : Int32))) ||| (own_pt ((own_b q1) (2 : Int32).toInt.toNat) (2 : Int32))) ||| (own_pt ((own_b q1) (3 : Int32).toInt.toNat) (3 : Int32))))])
    refine own_step (fun t k => XS.iconst X65.here hx rfl (hb hby at_57) k) ?_
    show own_Fin _ _ _ _ _ _ _ _ (mkF m 58 #[.val (.long q1), .second, .val (.int p2), .val (.int (7 : Int32)), .val (.ref bq61), .unset, .unset, .unset, .unset] [(.int (4 : Int32)), (.ref bq61), (.long ((((own_pt ((own_b q1) (0 : Int32).toInt.toNat) (0 : Int32)) ||| (own_pt ((own_b q1) (1 : Int32).toInt.toNat) (1 : Int32))) ||| (own_pt ((own_b q1) (2 : Int32).toInt.toNat) (2 : Int32))) ||| (own_pt ((own_b q1) (3 : Int32).toInt.toNat) (3 : Int32))))])
    obtain ⟨_, _, ⟨T66, L66, k66, n66⟩, -, X66, ⟨Lc66, hQ66, l66, y66, z66⟩, st66⟩ := Jvm.LawKit.callS X65 hx (y := (⟨"com/example/kern_tablet/kerntablet/schema/IntegerHandlerLittleEndianPinLaw", "part", "([BI)J"⟩ : MethodName)) hown (mvT hZ (hw _ (List.mem_of_getElem? (i := 5) rfl))) (mvT hZ (hw _ (List.mem_of_getElem? (i := 6) rfl))) (mvT hZ (hw _ (List.mem_of_getElem? (i := 7) rfl))) (mvT hZ (hw _ (List.mem_of_getElem? (i := 8) rfl))) (by decide) (backOf (W := 2) (rm20 l Z a0 hw [] bq61 (4 : Int32) _ _ (7 : Int32) T61.heap n0 Zs V_bq61 rfl (by decide) (by decide)) hZ (hw _ (List.mem_of_getElem? (i := 8) rfl)) (hw _ (List.mem_of_getElem? (i := 7) rfl)) (by decide) (by decide)) (g := (mkF m 58 #[.val (.long q1), .second, .val (.int p2), .val (.int (7 : Int32)), .val (.ref bq61), .unset, .unset, .unset, .unset] [(.int (4 : Int32)), (.ref bq61), (.long ((((own_pt ((own_b q1) (0 : Int32).toInt.toNat) (0 : Int32)) ||| (own_pt ((own_b q1) (1 : Int32).toInt.toNat) (1 : Int32))) ||| (own_pt ((own_b q1) (2 : Int32).toInt.toNat) (2 : Int32))) ||| (own_pt ((own_b q1) (3 : Int32).toInt.toNat) (3 : Int32))))])) rfl (by rw [hml]; rfl) (argsL := [(.ref bq61), (.int (4 : Int32))]) (rest := [(.long ((((own_pt ((own_b q1) (0 : Int32).toInt.toNat) (0 : Int32)) ||| (own_pt ((own_b q1) (1 : Int32).toInt.toNat) (1 : Int32))) ||| (own_pt ((own_b q1) (2 : Int32).toInt.toNat) (2 : Int32))) ||| (own_pt ((own_b q1) (3 : Int32).toInt.toNat) (3 : Int32))))]) (lenOf own_pd_1 rfl) rfl (by show 2 * 0 + _ ≤ _; exact Nat.le_of_eq rfl) (hb hby at_58) (fun _ _ => ⟨rfl, hh65, (by decide : 1 + 0 ≤ _), (by decide : 7 + 0 ≤ _)⟩)
    dsimp only [Pt.U, Pt.locs, Pt.cells, Pt.slots] at X66 l66 y66 z66 st66 hQ66
    rw [l66, y66, z66] at X66
    obtain ⟨rfl, Nq66, hh66⟩ := hQ66
    replace Nf := Fr.app Nf Nq66
    refine own_step st66 ?_
    show own_Fin _ _ _ _ _ _ _ _ (mkF m 61 #[.val (.long q1), .second, .val (.int p2), .val (.int (7 : Int32)), .val (.ref bq61), .unset, .unset, .unset, .unset] [(.long (own_pt ((own_b q1) (4 : Int32).toInt.toNat) (4 : Int32))), (.long ((((own_pt ((own_b q1) (0 : Int32).toInt.toNat) (0 : Int32)) ||| (own_pt ((own_b q1) (1 : Int32).toInt.toNat) (1 : Int32))) ||| (own_pt ((own_b q1) (2 : Int32).toInt.toNat) (2 : Int32))) ||| (own_pt ((own_b q1) (3 : Int32).toInt.toNat) (3 : Int32))))])
    refine own_step (fun t k => XS.lor X66.here hx rfl (hb hby at_61) rfl k) ?_
    show own_Fin _ _ _ _ _ _ _ _ (mkF m 62 #[.val (.long q1), .second, .val (.int p2), .val (.int (7 : Int32)), .val (.ref bq61), .unset, .unset, .unset, .unset] [(.long (((((own_pt ((own_b q1) (0 : Int32).toInt.toNat) (0 : Int32)) ||| (own_pt ((own_b q1) (1 : Int32).toInt.toNat) (1 : Int32))) ||| (own_pt ((own_b q1) (2 : Int32).toInt.toNat) (2 : Int32))) ||| (own_pt ((own_b q1) (3 : Int32).toInt.toNat) (3 : Int32))) ||| (own_pt ((own_b q1) (4 : Int32).toInt.toNat) (4 : Int32))))])
    refine own_step (fun t k => XS.aload X66.here hx rfl (hb hby at_62) rfl rfl k) ?_
    show own_Fin _ _ _ _ _ _ _ _ (mkF m 64 #[.val (.long q1), .second, .val (.int p2), .val (.int (7 : Int32)), .val (.ref bq61), .unset, .unset, .unset, .unset] [(.ref bq61), (.long (((((own_pt ((own_b q1) (0 : Int32).toInt.toNat) (0 : Int32)) ||| (own_pt ((own_b q1) (1 : Int32).toInt.toNat) (1 : Int32))) ||| (own_pt ((own_b q1) (2 : Int32).toInt.toNat) (2 : Int32))) ||| (own_pt ((own_b q1) (3 : Int32).toInt.toNat) (3 : Int32))) ||| (own_pt ((own_b q1) (4 : Int32).toInt.toNat) (4 : Int32))))])
    refine own_step (fun t k => XS.iconst X66.here hx rfl (hb hby at_64) k) ?_
    show own_Fin _ _ _ _ _ _ _ _ (mkF m 65 #[.val (.long q1), .second, .val (.int p2), .val (.int (7 : Int32)), .val (.ref bq61), .unset, .unset, .unset, .unset] [(.int (5 : Int32)), (.ref bq61), (.long (((((own_pt ((own_b q1) (0 : Int32).toInt.toNat) (0 : Int32)) ||| (own_pt ((own_b q1) (1 : Int32).toInt.toNat) (1 : Int32))) ||| (own_pt ((own_b q1) (2 : Int32).toInt.toNat) (2 : Int32))) ||| (own_pt ((own_b q1) (3 : Int32).toInt.toNat) (3 : Int32))) ||| (own_pt ((own_b q1) (4 : Int32).toInt.toNat) (4 : Int32))))])
    obtain ⟨_, _, ⟨T67, L67, k67, n67⟩, -, X67, ⟨Lc67, hQ67, l67, y67, z67⟩, st67⟩ := Jvm.LawKit.callS X66 hx (y := (⟨"com/example/kern_tablet/kerntablet/schema/IntegerHandlerLittleEndianPinLaw", "part", "([BI)J"⟩ : MethodName)) hown (mvT hZ (hw _ (List.mem_of_getElem? (i := 5) rfl))) (mvT hZ (hw _ (List.mem_of_getElem? (i := 6) rfl))) (mvT hZ (hw _ (List.mem_of_getElem? (i := 7) rfl))) (mvT hZ (hw _ (List.mem_of_getElem? (i := 8) rfl))) (by decide) (backOf (W := 2) (rm20 l Z a0 hw [] bq61 (5 : Int32) _ _ (7 : Int32) T61.heap n0 Zs V_bq61 rfl (by decide) (by decide)) hZ (hw _ (List.mem_of_getElem? (i := 8) rfl)) (hw _ (List.mem_of_getElem? (i := 7) rfl)) (by decide) (by decide)) (g := (mkF m 65 #[.val (.long q1), .second, .val (.int p2), .val (.int (7 : Int32)), .val (.ref bq61), .unset, .unset, .unset, .unset] [(.int (5 : Int32)), (.ref bq61), (.long (((((own_pt ((own_b q1) (0 : Int32).toInt.toNat) (0 : Int32)) ||| (own_pt ((own_b q1) (1 : Int32).toInt.toNat) (1 : Int32))) ||| (own_pt ((own_b q1) (2 : Int32).toInt.toNat) (2 : Int32))) ||| (own_pt ((own_b q1) (3 : Int32).toInt.toNat) (3 : Int32))) ||| (own_pt ((own_b q1) (4 : Int32).toInt.toNat) (4 : Int32))))])) rfl (by rw [hml]; rfl) (argsL := [(.ref bq61), (.int (5 : Int32))]) (rest := [(.long (((((own_pt ((own_b q1) (0 : Int32).toInt.toNat) (0 : Int32)) ||| (own_pt ((own_b q1) (1 : Int32).toInt.toNat) (1 : Int32))) ||| (own_pt ((own_b q1) (2 : Int32).toInt.toNat) (2 : Int32))) ||| (own_pt ((own_b q1) (3 : Int32).toInt.toNat) (3 : Int32))) ||| (own_pt ((own_b q1) (4 : Int32).toInt.toNat) (4 : Int32))))]) (lenOf own_pd_1 rfl) rfl (by show 2 * 0 + _ ≤ _; exact Nat.le_of_eq rfl) (hb hby at_65) (fun _ _ => ⟨rfl, hh66, (by decide : 1 + 0 ≤ _), (by decide : 7 + 0 ≤ _)⟩)
    dsimp only [Pt.U, Pt.locs, Pt.cells, Pt.slots] at X67 l67 y67 z67 st67 hQ67
    rw [l67, y67, z67] at X67
    obtain ⟨rfl, Nq67, hh67⟩ := hQ67
    replace Nf := Fr.app Nf Nq67
    refine own_step st67 ?_
    show own_Fin _ _ _ _ _ _ _ _ (mkF m 68 #[.val (.long q1), .second, .val (.int p2), .val (.int (7 : Int32)), .val (.ref bq61), .unset, .unset, .unset, .unset] [(.long (own_pt ((own_b q1) (5 : Int32).toInt.toNat) (5 : Int32))), (.long (((((own_pt ((own_b q1) (0 : Int32).toInt.toNat) (0 : Int32)) ||| (own_pt ((own_b q1) (1 : Int32).toInt.toNat) (1 : Int32))) ||| (own_pt ((own_b q1) (2 : Int32).toInt.toNat) (2 : Int32))) ||| (own_pt ((own_b q1) (3 : Int32).toInt.toNat) (3 : Int32))) ||| (own_pt ((own_b q1) (4 : Int32).toInt.toNat) (4 : Int32))))])
    refine own_step (fun t k => XS.lor X67.here hx rfl (hb hby at_68) rfl k) ?_
    show own_Fin _ _ _ _ _ _ _ _ (mkF m 69 #[.val (.long q1), .second, .val (.int p2), .val (.int (7 : Int32)), .val (.ref bq61), .unset, .unset, .unset, .unset] [(.long ((((((own_pt ((own_b q1) (0 : Int32).toInt.toNat) (0 : Int32)) ||| (own_pt ((own_b q1) (1 : Int32).toInt.toNat) (1 : Int32))) ||| (own_pt ((own_b q1) (2 : Int32).toInt.toNat) (2 : Int32))) ||| (own_pt ((own_b q1) (3 : Int32).toInt.toNat) (3 : Int32))) ||| (own_pt ((own_b q1) (4 : Int32).toInt.toNat) (4 : Int32))) ||| (own_pt ((own_b q1) (5 : Int32).toInt.toNat) (5 : Int32))))])
    refine own_step (fun t k => XS.aload X67.here hx rfl (hb hby at_69) rfl rfl k) ?_
    show own_Fin _ _ _ _ _ _ _ _ (mkF m 71 #[.val (.long q1), .second, .val (.int p2), .val (.int (7 : Int32)), .val (.ref bq61), .unset, .unset, .unset, .unset] [(.ref bq61), (.long ((((((own_pt ((own_b q1) (0 : Int32).toInt.toNat) (0 : Int32)) ||| (own_pt ((own_b q1) (1 : Int32).toInt.toNat) (1 : Int32))) ||| (own_pt ((own_b q1) (2 : Int32).toInt.toNat) (2 : Int32))) ||| (own_pt ((own_b q1) (3 : Int32).toInt.toNat) (3 : Int32))) ||| (own_pt ((own_b q1) (4 : Int32).toInt.toNat) (4 : Int32))) ||| (own_pt ((own_b q1) (5 : Int32).toInt.toNat) (5 : Int32))))])
    refine own_step (fun t k => XS.bipush X67.here hx rfl (hb hby at_71) k) ?_
    show own_Fin _ _ _ _ _ _ _ _ (mkF m 73 #[.val (.long q1), .second, .val (.int p2), .val (.int (7 : Int32)), .val (.ref bq61), .unset, .unset, .unset, .unset] [(.int (6 : Int32)), (.ref bq61), (.long ((((((own_pt ((own_b q1) (0 : Int32).toInt.toNat) (0 : Int32)) ||| (own_pt ((own_b q1) (1 : Int32).toInt.toNat) (1 : Int32))) ||| (own_pt ((own_b q1) (2 : Int32).toInt.toNat) (2 : Int32))) ||| (own_pt ((own_b q1) (3 : Int32).toInt.toNat) (3 : Int32))) ||| (own_pt ((own_b q1) (4 : Int32).toInt.toNat) (4 : Int32))) ||| (own_pt ((own_b q1) (5 : Int32).toInt.toNat) (5 : Int32))))])
    obtain ⟨_, _, ⟨T68, L68, k68, n68⟩, -, X68, ⟨Lc68, hQ68, l68, y68, z68⟩, st68⟩ := Jvm.LawKit.callS X67 hx (y := (⟨"com/example/kern_tablet/kerntablet/schema/IntegerHandlerLittleEndianPinLaw", "part", "([BI)J"⟩ : MethodName)) hown (mvT hZ (hw _ (List.mem_of_getElem? (i := 5) rfl))) (mvT hZ (hw _ (List.mem_of_getElem? (i := 6) rfl))) (mvT hZ (hw _ (List.mem_of_getElem? (i := 7) rfl))) (mvT hZ (hw _ (List.mem_of_getElem? (i := 8) rfl))) (by decide) (backOf (W := 2) (rm20 l Z a0 hw [] bq61 (6 : Int32) _ _ (7 : Int32) T61.heap n0 Zs V_bq61 rfl (by decide) (by decide)) hZ (hw _ (List.mem_of_getElem? (i := 8) rfl)) (hw _ (List.mem_of_getElem? (i := 7) rfl)) (by decide) (by decide)) (g := (mkF m 73 #[.val (.long q1), .second, .val (.int p2), .val (.int (7 : Int32)), .val (.ref bq61), .unset, .unset, .unset, .unset] [(.int (6 : Int32)), (.ref bq61), (.long ((((((own_pt ((own_b q1) (0 : Int32).toInt.toNat) (0 : Int32)) ||| (own_pt ((own_b q1) (1 : Int32).toInt.toNat) (1 : Int32))) ||| (own_pt ((own_b q1) (2 : Int32).toInt.toNat) (2 : Int32))) ||| (own_pt ((own_b q1) (3 : Int32).toInt.toNat) (3 : Int32))) ||| (own_pt ((own_b q1) (4 : Int32).toInt.toNat) (4 : Int32))) ||| (own_pt ((own_b q1) (5 : Int32).toInt.toNat) (5 : Int32))))])) rfl (by rw [hml]; rfl) (argsL := [(.ref bq61), (.int (6 : Int32))]) (rest := [(.long ((((((own_pt ((own_b q1) (0 : Int32).toInt.toNat) (0 : Int32)) ||| (own_pt ((own_b q1) (1 : Int32).toInt.toNat) (1 : Int32))) ||| (own_pt ((own_b q1) (2 : Int32).toInt.toNat) (2 : Int32))) ||| (own_pt ((own_b q1) (3 : Int32).toInt.toNat) (3 : Int32))) ||| (own_pt ((own_b q1) (4 : Int32).toInt.toNat) (4 : Int32))) ||| (own_pt ((own_b q1) (5 : Int32).toInt.toNat) (5 : Int32))))]) (lenOf own_pd_1 rfl) rfl (by show 2 * 0 + _ ≤ _; exact Nat.le_of_eq rfl) (hb hby at_73) (fun _ _ => ⟨rfl, hh67, (by decide : 1 + 0 ≤ _), (by decide : 7 + 0 ≤ _)⟩)
    dsimp only [Pt.U, Pt.locs, Pt.cells, Pt.slots] at X68 l68 y68 z68 st68 hQ68
    rw [l68, y68, z68] at X68
    obtain ⟨rfl, Nq68, hh68⟩ := hQ68
    replace Nf := Fr.app Nf Nq68
    refine own_step st68 ?_
    show own_Fin _ _ _ _ _ _ _ _ (mkF m 76 #[.val (.long q1), .second, .val (.int p2), .val (.int (7 : Int32)), .val (.ref bq61), .unset, .unset, .unset, .unset] [(.long (own_pt ((own_b q1) (6 : Int32).toInt.toNat) (6 : Int32))), (.long ((((((own_pt ((own_b q1) (0 : Int32).toInt.toNat) (0 : Int32)) ||| (own_pt ((own_b q1) (1 : Int32).toInt.toNat) (1 : Int32))) ||| (own_pt ((own_b q1) (2 : Int32).toInt.toNat) (2 : Int32))) ||| (own_pt ((own_b q1) (3 : Int32).toInt.toNat) (3 : Int32))) ||| (own_pt ((own_b q1) (4 : Int32).toInt.toNat) (4 : Int32))) ||| (own_pt ((own_b q1) (5 : Int32).toInt.toNat) (5 : Int32))))])
    refine own_step (fun t k => XS.lor X68.here hx rfl (hb hby at_76) rfl k) ?_
    show own_Fin _ _ _ _ _ _ _ _ (mkF m 77 #[.val (.long q1), .second, .val (.int p2), .val (.int (7 : Int32)), .val (.ref bq61), .unset, .unset, .unset, .unset] [(.long (((((((own_pt ((own_b q1) (0 : Int32).toInt.toNat) (0 : Int32)) ||| (own_pt ((own_b q1) (1 : Int32).toInt.toNat) (1 : Int32))) ||| (own_pt ((own_b q1) (2 : Int32).toInt.toNat) (2 : Int32))) ||| (own_pt ((own_b q1) (3 : Int32).toInt.toNat) (3 : Int32))) ||| (own_pt ((own_b q1) (4 : Int32).toInt.toNat) (4 : Int32))) ||| (own_pt ((own_b q1) (5 : Int32).toInt.toNat) (5 : Int32))) ||| (own_pt ((own_b q1) (6 : Int32).toInt.toNat) (6 : Int32))))])
    refine own_step (fun t k => XS.aload X68.here hx rfl (hb hby at_77) rfl rfl k) ?_
    show own_Fin _ _ _ _ _ _ _ _ (mkF m 79 #[.val (.long q1), .second, .val (.int p2), .val (.int (7 : Int32)), .val (.ref bq61), .unset, .unset, .unset, .unset] [(.ref bq61), (.long (((((((own_pt ((own_b q1) (0 : Int32).toInt.toNat) (0 : Int32)) ||| (own_pt ((own_b q1) (1 : Int32).toInt.toNat) (1 : Int32))) ||| (own_pt ((own_b q1) (2 : Int32).toInt.toNat) (2 : Int32))) ||| (own_pt ((own_b q1) (3 : Int32).toInt.toNat) (3 : Int32))) ||| (own_pt ((own_b q1) (4 : Int32).toInt.toNat) (4 : Int32))) ||| (own_pt ((own_b q1) (5 : Int32).toInt.toNat) (5 : Int32))) ||| (own_pt ((own_b q1) (6 : Int32).toInt.toNat) (6 : Int32))))])
    refine own_step (fun t k => XS.bipush X68.here hx rfl (hb hby at_79) k) ?_
    show own_Fin _ _ _ _ _ _ _ _ (mkF m 81 #[.val (.long q1), .second, .val (.int p2), .val (.int (7 : Int32)), .val (.ref bq61), .unset, .unset, .unset, .unset] [(.int (7 : Int32)), (.ref bq61), (.long (((((((own_pt ((own_b q1) (0 : Int32).toInt.toNat) (0 : Int32)) ||| (own_pt ((own_b q1) (1 : Int32).toInt.toNat) (1 : Int32))) ||| (own_pt ((own_b q1) (2 : Int32).toInt.toNat) (2 : Int32))) ||| (own_pt ((own_b q1) (3 : Int32).toInt.toNat) (3 : Int32))) ||| (own_pt ((own_b q1) (4 : Int32).toInt.toNat) (4 : Int32))) ||| (own_pt ((own_b q1) (5 : Int32).toInt.toNat) (5 : Int32))) ||| (own_pt ((own_b q1) (6 : Int32).toInt.toNat) (6 : Int32))))])
    obtain ⟨_, _, ⟨T69, L69, k69, n69⟩, -, X69, ⟨Lc69, hQ69, l69, y69, z69⟩, st69⟩ := Jvm.LawKit.callS X68 hx (y := (⟨"com/example/kern_tablet/kerntablet/schema/IntegerHandlerLittleEndianPinLaw", "part", "([BI)J"⟩ : MethodName)) hown (mvT hZ (hw _ (List.mem_of_getElem? (i := 5) rfl))) (mvT hZ (hw _ (List.mem_of_getElem? (i := 6) rfl))) (mvT hZ (hw _ (List.mem_of_getElem? (i := 7) rfl))) (mvT hZ (hw _ (List.mem_of_getElem? (i := 8) rfl))) (by decide) (backOf (W := 2) (rm21 l Z a0 hw [] bq61 (7 : Int32) _ _ (7 : Int32) T61.heap n0 Zs V_bq61 rfl (by decide) (by decide)) hZ (hw _ (List.mem_of_getElem? (i := 8) rfl)) (hw _ (List.mem_of_getElem? (i := 7) rfl)) (by decide) (by decide)) (g := (mkF m 81 #[.val (.long q1), .second, .val (.int p2), .val (.int (7 : Int32)), .val (.ref bq61), .unset, .unset, .unset, .unset] [(.int (7 : Int32)), (.ref bq61), (.long (((((((own_pt ((own_b q1) (0 : Int32).toInt.toNat) (0 : Int32)) ||| (own_pt ((own_b q1) (1 : Int32).toInt.toNat) (1 : Int32))) ||| (own_pt ((own_b q1) (2 : Int32).toInt.toNat) (2 : Int32))) ||| (own_pt ((own_b q1) (3 : Int32).toInt.toNat) (3 : Int32))) ||| (own_pt ((own_b q1) (4 : Int32).toInt.toNat) (4 : Int32))) ||| (own_pt ((own_b q1) (5 : Int32).toInt.toNat) (5 : Int32))) ||| (own_pt ((own_b q1) (6 : Int32).toInt.toNat) (6 : Int32))))])) rfl (by rw [hml]; rfl) (argsL := [(.ref bq61), (.int (7 : Int32))]) (rest := [(.long (((((((own_pt ((own_b q1) (0 : Int32).toInt.toNat) (0 : Int32)) ||| (own_pt ((own_b q1) (1 : Int32).toInt.toNat) (1 : Int32))) ||| (own_pt ((own_b q1) (2 : Int32).toInt.toNat) (2 : Int32))) ||| (own_pt ((own_b q1) (3 : Int32).toInt.toNat) (3 : Int32))) ||| (own_pt ((own_b q1) (4 : Int32).toInt.toNat) (4 : Int32))) ||| (own_pt ((own_b q1) (5 : Int32).toInt.toNat) (5 : Int32))) ||| (own_pt ((own_b q1) (6 : Int32).toInt.toNat) (6 : Int32))))]) (lenOf own_pd_1 rfl) rfl (by show 2 * 0 + _ ≤ _; exact Nat.le_of_eq rfl) (hb hby at_81) (fun _ _ => ⟨rfl, hh68, (by decide : 1 + 0 ≤ _), (by decide : 7 + 0 ≤ _)⟩)
    dsimp only [Pt.U, Pt.locs, Pt.cells, Pt.slots] at X69 l69 y69 z69 st69 hQ69
    rw [l69, y69, z69] at X69
    obtain ⟨rfl, Nq69, hh69⟩ := hQ69
    replace Nf := Fr.app Nf Nq69
    refine own_step st69 ?_
    show own_Fin _ _ _ _ _ _ _ _ (mkF m 84 #[.val (.long q1), .second, .val (.int p2), .val (.int (7 : Int32)), .val (.ref bq61), .unset, .unset, .unset, .unset] [(.long (0 : Int64)), (.long (((((((own_pt ((own_b q1) (0 : Int32).toInt.toNat) (0 : Int32)) ||| (own_pt ((own_b q1) (1 : Int32).toInt.toNat) (1 : Int32))) ||| (own_pt ((own_b q1) (2 : Int32).toInt.toNat) (2 : Int32))) ||| (own_pt ((own_b q1) (3 : Int32).toInt.toNat) (3 : Int32))) ||| (own_pt ((own_b q1) (4 : Int32).toInt.toNat) (4 : Int32))) ||| (own_pt ((own_b q1) (5 : Int32).toInt.toNat) (5 : Int32))) ||| (own_pt ((own_b q1) (6 : Int32).toInt.toNat) (6 : Int32))))])
    refine own_step (fun t k => XS.lor X69.here hx rfl (hb hby at_84) rfl k) ?_
    show own_Fin _ _ _ _ _ _ _ _ (mkF m 85 #[.val (.long q1), .second, .val (.int p2), .val (.int (7 : Int32)), .val (.ref bq61), .unset, .unset, .unset, .unset] [(.long ((((((((own_pt ((own_b q1) (0 : Int32).toInt.toNat) (0 : Int32)) ||| (own_pt ((own_b q1) (1 : Int32).toInt.toNat) (1 : Int32))) ||| (own_pt ((own_b q1) (2 : Int32).toInt.toNat) (2 : Int32))) ||| (own_pt ((own_b q1) (3 : Int32).toInt.toNat) (3 : Int32))) ||| (own_pt ((own_b q1) (4 : Int32).toInt.toNat) (4 : Int32))) ||| (own_pt ((own_b q1) (5 : Int32).toInt.toNat) (5 : Int32))) ||| (own_pt ((own_b q1) (6 : Int32).toInt.toNat) (6 : Int32))) ||| (0 : Int64)))])
    refine own_step (fun t k => XS.lstore X69.here hx rfl (hb hby at_85) rfl (l' := #[.val (.long q1), .second, .val (.int p2), .val (.int (7 : Int32)), .val (.ref bq61), .val (.long ((((((((own_pt ((own_b q1) (0 : Int32).toInt.toNat) (0 : Int32)) ||| (own_pt ((own_b q1) (1 : Int32).toInt.toNat) (1 : Int32))) ||| (own_pt ((own_b q1) (2 : Int32).toInt.toNat) (2 : Int32))) ||| (own_pt ((own_b q1) (3 : Int32).toInt.toNat) (3 : Int32))) ||| (own_pt ((own_b q1) (4 : Int32).toInt.toNat) (4 : Int32))) ||| (own_pt ((own_b q1) (5 : Int32).toInt.toNat) (5 : Int32))) ||| (own_pt ((own_b q1) (6 : Int32).toInt.toNat) (6 : Int32))) ||| (0 : Int64))), .second, .unset, .unset]) rfl k) ?_
    show own_Fin _ _ _ _ _ _ _ _ (mkF m 87 #[.val (.long q1), .second, .val (.int p2), .val (.int (7 : Int32)), .val (.ref bq61), .val (.long ((((((((own_pt ((own_b q1) (0 : Int32).toInt.toNat) (0 : Int32)) ||| (own_pt ((own_b q1) (1 : Int32).toInt.toNat) (1 : Int32))) ||| (own_pt ((own_b q1) (2 : Int32).toInt.toNat) (2 : Int32))) ||| (own_pt ((own_b q1) (3 : Int32).toInt.toNat) (3 : Int32))) ||| (own_pt ((own_b q1) (4 : Int32).toInt.toNat) (4 : Int32))) ||| (own_pt ((own_b q1) (5 : Int32).toInt.toNat) (5 : Int32))) ||| (own_pt ((own_b q1) (6 : Int32).toInt.toNat) (6 : Int32))) ||| (0 : Int64))), .second, .unset, .unset] [])
    refine own_step (fun t k => XS.iloadN X69.here hx rfl (hb hby at_87) rfl k) ?_
    show own_Fin _ _ _ _ _ _ _ _ (mkF m 88 #[.val (.long q1), .second, .val (.int p2), .val (.int (7 : Int32)), .val (.ref bq61), .val (.long ((((((((own_pt ((own_b q1) (0 : Int32).toInt.toNat) (0 : Int32)) ||| (own_pt ((own_b q1) (1 : Int32).toInt.toNat) (1 : Int32))) ||| (own_pt ((own_b q1) (2 : Int32).toInt.toNat) (2 : Int32))) ||| (own_pt ((own_b q1) (3 : Int32).toInt.toNat) (3 : Int32))) ||| (own_pt ((own_b q1) (4 : Int32).toInt.toNat) (4 : Int32))) ||| (own_pt ((own_b q1) (5 : Int32).toInt.toNat) (5 : Int32))) ||| (own_pt ((own_b q1) (6 : Int32).toInt.toNat) (6 : Int32))) ||| (0 : Int64))), .second, .unset, .unset] [(.int (7 : Int32))])
    refine own_step (fun t k => XS.bipush X69.here hx rfl (hb hby at_88) k) ?_
    show own_Fin _ _ _ _ _ _ _ _ (mkF m 90 #[.val (.long q1), .second, .val (.int p2), .val (.int (7 : Int32)), .val (.ref bq61), .val (.long ((((((((own_pt ((own_b q1) (0 : Int32).toInt.toNat) (0 : Int32)) ||| (own_pt ((own_b q1) (1 : Int32).toInt.toNat) (1 : Int32))) ||| (own_pt ((own_b q1) (2 : Int32).toInt.toNat) (2 : Int32))) ||| (own_pt ((own_b q1) (3 : Int32).toInt.toNat) (3 : Int32))) ||| (own_pt ((own_b q1) (4 : Int32).toInt.toNat) (4 : Int32))) ||| (own_pt ((own_b q1) (5 : Int32).toInt.toNat) (5 : Int32))) ||| (own_pt ((own_b q1) (6 : Int32).toInt.toNat) (6 : Int32))) ||| (0 : Int64))), .second, .unset, .unset] [(.int (8 : Int32)), (.int (7 : Int32))])
    refine own_step (fun t k => XS.icmpYes X69.here hx rfl (pc0 := 90) (pc' := 99) rfl (hb hby at_90) rfl (by decide) (by decide) (by decide) k) ?_
    show own_Fin _ _ _ _ _ _ _ _ (mkF m 99 #[.val (.long q1), .second, .val (.int p2), .val (.int (7 : Int32)), .val (.ref bq61), .val (.long ((((((((own_pt ((own_b q1) (0 : Int32).toInt.toNat) (0 : Int32)) ||| (own_pt ((own_b q1) (1 : Int32).toInt.toNat) (1 : Int32))) ||| (own_pt ((own_b q1) (2 : Int32).toInt.toNat) (2 : Int32))) ||| (own_pt ((own_b q1) (3 : Int32).toInt.toNat) (3 : Int32))) ||| (own_pt ((own_b q1) (4 : Int32).toInt.toNat) (4 : Int32))) ||| (own_pt ((own_b q1) (5 : Int32).toInt.toNat) (5 : Int32))) ||| (own_pt ((own_b q1) (6 : Int32).toInt.toNat) (6 : Int32))) ||| (0 : Int64))), .second, .unset, .unset] [])
    refine own_step (fun t k => XS.lconst X69.here hx rfl (hb hby at_99) k) ?_
    show own_Fin _ _ _ _ _ _ _ _ (mkF m 100 #[.val (.long q1), .second, .val (.int p2), .val (.int (7 : Int32)), .val (.ref bq61), .val (.long ((((((((own_pt ((own_b q1) (0 : Int32).toInt.toNat) (0 : Int32)) ||| (own_pt ((own_b q1) (1 : Int32).toInt.toNat) (1 : Int32))) ||| (own_pt ((own_b q1) (2 : Int32).toInt.toNat) (2 : Int32))) ||| (own_pt ((own_b q1) (3 : Int32).toInt.toNat) (3 : Int32))) ||| (own_pt ((own_b q1) (4 : Int32).toInt.toNat) (4 : Int32))) ||| (own_pt ((own_b q1) (5 : Int32).toInt.toNat) (5 : Int32))) ||| (own_pt ((own_b q1) (6 : Int32).toInt.toNat) (6 : Int32))) ||| (0 : Int64))), .second, .unset, .unset] [(.long (1 : Int64))])
    refine own_step (fun t k => XS.bipush X69.here hx rfl (hb hby at_100) k) ?_
    show own_Fin _ _ _ _ _ _ _ _ (mkF m 102 #[.val (.long q1), .second, .val (.int p2), .val (.int (7 : Int32)), .val (.ref bq61), .val (.long ((((((((own_pt ((own_b q1) (0 : Int32).toInt.toNat) (0 : Int32)) ||| (own_pt ((own_b q1) (1 : Int32).toInt.toNat) (1 : Int32))) ||| (own_pt ((own_b q1) (2 : Int32).toInt.toNat) (2 : Int32))) ||| (own_pt ((own_b q1) (3 : Int32).toInt.toNat) (3 : Int32))) ||| (own_pt ((own_b q1) (4 : Int32).toInt.toNat) (4 : Int32))) ||| (own_pt ((own_b q1) (5 : Int32).toInt.toNat) (5 : Int32))) ||| (own_pt ((own_b q1) (6 : Int32).toInt.toNat) (6 : Int32))) ||| (0 : Int64))), .second, .unset, .unset] [(.int (8 : Int32)), (.long (1 : Int64))])
    refine own_step (fun t k => XS.iloadN X69.here hx rfl (hb hby at_102) rfl k) ?_
    show own_Fin _ _ _ _ _ _ _ _ (mkF m 103 #[.val (.long q1), .second, .val (.int p2), .val (.int (7 : Int32)), .val (.ref bq61), .val (.long ((((((((own_pt ((own_b q1) (0 : Int32).toInt.toNat) (0 : Int32)) ||| (own_pt ((own_b q1) (1 : Int32).toInt.toNat) (1 : Int32))) ||| (own_pt ((own_b q1) (2 : Int32).toInt.toNat) (2 : Int32))) ||| (own_pt ((own_b q1) (3 : Int32).toInt.toNat) (3 : Int32))) ||| (own_pt ((own_b q1) (4 : Int32).toInt.toNat) (4 : Int32))) ||| (own_pt ((own_b q1) (5 : Int32).toInt.toNat) (5 : Int32))) ||| (own_pt ((own_b q1) (6 : Int32).toInt.toNat) (6 : Int32))) ||| (0 : Int64))), .second, .unset, .unset] [(.int (7 : Int32)), (.int (8 : Int32)), (.long (1 : Int64))])
    refine own_step (fun t k => XS.imul X69.here hx rfl (hb hby at_103) rfl k) ?_
    show own_Fin _ _ _ _ _ _ _ _ (mkF m 104 #[.val (.long q1), .second, .val (.int p2), .val (.int (7 : Int32)), .val (.ref bq61), .val (.long ((((((((own_pt ((own_b q1) (0 : Int32).toInt.toNat) (0 : Int32)) ||| (own_pt ((own_b q1) (1 : Int32).toInt.toNat) (1 : Int32))) ||| (own_pt ((own_b q1) (2 : Int32).toInt.toNat) (2 : Int32))) ||| (own_pt ((own_b q1) (3 : Int32).toInt.toNat) (3 : Int32))) ||| (own_pt ((own_b q1) (4 : Int32).toInt.toNat) (4 : Int32))) ||| (own_pt ((own_b q1) (5 : Int32).toInt.toNat) (5 : Int32))) ||| (own_pt ((own_b q1) (6 : Int32).toInt.toNat) (6 : Int32))) ||| (0 : Int64))), .second, .unset, .unset] [(.int (56 : Int32)), (.long (1 : Int64))])
    refine own_step (fun t k => XS.lshl X69.here hx rfl (hb hby at_104) rfl k) ?_
    show own_Fin _ _ _ _ _ _ _ _ (mkF m 105 #[.val (.long q1), .second, .val (.int p2), .val (.int (7 : Int32)), .val (.ref bq61), .val (.long ((((((((own_pt ((own_b q1) (0 : Int32).toInt.toNat) (0 : Int32)) ||| (own_pt ((own_b q1) (1 : Int32).toInt.toNat) (1 : Int32))) ||| (own_pt ((own_b q1) (2 : Int32).toInt.toNat) (2 : Int32))) ||| (own_pt ((own_b q1) (3 : Int32).toInt.toNat) (3 : Int32))) ||| (own_pt ((own_b q1) (4 : Int32).toInt.toNat) (4 : Int32))) ||| (own_pt ((own_b q1) (5 : Int32).toInt.toNat) (5 : Int32))) ||| (own_pt ((own_b q1) (6 : Int32).toInt.toNat) (6 : Int32))) ||| (0 : Int64))), .second, .unset, .unset] [(.long ((1 : Int64) <<< ((56 : Int32) &&& 0x3f).toInt64))])
    refine own_step (fun t k => XS.lconst X69.here hx rfl (hb hby at_105) k) ?_
    show own_Fin _ _ _ _ _ _ _ _ (mkF m 106 #[.val (.long q1), .second, .val (.int p2), .val (.int (7 : Int32)), .val (.ref bq61), .val (.long ((((((((own_pt ((own_b q1) (0 : Int32).toInt.toNat) (0 : Int32)) ||| (own_pt ((own_b q1) (1 : Int32).toInt.toNat) (1 : Int32))) ||| (own_pt ((own_b q1) (2 : Int32).toInt.toNat) (2 : Int32))) ||| (own_pt ((own_b q1) (3 : Int32).toInt.toNat) (3 : Int32))) ||| (own_pt ((own_b q1) (4 : Int32).toInt.toNat) (4 : Int32))) ||| (own_pt ((own_b q1) (5 : Int32).toInt.toNat) (5 : Int32))) ||| (own_pt ((own_b q1) (6 : Int32).toInt.toNat) (6 : Int32))) ||| (0 : Int64))), .second, .unset, .unset] [(.long (1 : Int64)), (.long ((1 : Int64) <<< ((56 : Int32) &&& 0x3f).toInt64))])
    refine own_step (fun t k => XS.lsub X69.here hx rfl (hb hby at_106) rfl k) ?_
    show own_Fin _ _ _ _ _ _ _ _ (mkF m 107 #[.val (.long q1), .second, .val (.int p2), .val (.int (7 : Int32)), .val (.ref bq61), .val (.long ((((((((own_pt ((own_b q1) (0 : Int32).toInt.toNat) (0 : Int32)) ||| (own_pt ((own_b q1) (1 : Int32).toInt.toNat) (1 : Int32))) ||| (own_pt ((own_b q1) (2 : Int32).toInt.toNat) (2 : Int32))) ||| (own_pt ((own_b q1) (3 : Int32).toInt.toNat) (3 : Int32))) ||| (own_pt ((own_b q1) (4 : Int32).toInt.toNat) (4 : Int32))) ||| (own_pt ((own_b q1) (5 : Int32).toInt.toNat) (5 : Int32))) ||| (own_pt ((own_b q1) (6 : Int32).toInt.toNat) (6 : Int32))) ||| (0 : Int64))), .second, .unset, .unset] [(.long (((1 : Int64) <<< ((56 : Int32) &&& 0x3f).toInt64) - (1 : Int64)))])
    refine own_step (fun t k => XS.lstore X69.here hx rfl (hb hby at_107) rfl (l' := #[.val (.long q1), .second, .val (.int p2), .val (.int (7 : Int32)), .val (.ref bq61), .val (.long ((((((((own_pt ((own_b q1) (0 : Int32).toInt.toNat) (0 : Int32)) ||| (own_pt ((own_b q1) (1 : Int32).toInt.toNat) (1 : Int32))) ||| (own_pt ((own_b q1) (2 : Int32).toInt.toNat) (2 : Int32))) ||| (own_pt ((own_b q1) (3 : Int32).toInt.toNat) (3 : Int32))) ||| (own_pt ((own_b q1) (4 : Int32).toInt.toNat) (4 : Int32))) ||| (own_pt ((own_b q1) (5 : Int32).toInt.toNat) (5 : Int32))) ||| (own_pt ((own_b q1) (6 : Int32).toInt.toNat) (6 : Int32))) ||| (0 : Int64))), .second, .val (.long (((1 : Int64) <<< ((56 : Int32) &&& 0x3f).toInt64) - (1 : Int64))), .second]) rfl k) ?_
    show own_Fin _ _ _ _ _ _ _ _ (mkF m 109 #[.val (.long q1), .second, .val (.int p2), .val (.int (7 : Int32)), .val (.ref bq61), .val (.long ((((((((own_pt ((own_b q1) (0 : Int32).toInt.toNat) (0 : Int32)) ||| (own_pt ((own_b q1) (1 : Int32).toInt.toNat) (1 : Int32))) ||| (own_pt ((own_b q1) (2 : Int32).toInt.toNat) (2 : Int32))) ||| (own_pt ((own_b q1) (3 : Int32).toInt.toNat) (3 : Int32))) ||| (own_pt ((own_b q1) (4 : Int32).toInt.toNat) (4 : Int32))) ||| (own_pt ((own_b q1) (5 : Int32).toInt.toNat) (5 : Int32))) ||| (own_pt ((own_b q1) (6 : Int32).toInt.toNat) (6 : Int32))) ||| (0 : Int64))), .second, .val (.long (((1 : Int64) <<< ((56 : Int32) &&& 0x3f).toInt64) - (1 : Int64))), .second] [])
    refine own_step (fun t k => XS.lload X69.here hx rfl (hb hby at_109) rfl k) ?_
    show own_Fin _ _ _ _ _ _ _ _ (mkF m 111 #[.val (.long q1), .second, .val (.int p2), .val (.int (7 : Int32)), .val (.ref bq61), .val (.long ((((((((own_pt ((own_b q1) (0 : Int32).toInt.toNat) (0 : Int32)) ||| (own_pt ((own_b q1) (1 : Int32).toInt.toNat) (1 : Int32))) ||| (own_pt ((own_b q1) (2 : Int32).toInt.toNat) (2 : Int32))) ||| (own_pt ((own_b q1) (3 : Int32).toInt.toNat) (3 : Int32))) ||| (own_pt ((own_b q1) (4 : Int32).toInt.toNat) (4 : Int32))) ||| (own_pt ((own_b q1) (5 : Int32).toInt.toNat) (5 : Int32))) ||| (own_pt ((own_b q1) (6 : Int32).toInt.toNat) (6 : Int32))) ||| (0 : Int64))), .second, .val (.long (((1 : Int64) <<< ((56 : Int32) &&& 0x3f).toInt64) - (1 : Int64))), .second] [(.long ((((((((own_pt ((own_b q1) (0 : Int32).toInt.toNat) (0 : Int32)) ||| (own_pt ((own_b q1) (1 : Int32).toInt.toNat) (1 : Int32))) ||| (own_pt ((own_b q1) (2 : Int32).toInt.toNat) (2 : Int32))) ||| (own_pt ((own_b q1) (3 : Int32).toInt.toNat) (3 : Int32))) ||| (own_pt ((own_b q1) (4 : Int32).toInt.toNat) (4 : Int32))) ||| (own_pt ((own_b q1) (5 : Int32).toInt.toNat) (5 : Int32))) ||| (own_pt ((own_b q1) (6 : Int32).toInt.toNat) (6 : Int32))) ||| (0 : Int64)))])
    refine own_step (fun t k => XS.lloadN X69.here hx rfl (hb hby at_111) rfl k) ?_
    show own_Fin _ _ _ _ _ _ _ _ (mkF m 112 #[.val (.long q1), .second, .val (.int p2), .val (.int (7 : Int32)), .val (.ref bq61), .val (.long ((((((((own_pt ((own_b q1) (0 : Int32).toInt.toNat) (0 : Int32)) ||| (own_pt ((own_b q1) (1 : Int32).toInt.toNat) (1 : Int32))) ||| (own_pt ((own_b q1) (2 : Int32).toInt.toNat) (2 : Int32))) ||| (own_pt ((own_b q1) (3 : Int32).toInt.toNat) (3 : Int32))) ||| (own_pt ((own_b q1) (4 : Int32).toInt.toNat) (4 : Int32))) ||| (own_pt ((own_b q1) (5 : Int32).toInt.toNat) (5 : Int32))) ||| (own_pt ((own_b q1) (6 : Int32).toInt.toNat) (6 : Int32))) ||| (0 : Int64))), .second, .val (.long (((1 : Int64) <<< ((56 : Int32) &&& 0x3f).toInt64) - (1 : Int64))), .second] [(.long q1), (.long ((((((((own_pt ((own_b q1) (0 : Int32).toInt.toNat) (0 : Int32)) ||| (own_pt ((own_b q1) (1 : Int32).toInt.toNat) (1 : Int32))) ||| (own_pt ((own_b q1) (2 : Int32).toInt.toNat) (2 : Int32))) ||| (own_pt ((own_b q1) (3 : Int32).toInt.toNat) (3 : Int32))) ||| (own_pt ((own_b q1) (4 : Int32).toInt.toNat) (4 : Int32))) ||| (own_pt ((own_b q1) (5 : Int32).toInt.toNat) (5 : Int32))) ||| (own_pt ((own_b q1) (6 : Int32).toInt.toNat) (6 : Int32))) ||| (0 : Int64)))])
    refine own_step (fun t k => XS.lload X69.here hx rfl (hb hby at_112) rfl k) ?_
    show own_Fin _ _ _ _ _ _ _ _ (mkF m 114 #[.val (.long q1), .second, .val (.int p2), .val (.int (7 : Int32)), .val (.ref bq61), .val (.long ((((((((own_pt ((own_b q1) (0 : Int32).toInt.toNat) (0 : Int32)) ||| (own_pt ((own_b q1) (1 : Int32).toInt.toNat) (1 : Int32))) ||| (own_pt ((own_b q1) (2 : Int32).toInt.toNat) (2 : Int32))) ||| (own_pt ((own_b q1) (3 : Int32).toInt.toNat) (3 : Int32))) ||| (own_pt ((own_b q1) (4 : Int32).toInt.toNat) (4 : Int32))) ||| (own_pt ((own_b q1) (5 : Int32).toInt.toNat) (5 : Int32))) ||| (own_pt ((own_b q1) (6 : Int32).toInt.toNat) (6 : Int32))) ||| (0 : Int64))), .second, .val (.long (((1 : Int64) <<< ((56 : Int32) &&& 0x3f).toInt64) - (1 : Int64))), .second] [(.long (((1 : Int64) <<< ((56 : Int32) &&& 0x3f).toInt64) - (1 : Int64))), (.long q1), (.long ((((((((own_pt ((own_b q1) (0 : Int32).toInt.toNat) (0 : Int32)) ||| (own_pt ((own_b q1) (1 : Int32).toInt.toNat) (1 : Int32))) ||| (own_pt ((own_b q1) (2 : Int32).toInt.toNat) (2 : Int32))) ||| (own_pt ((own_b q1) (3 : Int32).toInt.toNat) (3 : Int32))) ||| (own_pt ((own_b q1) (4 : Int32).toInt.toNat) (4 : Int32))) ||| (own_pt ((own_b q1) (5 : Int32).toInt.toNat) (5 : Int32))) ||| (own_pt ((own_b q1) (6 : Int32).toInt.toNat) (6 : Int32))) ||| (0 : Int64)))])
    refine own_step (fun t k => XS.land X69.here hx rfl (hb hby at_114) rfl k) ?_
    show own_Fin _ _ _ _ _ _ _ _ (mkF m 115 #[.val (.long q1), .second, .val (.int p2), .val (.int (7 : Int32)), .val (.ref bq61), .val (.long ((((((((own_pt ((own_b q1) (0 : Int32).toInt.toNat) (0 : Int32)) ||| (own_pt ((own_b q1) (1 : Int32).toInt.toNat) (1 : Int32))) ||| (own_pt ((own_b q1) (2 : Int32).toInt.toNat) (2 : Int32))) ||| (own_pt ((own_b q1) (3 : Int32).toInt.toNat) (3 : Int32))) ||| (own_pt ((own_b q1) (4 : Int32).toInt.toNat) (4 : Int32))) ||| (own_pt ((own_b q1) (5 : Int32).toInt.toNat) (5 : Int32))) ||| (own_pt ((own_b q1) (6 : Int32).toInt.toNat) (6 : Int32))) ||| (0 : Int64))), .second, .val (.long (((1 : Int64) <<< ((56 : Int32) &&& 0x3f).toInt64) - (1 : Int64))), .second] [(.long (q1 &&& (((1 : Int64) <<< ((56 : Int32) &&& 0x3f).toInt64) - (1 : Int64)))), (.long ((((((((own_pt ((own_b q1) (0 : Int32).toInt.toNat) (0 : Int32)) ||| (own_pt ((own_b q1) (1 : Int32).toInt.toNat) (1 : Int32))) ||| (own_pt ((own_b q1) (2 : Int32).toInt.toNat) (2 : Int32))) ||| (own_pt ((own_b q1) (3 : Int32).toInt.toNat) (3 : Int32))) ||| (own_pt ((own_b q1) (4 : Int32).toInt.toNat) (4 : Int32))) ||| (own_pt ((own_b q1) (5 : Int32).toInt.toNat) (5 : Int32))) ||| (own_pt ((own_b q1) (6 : Int32).toInt.toNat) (6 : Int32))) ||| (0 : Int64)))])
    refine own_step (fun t k => XS.lcmp X69.here hx rfl (hb hby at_115) rfl k) ?_
    show own_Fin _ _ _ _ _ _ _ _ (mkF m 116 #[.val (.long q1), .second, .val (.int p2), .val (.int (7 : Int32)), .val (.ref bq61), .val (.long ((((((((own_pt ((own_b q1) (0 : Int32).toInt.toNat) (0 : Int32)) ||| (own_pt ((own_b q1) (1 : Int32).toInt.toNat) (1 : Int32))) ||| (own_pt ((own_b q1) (2 : Int32).toInt.toNat) (2 : Int32))) ||| (own_pt ((own_b q1) (3 : Int32).toInt.toNat) (3 : Int32))) ||| (own_pt ((own_b q1) (4 : Int32).toInt.toNat) (4 : Int32))) ||| (own_pt ((own_b q1) (5 : Int32).toInt.toNat) (5 : Int32))) ||| (own_pt ((own_b q1) (6 : Int32).toInt.toNat) (6 : Int32))) ||| (0 : Int64))), .second, .val (.long (((1 : Int64) <<< ((56 : Int32) &&& 0x3f).toInt64) - (1 : Int64))), .second] [(.int (lcmpW ((((((((own_pt ((own_b q1) (0 : Int32).toInt.toNat) (0 : Int32)) ||| (own_pt ((own_b q1) (1 : Int32).toInt.toNat) (1 : Int32))) ||| (own_pt ((own_b q1) (2 : Int32).toInt.toNat) (2 : Int32))) ||| (own_pt ((own_b q1) (3 : Int32).toInt.toNat) (3 : Int32))) ||| (own_pt ((own_b q1) (4 : Int32).toInt.toNat) (4 : Int32))) ||| (own_pt ((own_b q1) (5 : Int32).toInt.toNat) (5 : Int32))) ||| (own_pt ((own_b q1) (6 : Int32).toInt.toNat) (6 : Int32))) ||| (0 : Int64)) (q1 &&& (((1 : Int64) <<< ((56 : Int32) &&& 0x3f).toInt64) - (1 : Int64)))))])
    have hc70 : (((((((((own_pt ((own_b q1) (0 : Int32).toInt.toNat) (0 : Int32)) ||| (own_pt ((own_b q1) (1 : Int32).toInt.toNat) (1 : Int32))) ||| (own_pt ((own_b q1) (2 : Int32).toInt.toNat) (2 : Int32))) ||| (own_pt ((own_b q1) (3 : Int32).toInt.toNat) (3 : Int32))) ||| (own_pt ((own_b q1) (4 : Int32).toInt.toNat) (4 : Int32))) ||| (own_pt ((own_b q1) (5 : Int32).toInt.toNat) (5 : Int32))) ||| (own_pt ((own_b q1) (6 : Int32).toInt.toNat) (6 : Int32))) ||| (0 : Int64))).toInt = ((q1 &&& (((1 : Int64) <<< ((56 : Int32) &&& 0x3f).toInt64) - (1 : Int64)))).toInt := congrArg Int64.toInt (own_fin7 q1)
    refine own_step (fun t k => XS.ifNo X69.here hx rfl (hb hby at_116) rfl (own_le (x := ((((((((own_pt ((own_b q1) (0 : Int32).toInt.toNat) (0 : Int32)) ||| (own_pt ((own_b q1) (1 : Int32).toInt.toNat) (1 : Int32))) ||| (own_pt ((own_b q1) (2 : Int32).toInt.toNat) (2 : Int32))) ||| (own_pt ((own_b q1) (3 : Int32).toInt.toNat) (3 : Int32))) ||| (own_pt ((own_b q1) (4 : Int32).toInt.toNat) (4 : Int32))) ||| (own_pt ((own_b q1) (5 : Int32).toInt.toNat) (5 : Int32))) ||| (own_pt ((own_b q1) (6 : Int32).toInt.toNat) (6 : Int32))) ||| (0 : Int64))) (y := (q1 &&& (((1 : Int64) <<< ((56 : Int32) &&& 0x3f).toInt64) - (1 : Int64)))) rfl rfl hc70).2 k) ?_
    show own_Fin _ _ _ _ _ _ _ _ (mkF m 119 #[.val (.long q1), .second, .val (.int p2), .val (.int (7 : Int32)), .val (.ref bq61), .val (.long ((((((((own_pt ((own_b q1) (0 : Int32).toInt.toNat) (0 : Int32)) ||| (own_pt ((own_b q1) (1 : Int32).toInt.toNat) (1 : Int32))) ||| (own_pt ((own_b q1) (2 : Int32).toInt.toNat) (2 : Int32))) ||| (own_pt ((own_b q1) (3 : Int32).toInt.toNat) (3 : Int32))) ||| (own_pt ((own_b q1) (4 : Int32).toInt.toNat) (4 : Int32))) ||| (own_pt ((own_b q1) (5 : Int32).toInt.toNat) (5 : Int32))) ||| (own_pt ((own_b q1) (6 : Int32).toInt.toNat) (6 : Int32))) ||| (0 : Int64))), .second, .val (.long (((1 : Int64) <<< ((56 : Int32) &&& 0x3f).toInt64) - (1 : Int64))), .second] [])
    refine own_step (fun t k => XS.iconst X69.here hx rfl (hb hby at_119) k) ?_
    show own_Fin _ _ _ _ _ _ _ _ (mkF m 120 #[.val (.long q1), .second, .val (.int p2), .val (.int (7 : Int32)), .val (.ref bq61), .val (.long ((((((((own_pt ((own_b q1) (0 : Int32).toInt.toNat) (0 : Int32)) ||| (own_pt ((own_b q1) (1 : Int32).toInt.toNat) (1 : Int32))) ||| (own_pt ((own_b q1) (2 : Int32).toInt.toNat) (2 : Int32))) ||| (own_pt ((own_b q1) (3 : Int32).toInt.toNat) (3 : Int32))) ||| (own_pt ((own_b q1) (4 : Int32).toInt.toNat) (4 : Int32))) ||| (own_pt ((own_b q1) (5 : Int32).toInt.toNat) (5 : Int32))) ||| (own_pt ((own_b q1) (6 : Int32).toInt.toNat) (6 : Int32))) ||| (0 : Int64))), .second, .val (.long (((1 : Int64) <<< ((56 : Int32) &&& 0x3f).toInt64) - (1 : Int64))), .second] [(.int (1 : Int32))])
    refine own_step (fun t k => XS.goto X69.here hx rfl (pc0 := 120) (pc' := 124) rfl (hb hby at_120) (by decide) (by decide) k) ?_
    show own_Fin _ _ _ _ _ _ _ _ (mkF m 124 #[.val (.long q1), .second, .val (.int p2), .val (.int (7 : Int32)), .val (.ref bq61), .val (.long ((((((((own_pt ((own_b q1) (0 : Int32).toInt.toNat) (0 : Int32)) ||| (own_pt ((own_b q1) (1 : Int32).toInt.toNat) (1 : Int32))) ||| (own_pt ((own_b q1) (2 : Int32).toInt.toNat) (2 : Int32))) ||| (own_pt ((own_b q1) (3 : Int32).toInt.toNat) (3 : Int32))) ||| (own_pt ((own_b q1) (4 : Int32).toInt.toNat) (4 : Int32))) ||| (own_pt ((own_b q1) (5 : Int32).toInt.toNat) (5 : Int32))) ||| (own_pt ((own_b q1) (6 : Int32).toInt.toNat) (6 : Int32))) ||| (0 : Int64))), .second, .val (.long (((1 : Int64) <<< ((56 : Int32) &&& 0x3f).toInt64) - (1 : Int64))), .second] [(.int (1 : Int32))])
    refine own_retZ X69 hx hlk Bd.returns (hb hby at_124) (z' := (1 : Int32)) (by decide) (by decide) (by decide) hh69 ?_
    exact ⟨rfl, Nf⟩
  · skip
    show own_Fin _ _ _ _ _ _ _ _ (mkF m 7 #[.val (.long q1), .second, .val (.int p2), .val (.int (8 : Int32)), .unset, .unset, .unset, .unset, .unset] [])
    refine own_step (fun t k => XS.lloadN X0.here hx rfl (hb hby at_7) rfl k) ?_
    show own_Fin _ _ _ _ _ _ _ _ (mkF m 8 #[.val (.long q1), .second, .val (.int p2), .val (.int (8 : Int32)), .unset, .unset, .unset, .unset, .unset] [(.long q1)])
    refine own_step (fun t k => XS.iloadN X0.here hx rfl (hb hby at_8) rfl k) ?_
    show own_Fin _ _ _ _ _ _ _ _ (mkF m 9 #[.val (.long q1), .second, .val (.int p2), .val (.int (8 : Int32)), .unset, .unset, .unset, .unset, .unset] [(.int (8 : Int32)), (.long q1)])
    obtain ⟨_, _, ⟨T71, L71, k71, n71⟩, -, X71, ⟨Lc71, hQ71, l71, y71, z71⟩, st71⟩ := Jvm.LawKit.callS X0 hx (y := (⟨"com/example/kern_tablet/kerntablet/schema/IntegerHandler", "littleEndian", "(JI)[B"⟩ : MethodName)) hown (mvT hZ (hw _ (List.mem_of_getElem? (i := 0) rfl))) (mvT hZ (hw _ (List.mem_of_getElem? (i := 1) rfl))) (mvT hZ (hw _ (List.mem_of_getElem? (i := 2) rfl))) (mvT hZ (hw _ (List.mem_of_getElem? (i := 3) rfl))) (by decide) (backOf (W := 0) (rm18 l Z a0 hw [] q1 h0 n0 Zs) hZ (hw _ (List.mem_of_getElem? (i := 3) rfl)) (hw _ (List.mem_of_getElem? (i := 2) rfl)) (by decide) (by decide)) (g := (mkF m 9 #[.val (.long q1), .second, .val (.int p2), .val (.int (8 : Int32)), .unset, .unset, .unset, .unset, .unset] [(.int (8 : Int32)), (.long q1)])) rfl (by rw [hml]; rfl) (argsL := [(.long q1), (.int (8 : Int32))]) (rest := []) (lenOf own_pd_0 rfl) rfl (by show 2 * 0 + _ ≤ _; exact Nat.le_of_eq rfl) (hb hby at_9) (fun _ _ => ⟨rfl, e0, (by decide : 0 + 1 ≤ _), (by decide : 0 + 8 ≤ _)⟩)
    dsimp only [Pt.U, Pt.locs, Pt.cells, Pt.slots] at X71 l71 y71 z71 st71 hQ71
    rw [l71, y71, z71] at X71
    obtain ⟨bq71, rfl, Nq71, Kq71, gq71, P71⟩ := hQ71
    replace Nf := Fr.app Nf Nq71
    replace Zs := Nat.le_trans Zs Kq71.1
    have V_bq71 := P71
    refine own_step st71 ?_
    show own_Fin _ _ _ _ _ _ _ _ (mkF m 12 #[.val (.long q1), .second, .val (.int p2), .val (.int (8 : Int32)), .unset, .unset, .unset, .unset, .unset] [(.ref bq71)])
    refine own_step (fun t k => XS.astore X71.here hx rfl (hb hby at_12) rfl rfl (l' := #[.val (.long q1), .second, .val (.int p2), .val (.int (8 : Int32)), .val (.ref bq71), .unset, .unset, .unset, .unset]) rfl k) ?_
    show own_Fin _ _ _ _ _ _ _ _ (mkF m 14 #[.val (.long q1), .second, .val (.int p2), .val (.int (8 : Int32)), .val (.ref bq71), .unset, .unset, .unset, .unset] [])
    refine own_step (fun t k => XS.aload X71.here hx rfl (hb hby at_14) rfl rfl k) ?_
    show own_Fin _ _ _ _ _ _ _ _ (mkF m 16 #[.val (.long q1), .second, .val (.int p2), .val (.int (8 : Int32)), .val (.ref bq71), .unset, .unset, .unset, .unset] [(.ref bq71)])
    refine own_step (fun t k => XS.ifnullNo X71.here hx rfl (hb hby at_16) rfl k) ?_
    show own_Fin _ _ _ _ _ _ _ _ (mkF m 19 #[.val (.long q1), .second, .val (.int p2), .val (.int (8 : Int32)), .val (.ref bq71), .unset, .unset, .unset, .unset] [])
    refine own_step (fun t k => XS.aload X71.here hx rfl (hb hby at_19) rfl rfl k) ?_
    show own_Fin _ _ _ _ _ _ _ _ (mkF m 21 #[.val (.long q1), .second, .val (.int p2), .val (.int (8 : Int32)), .val (.ref bq71), .unset, .unset, .unset, .unset] [(.ref bq71)])
    refine own_arrlen X71 hx hZ rfl V_bq71 (z := (8 : Int32)) rfl (hb hby at_21) rfl ?_
    show own_Fin _ _ _ _ _ _ _ _ (mkF m 22 #[.val (.long q1), .second, .val (.int p2), .val (.int (8 : Int32)), .val (.ref bq71), .unset, .unset, .unset, .unset] [(.int (8 : Int32))])
    refine own_step (fun t k => XS.iloadN X71.here hx rfl (hb hby at_22) rfl k) ?_
    show own_Fin _ _ _ _ _ _ _ _ (mkF m 23 #[.val (.long q1), .second, .val (.int p2), .val (.int (8 : Int32)), .val (.ref bq71), .unset, .unset, .unset, .unset] [(.int (8 : Int32)), (.int (8 : Int32))])
    refine own_step (fun t k => XS.icmpYes X71.here hx rfl (pc0 := 23) (pc' := 28) rfl (hb hby at_23) rfl (by decide) (by decide) (by decide) k) ?_
    show own_Fin _ _ _ _ _ _ _ _ (mkF m 28 #[.val (.long q1), .second, .val (.int p2), .val (.int (8 : Int32)), .val (.ref bq71), .unset, .unset, .unset, .unset] [])
    refine own_step (fun t k => XS.aload X71.here hx rfl (hb hby at_28) rfl rfl k) ?_
    show own_Fin _ _ _ _ _ _ _ _ (mkF m 30 #[.val (.long q1), .second, .val (.int p2), .val (.int (8 : Int32)), .val (.ref bq71), .unset, .unset, .unset, .unset] [(.ref bq71)])
    refine own_step (fun t k => XS.iconst X71.here hx rfl (hb hby at_30) k) ?_
    show own_Fin _ _ _ _ _ _ _ _ (mkF m 31 #[.val (.long q1), .second, .val (.int p2), .val (.int (8 : Int32)), .val (.ref bq71), .unset, .unset, .unset, .unset] [(.int (0 : Int32)), (.ref bq71)])
    obtain ⟨_, _, ⟨T72, L72, k72, n72⟩, -, X72, ⟨Lc72, hQ72, l72, y72, z72⟩, st72⟩ := Jvm.LawKit.callS X71 hx (y := (⟨"com/example/kern_tablet/kerntablet/schema/IntegerHandlerLittleEndianPinLaw", "part", "([BI)J"⟩ : MethodName)) hown (mvT hZ (hw _ (List.mem_of_getElem? (i := 5) rfl))) (mvT hZ (hw _ (List.mem_of_getElem? (i := 6) rfl))) (mvT hZ (hw _ (List.mem_of_getElem? (i := 7) rfl))) (mvT hZ (hw _ (List.mem_of_getElem? (i := 8) rfl))) (by decide) (backOf (W := 0) (rm20 l Z a0 hw [] bq71 (0 : Int32) _ _ (8 : Int32) T71.heap n0 Zs V_bq71 rfl (by decide) (by decide)) hZ (hw _ (List.mem_of_getElem? (i := 8) rfl)) (hw _ (List.mem_of_getElem? (i := 7) rfl)) (by decide) (by decide)) (g := (mkF m 31 #[.val (.long q1), .second, .val (.int p2), .val (.int (8 : Int32)), .val (.ref bq71), .unset, .unset, .unset, .unset] [(.int (0 : Int32)), (.ref bq71)])) rfl (by rw [hml]; rfl) (argsL := [(.ref bq71), (.int (0 : Int32))]) (rest := []) (lenOf own_pd_1 rfl) rfl (by show 2 * 0 + _ ≤ _; exact Nat.le_of_eq rfl) (hb hby at_31) (fun _ _ => ⟨rfl, rfl, (by decide : 1 + 0 ≤ _), (by decide : 8 + 0 ≤ _)⟩)
    dsimp only [Pt.U, Pt.locs, Pt.cells, Pt.slots] at X72 l72 y72 z72 st72 hQ72
    rw [l72, y72, z72] at X72
    obtain ⟨rfl, Nq72, hh72⟩ := hQ72
    replace Nf := Fr.app Nf Nq72
    refine own_step st72 ?_
    show own_Fin _ _ _ _ _ _ _ _ (mkF m 34 #[.val (.long q1), .second, .val (.int p2), .val (.int (8 : Int32)), .val (.ref bq71), .unset, .unset, .unset, .unset] [(.long (own_pt ((own_b q1) (0 : Int32).toInt.toNat) (0 : Int32)))])
    refine own_step (fun t k => XS.aload X72.here hx rfl (hb hby at_34) rfl rfl k) ?_
    show own_Fin _ _ _ _ _ _ _ _ (mkF m 36 #[.val (.long q1), .second, .val (.int p2), .val (.int (8 : Int32)), .val (.ref bq71), .unset, .unset, .unset, .unset] [(.ref bq71), (.long (own_pt ((own_b q1) (0 : Int32).toInt.toNat) (0 : Int32)))])
    refine own_step (fun t k => XS.iconst X72.here hx rfl (hb hby at_36) k) ?_
    show own_Fin _ _ _ _ _ _ _ _ (mkF m 37 #[.val (.long q1), .second, .val (.int p2), .val (.int (8 : Int32)), .val (.ref bq71), .unset, .unset, .unset, .unset] [(.int (1 : Int32)), (.ref bq71), (.long (own_pt ((own_b q1) (0 : Int32).toInt.toNat) (0 : Int32)))])
    obtain ⟨_, _, ⟨T73, L73, k73, n73⟩, -, X73, ⟨Lc73, hQ73, l73, y73, z73⟩, st73⟩ := Jvm.LawKit.callS X72 hx (y := (⟨"com/example/kern_tablet/kerntablet/schema/IntegerHandlerLittleEndianPinLaw", "part", "([BI)J"⟩ : MethodName)) hown (mvT hZ (hw _ (List.mem_of_getElem? (i := 5) rfl))) (mvT hZ (hw _ (List.mem_of_getElem? (i := 6) rfl))) (mvT hZ (hw _ (List.mem_of_getElem? (i := 7) rfl))) (mvT hZ (hw _ (List.mem_of_getElem? (i := 8) rfl))) (by decide) (backOf (W := 2) (rm20 l Z a0 hw [] bq71 (1 : Int32) _ _ (8 : Int32) T71.heap n0 Zs V_bq71 rfl (by decide) (by decide)) hZ (hw _ (List.mem_of_getElem? (i := 8) rfl)) (hw _ (List.mem_of_getElem? (i := 7) rfl)) (by decide) (by decide)) (g := (mkF m 37 #[.val (.long q1), .second, .val (.int p2), .val (.int (8 : Int32)), .val (.ref bq71), .unset, .unset, .unset, .unset] [(.int (1 : Int32)), (.ref bq71), (.long (own_pt ((own_b q1) (0 : Int32).toInt.toNat) (0 : Int32)))])) rfl (by rw [hml]; rfl) (argsL := [(.ref bq71), (.int (1 : Int32))]) (rest := [(.long (own_pt ((own_b q1) (0 : Int32).toInt.toNat) (0 : Int32)))]) (lenOf own_pd_1 rfl) rfl (by show 2 * 0 + _ ≤ _; exact Nat.le_of_eq rfl) (hb hby at_37) (fun _ _ => ⟨rfl, hh72, (by decide : 1 + 0 ≤ _), (by decide : 8 + 0 ≤ _)⟩)
    dsimp only [Pt.U, Pt.locs, Pt.cells, Pt.slots] at X73 l73 y73 z73 st73 hQ73
    rw [l73, y73, z73] at X73
    obtain ⟨rfl, Nq73, hh73⟩ := hQ73
    replace Nf := Fr.app Nf Nq73
    refine own_step st73 ?_
    show own_Fin _ _ _ _ _ _ _ _ (mkF m 40 #[.val (.long q1), .second, .val (.int p2), .val (.int (8 : Int32)), .val (.ref bq71), .unset, .unset, .unset, .unset] [(.long (own_pt ((own_b q1) (1 : Int32).toInt.toNat) (1 : Int32))), (.long (own_pt ((own_b q1) (0 : Int32).toInt.toNat) (0 : Int32)))])
    refine own_step (fun t k => XS.lor X73.here hx rfl (hb hby at_40) rfl k) ?_
    show own_Fin _ _ _ _ _ _ _ _ (mkF m 41 #[.val (.long q1), .second, .val (.int p2), .val (.int (8 : Int32)), .val (.ref bq71), .unset, .unset, .unset, .unset] [(.long ((own_pt ((own_b q1) (0 : Int32).toInt.toNat) (0 : Int32)) ||| (own_pt ((own_b q1) (1 : Int32).toInt.toNat) (1 : Int32))))])
    refine own_step (fun t k => XS.aload X73.here hx rfl (hb hby at_41) rfl rfl k) ?_
    show own_Fin _ _ _ _ _ _ _ _ (mkF m 43 #[.val (.long q1), .second, .val (.int p2), .val (.int (8 : Int32)), .val (.ref bq71), .unset, .unset, .unset, .unset] [(.ref bq71), (.long ((own_pt ((own_b q1) (0 : Int32).toInt.toNat) (0 : Int32)) ||| (own_pt ((own_b q1) (1 : Int32).toInt.toNat) (1 : Int32))))])
    refine own_step (fun t k => XS.iconst X73.here hx rfl (hb hby at_43) k) ?_
    show own_Fin _ _ _ _ _ _ _ _ (mkF m 44 #[.val (.long q1), .second, .val (.int p2), .val (.int (8 : Int32)), .val (.ref bq71), .unset, .unset, .unset, .unset] [(.int (2 : Int32)), (.ref bq71), (.long ((own_pt ((own_b q1) (0 : Int32).toInt.toNat) (0 : Int32)) ||| (own_pt ((own_b q1) (1 : Int32).toInt.toNat) (1 : Int32))))])
    obtain ⟨_, _, ⟨T74, L74, k74, n74⟩, -, X74, ⟨Lc74, hQ74, l74, y74, z74⟩, st74⟩ := Jvm.LawKit.callS X73 hx (y := (⟨"com/example/kern_tablet/kerntablet/schema/IntegerHandlerLittleEndianPinLaw", "part", "([BI)J"⟩ : MethodName)) hown (mvT hZ (hw _ (List.mem_of_getElem? (i := 5) rfl))) (mvT hZ (hw _ (List.mem_of_getElem? (i := 6) rfl))) (mvT hZ (hw _ (List.mem_of_getElem? (i := 7) rfl))) (mvT hZ (hw _ (List.mem_of_getElem? (i := 8) rfl))) (by decide) (backOf (W := 2) (rm20 l Z a0 hw [] bq71 (2 : Int32) _ _ (8 : Int32) T71.heap n0 Zs V_bq71 rfl (by decide) (by decide)) hZ (hw _ (List.mem_of_getElem? (i := 8) rfl)) (hw _ (List.mem_of_getElem? (i := 7) rfl)) (by decide) (by decide)) (g := (mkF m 44 #[.val (.long q1), .second, .val (.int p2), .val (.int (8 : Int32)), .val (.ref bq71), .unset, .unset, .unset, .unset] [(.int (2 : Int32)), (.ref bq71), (.long ((own_pt ((own_b q1) (0 : Int32).toInt.toNat) (0 : Int32)) ||| (own_pt ((own_b q1) (1 : Int32).toInt.toNat) (1 : Int32))))])) rfl (by rw [hml]; rfl) (argsL := [(.ref bq71), (.int (2 : Int32))]) (rest := [(.long ((own_pt ((own_b q1) (0 : Int32).toInt.toNat) (0 : Int32)) ||| (own_pt ((own_b q1) (1 : Int32).toInt.toNat) (1 : Int32))))]) (lenOf own_pd_1 rfl) rfl (by show 2 * 0 + _ ≤ _; exact Nat.le_of_eq rfl) (hb hby at_44) (fun _ _ => ⟨rfl, hh73, (by decide : 1 + 0 ≤ _), (by decide : 8 + 0 ≤ _)⟩)
    dsimp only [Pt.U, Pt.locs, Pt.cells, Pt.slots] at X74 l74 y74 z74 st74 hQ74
    rw [l74, y74, z74] at X74
    obtain ⟨rfl, Nq74, hh74⟩ := hQ74
    replace Nf := Fr.app Nf Nq74
    refine own_step st74 ?_
    show own_Fin _ _ _ _ _ _ _ _ (mkF m 47 #[.val (.long q1), .second, .val (.int p2), .val (.int (8 : Int32)), .val (.ref bq71), .unset, .unset, .unset, .unset] [(.long (own_pt ((own_b q1) (2 : Int32).toInt.toNat) (2 : Int32))), (.long ((own_pt ((own_b q1) (0 : Int32).toInt.toNat) (0 : Int32)) ||| (own_pt ((own_b q1) (1 : Int32).toInt.toNat) (1 : Int32))))])
    refine own_step (fun t k => XS.lor X74.here hx rfl (hb hby at_47) rfl k) ?_
    show own_Fin _ _ _ _ _ _ _ _ (mkF m 48 #[.val (.long q1), .second, .val (.int p2), .val (.int (8 : Int32)), .val (.ref bq71), .unset, .unset, .unset, .unset] [(.long (((own_pt ((own_b q1) (0 : Int32).toInt.toNat) (0 : Int32)) ||| (own_pt ((own_b q1) (1 : Int32).toInt.toNat) (1 : Int32))) ||| (own_pt ((own_b q1) (2 : Int32).toInt.toNat) (2 : Int32))))])
    refine own_step (fun t k => XS.aload X74.here hx rfl (hb hby at_48) rfl rfl k) ?_
    show own_Fin _ _ _ _ _ _ _ _ (mkF m 50 #[.val (.long q1), .second, .val (.int p2), .val (.int (8 : Int32)), .val (.ref bq71), .unset, .unset, .unset, .unset] [(.ref bq71), (.long (((own_pt ((own_b q1) (0 : Int32).toInt.toNat) (0 : Int32)) ||| (own_pt ((own_b q1) (1 : Int32).toInt.toNat) (1 : Int32))) ||| (own_pt ((own_b q1) (2 : Int32).toInt.toNat) (2 : Int32))))])
    refine own_step (fun t k => XS.iconst X74.here hx rfl (hb hby at_50) k) ?_
    show own_Fin _ _ _ _ _ _ _ _ (mkF m 51 #[.val (.long q1), .second, .val (.int p2), .val (.int (8 : Int32)), .val (.ref bq71), .unset, .unset, .unset, .unset] [(.int (3 : Int32)), (.ref bq71), (.long (((own_pt ((own_b q1) (0 : Int32).toInt.toNat) (0 : Int32)) ||| (own_pt ((own_b q1) (1 : Int32).toInt.toNat) (1 : Int32))) ||| (own_pt ((own_b q1) (2 : Int32).toInt.toNat) (2 : Int32))))])
    obtain ⟨_, _, ⟨T75, L75, k75, n75⟩, -, X75, ⟨Lc75, hQ75, l75, y75, z75⟩, st75⟩ := Jvm.LawKit.callS X74 hx (y := (⟨"com/example/kern_tablet/kerntablet/schema/IntegerHandlerLittleEndianPinLaw", "part", "([BI)J"⟩ : MethodName)) hown (mvT hZ (hw _ (List.mem_of_getElem? (i := 5) rfl))) (mvT hZ (hw _ (List.mem_of_getElem? (i := 6) rfl))) (mvT hZ (hw _ (List.mem_of_getElem? (i := 7) rfl))) (mvT hZ (hw _ (List.mem_of_getElem? (i := 8) rfl))) (by decide) (backOf (W := 2) (rm20 l Z a0 hw [] bq71 (3 : Int32) _ _ (8 : Int32) T71.heap n0 Zs V_bq71 rfl (by decide) (by decide)) hZ (hw _ (List.mem_of_getElem? (i := 8) rfl)) (hw _ (List.mem_of_getElem? (i := 7) rfl)) (by decide) (by decide)) (g := (mkF m 51 #[.val (.long q1), .second, .val (.int p2), .val (.int (8 : Int32)), .val (.ref bq71), .unset, .unset, .unset, .unset] [(.int (3 : Int32)), (.ref bq71), (.long (((own_pt ((own_b q1) (0 : Int32).toInt.toNat) (0 : Int32)) ||| (own_pt ((own_b q1) (1 : Int32).toInt.toNat) (1 : Int32))) ||| (own_pt ((own_b q1) (2 : Int32).toInt.toNat) (2 : Int32))))])) rfl (by rw [hml]; rfl) (argsL := [(.ref bq71), (.int (3 : Int32))]) (rest := [(.long (((own_pt ((own_b q1) (0 : Int32).toInt.toNat) (0 : Int32)) ||| (own_pt ((own_b q1) (1 : Int32).toInt.toNat) (1 : Int32))) ||| (own_pt ((own_b q1) (2 : Int32).toInt.toNat) (2 : Int32))))]) (lenOf own_pd_1 rfl) rfl (by show 2 * 0 + _ ≤ _; exact Nat.le_of_eq rfl) (hb hby at_51) (fun _ _ => ⟨rfl, hh74, (by decide : 1 + 0 ≤ _), (by decide : 8 + 0 ≤ _)⟩)
    dsimp only [Pt.U, Pt.locs, Pt.cells, Pt.slots] at X75 l75 y75 z75 st75 hQ75
    rw [l75, y75, z75] at X75
    obtain ⟨rfl, Nq75, hh75⟩ := hQ75
    replace Nf := Fr.app Nf Nq75
    refine own_step st75 ?_
    show own_Fin _ _ _ _ _ _ _ _ (mkF m 54 #[.val (.long q1), .second, .val (.int p2), .val (.int (8 : Int32)), .val (.ref bq71), .unset, .unset, .unset, .unset] [(.long (own_pt ((own_b q1) (3 : Int32).toInt.toNat) (3 : Int32))), (.long (((own_pt ((own_b q1) (0 : Int32).toInt.toNat) (0 : Int32)) ||| (own_pt ((own_b q1) (1 : Int32).toInt.toNat) (1 : Int32))) ||| (own_pt ((own_b q1) (2 : Int32).toInt.toNat) (2 : Int32))))])
    refine own_step (fun t k => XS.lor X75.here hx rfl (hb hby at_54) rfl k) ?_
    show own_Fin _ _ _ _ _ _ _ _ (mkF m 55 #[.val (.long q1), .second, .val (.int p2), .val (.int (8 : Int32)), .val (.ref bq71), .unset, .unset, .unset, .unset] [(.long ((((own_pt ((own_b q1) (0 : Int32).toInt.toNat) (0 : Int32)) ||| (own_pt ((own_b q1) (1 : Int32).toInt.toNat) (1 : Int32))) ||| (own_pt ((own_b q1) (2 : Int32).toInt.toNat) (2 : Int32))) ||| (own_pt ((own_b q1) (3 : Int32).toInt.toNat) (3 : Int32))))])
    refine own_step (fun t k => XS.aload X75.here hx rfl (hb hby at_55) rfl rfl k) ?_
    show own_Fin _ _ _ _ _ _ _ _ (mkF m 57 #[.val (.long q1), .second, .val (.int p2), .val (.int (8 : Int32)), .val (.ref bq71), .unset, .unset, .unset, .unset] [(.ref bq71), (.long ((((own_pt ((own_b q1) (0 : Int32).toInt.toNat) (0 : Int32)) ||| (own_pt ((own_b q1) (1 : Int32).toInt.toNat) (1 : Int32))) ||| (own_pt ((own_b q1) (2 : Int32).toInt.toNat) (2 : Int32))) ||| (own_pt ((own_b q1) (3 : Int32).toInt.toNat) (3 : Int32))))])
    refine own_step (fun t k => XS.iconst X75.here hx rfl (hb hby at_57) k) ?_
    show own_Fin _ _ _ _ _ _ _ _ (mkF m 58 #[.val (.long q1), .second, .val (.int p2), .val (.int (8 : Int32)), .val (.ref bq71), .unset, .unset, .unset, .unset] [(.int (4 : Int32)), (.ref bq71), (.long ((((own_pt ((own_b q1) (0 : Int32).toInt.toNat) (0 : Int32)) ||| (own_pt ((own_b q1) (1 : Int32).toInt.toNat) (1 : Int32))) ||| (own_pt ((own_b q1) (2 : Int32).toInt.toNat) (2 : Int32))) ||| (own_pt ((own_b q1) (3 : Int32).toInt.toNat) (3 : Int32))))])
    obtain ⟨_, _, ⟨T76, L76, k76, n76⟩, -, X76, ⟨Lc76, hQ76, l76, y76, z76⟩, st76⟩ := Jvm.LawKit.callS X75 hx (y := (⟨"com/example/kern_tablet/kerntablet/schema/IntegerHandlerLittleEndianPinLaw", "part", "([BI)J"⟩ : MethodName)) hown (mvT hZ (hw _ (List.mem_of_getElem? (i := 5) rfl))) (mvT hZ (hw _ (List.mem_of_getElem? (i := 6) rfl))) (mvT hZ (hw _ (List.mem_of_getElem? (i := 7) rfl))) (mvT hZ (hw _ (List.mem_of_getElem? (i := 8) rfl))) (by decide) (backOf (W := 2) (rm20 l Z a0 hw [] bq71 (4 : Int32) _ _ (8 : Int32) T71.heap n0 Zs V_bq71 rfl (by decide) (by decide)) hZ (hw _ (List.mem_of_getElem? (i := 8) rfl)) (hw _ (List.mem_of_getElem? (i := 7) rfl)) (by decide) (by decide)) (g := (mkF m 58 #[.val (.long q1), .second, .val (.int p2), .val (.int (8 : Int32)), .val (.ref bq71), .unset, .unset, .unset, .unset] [(.int (4 : Int32)), (.ref bq71), (.long ((((own_pt ((own_b q1) (0 : Int32).toInt.toNat) (0 : Int32)) ||| (own_pt ((own_b q1) (1 : Int32).toInt.toNat) (1 : Int32))) ||| (own_pt ((own_b q1) (2 : Int32).toInt.toNat) (2 : Int32))) ||| (own_pt ((own_b q1) (3 : Int32).toInt.toNat) (3 : Int32))))])) rfl (by rw [hml]; rfl) (argsL := [(.ref bq71), (.int (4 : Int32))]) (rest := [(.long ((((own_pt ((own_b q1) (0 : Int32).toInt.toNat) (0 : Int32)) ||| (own_pt ((own_b q1) (1 : Int32).toInt.toNat) (1 : Int32))) ||| (own_pt ((own_b q1) (2 : Int32).toInt.toNat) (2 : Int32))) ||| (own_pt ((own_b q1) (3 : Int32).toInt.toNat) (3 : Int32))))]) (lenOf own_pd_1 rfl) rfl (by show 2 * 0 + _ ≤ _; exact Nat.le_of_eq rfl) (hb hby at_58) (fun _ _ => ⟨rfl, hh75, (by decide : 1 + 0 ≤ _), (by decide : 8 + 0 ≤ _)⟩)
    dsimp only [Pt.U, Pt.locs, Pt.cells, Pt.slots] at X76 l76 y76 z76 st76 hQ76
    rw [l76, y76, z76] at X76
    obtain ⟨rfl, Nq76, hh76⟩ := hQ76
    replace Nf := Fr.app Nf Nq76
    refine own_step st76 ?_
    show own_Fin _ _ _ _ _ _ _ _ (mkF m 61 #[.val (.long q1), .second, .val (.int p2), .val (.int (8 : Int32)), .val (.ref bq71), .unset, .unset, .unset, .unset] [(.long (own_pt ((own_b q1) (4 : Int32).toInt.toNat) (4 : Int32))), (.long ((((own_pt ((own_b q1) (0 : Int32).toInt.toNat) (0 : Int32)) ||| (own_pt ((own_b q1) (1 : Int32).toInt.toNat) (1 : Int32))) ||| (own_pt ((own_b q1) (2 : Int32).toInt.toNat) (2 : Int32))) ||| (own_pt ((own_b q1) (3 : Int32).toInt.toNat) (3 : Int32))))])
    refine own_step (fun t k => XS.lor X76.here hx rfl (hb hby at_61) rfl k) ?_
    show own_Fin _ _ _ _ _ _ _ _ (mkF m 62 #[.val (.long q1), .second, .val (.int p2), .val (.int (8 : Int32)), .val (.ref bq71), .unset, .unset, .unset, .unset] [(.long (((((own_pt ((own_b q1) (0 : Int32).toInt.toNat) (0 : Int32)) ||| (own_pt ((own_b q1) (1 : Int32).toInt.toNat) (1 : Int32))) ||| (own_pt ((own_b q1) (2 : Int32).toInt.toNat) (2 : Int32))) ||| (own_pt ((own_b q1) (3 : Int32).toInt.toNat) (3 : Int32))) ||| (own_pt ((own_b q1) (4 : Int32).toInt.toNat) (4 : Int32))))])
    refine own_step (fun t k => XS.aload X76.here hx rfl (hb hby at_62) rfl rfl k) ?_
    show own_Fin _ _ _ _ _ _ _ _ (mkF m 64 #[.val (.long q1), .second, .val (.int p2), .val (.int (8 : Int32)), .val (.ref bq71), .unset, .unset, .unset, .unset] [(.ref bq71), (.long (((((own_pt ((own_b q1) (0 : Int32).toInt.toNat) (0 : Int32)) ||| (own_pt ((own_b q1) (1 : Int32).toInt.toNat) (1 : Int32))) ||| (own_pt ((own_b q1) (2 : Int32).toInt.toNat) (2 : Int32))) ||| (own_pt ((own_b q1) (3 : Int32).toInt.toNat) (3 : Int32))) ||| (own_pt ((own_b q1) (4 : Int32).toInt.toNat) (4 : Int32))))])
    refine own_step (fun t k => XS.iconst X76.here hx rfl (hb hby at_64) k) ?_
    show own_Fin _ _ _ _ _ _ _ _ (mkF m 65 #[.val (.long q1), .second, .val (.int p2), .val (.int (8 : Int32)), .val (.ref bq71), .unset, .unset, .unset, .unset] [(.int (5 : Int32)), (.ref bq71), (.long (((((own_pt ((own_b q1) (0 : Int32).toInt.toNat) (0 : Int32)) ||| (own_pt ((own_b q1) (1 : Int32).toInt.toNat) (1 : Int32))) ||| (own_pt ((own_b q1) (2 : Int32).toInt.toNat) (2 : Int32))) ||| (own_pt ((own_b q1) (3 : Int32).toInt.toNat) (3 : Int32))) ||| (own_pt ((own_b q1) (4 : Int32).toInt.toNat) (4 : Int32))))])
    obtain ⟨_, _, ⟨T77, L77, k77, n77⟩, -, X77, ⟨Lc77, hQ77, l77, y77, z77⟩, st77⟩ := Jvm.LawKit.callS X76 hx (y := (⟨"com/example/kern_tablet/kerntablet/schema/IntegerHandlerLittleEndianPinLaw", "part", "([BI)J"⟩ : MethodName)) hown (mvT hZ (hw _ (List.mem_of_getElem? (i := 5) rfl))) (mvT hZ (hw _ (List.mem_of_getElem? (i := 6) rfl))) (mvT hZ (hw _ (List.mem_of_getElem? (i := 7) rfl))) (mvT hZ (hw _ (List.mem_of_getElem? (i := 8) rfl))) (by decide) (backOf (W := 2) (rm20 l Z a0 hw [] bq71 (5 : Int32) _ _ (8 : Int32) T71.heap n0 Zs V_bq71 rfl (by decide) (by decide)) hZ (hw _ (List.mem_of_getElem? (i := 8) rfl)) (hw _ (List.mem_of_getElem? (i := 7) rfl)) (by decide) (by decide)) (g := (mkF m 65 #[.val (.long q1), .second, .val (.int p2), .val (.int (8 : Int32)), .val (.ref bq71), .unset, .unset, .unset, .unset] [(.int (5 : Int32)), (.ref bq71), (.long (((((own_pt ((own_b q1) (0 : Int32).toInt.toNat) (0 : Int32)) ||| (own_pt ((own_b q1) (1 : Int32).toInt.toNat) (1 : Int32))) ||| (own_pt ((own_b q1) (2 : Int32).toInt.toNat) (2 : Int32))) ||| (own_pt ((own_b q1) (3 : Int32).toInt.toNat) (3 : Int32))) ||| (own_pt ((own_b q1) (4 : Int32).toInt.toNat) (4 : Int32))))])) rfl (by rw [hml]; rfl) (argsL := [(.ref bq71), (.int (5 : Int32))]) (rest := [(.long (((((own_pt ((own_b q1) (0 : Int32).toInt.toNat) (0 : Int32)) ||| (own_pt ((own_b q1) (1 : Int32).toInt.toNat) (1 : Int32))) ||| (own_pt ((own_b q1) (2 : Int32).toInt.toNat) (2 : Int32))) ||| (own_pt ((own_b q1) (3 : Int32).toInt.toNat) (3 : Int32))) ||| (own_pt ((own_b q1) (4 : Int32).toInt.toNat) (4 : Int32))))]) (lenOf own_pd_1 rfl) rfl (by show 2 * 0 + _ ≤ _; exact Nat.le_of_eq rfl) (hb hby at_65) (fun _ _ => ⟨rfl, hh76, (by decide : 1 + 0 ≤ _), (by decide : 8 + 0 ≤ _)⟩)
    dsimp only [Pt.U, Pt.locs, Pt.cells, Pt.slots] at X77 l77 y77 z77 st77 hQ77
    rw [l77, y77, z77] at X77
    obtain ⟨rfl, Nq77, hh77⟩ := hQ77
    replace Nf := Fr.app Nf Nq77
    refine own_step st77 ?_
    show own_Fin _ _ _ _ _ _ _ _ (mkF m 68 #[.val (.long q1), .second, .val (.int p2), .val (.int (8 : Int32)), .val (.ref bq71), .unset, .unset, .unset, .unset] [(.long (own_pt ((own_b q1) (5 : Int32).toInt.toNat) (5 : Int32))), (.long (((((own_pt ((own_b q1) (0 : Int32).toInt.toNat) (0 : Int32)) ||| (own_pt ((own_b q1) (1 : Int32).toInt.toNat) (1 : Int32))) ||| (own_pt ((own_b q1) (2 : Int32).toInt.toNat) (2 : Int32))) ||| (own_pt ((own_b q1) (3 : Int32).toInt.toNat) (3 : Int32))) ||| (own_pt ((own_b q1) (4 : Int32).toInt.toNat) (4 : Int32))))])
    refine own_step (fun t k => XS.lor X77.here hx rfl (hb hby at_68) rfl k) ?_
    show own_Fin _ _ _ _ _ _ _ _ (mkF m 69 #[.val (.long q1), .second, .val (.int p2), .val (.int (8 : Int32)), .val (.ref bq71), .unset, .unset, .unset, .unset] [(.long ((((((own_pt ((own_b q1) (0 : Int32).toInt.toNat) (0 : Int32)) ||| (own_pt ((own_b q1) (1 : Int32).toInt.toNat) (1 : Int32))) ||| (own_pt ((own_b q1) (2 : Int32).toInt.toNat) (2 : Int32))) ||| (own_pt ((own_b q1) (3 : Int32).toInt.toNat) (3 : Int32))) ||| (own_pt ((own_b q1) (4 : Int32).toInt.toNat) (4 : Int32))) ||| (own_pt ((own_b q1) (5 : Int32).toInt.toNat) (5 : Int32))))])
    refine own_step (fun t k => XS.aload X77.here hx rfl (hb hby at_69) rfl rfl k) ?_
    show own_Fin _ _ _ _ _ _ _ _ (mkF m 71 #[.val (.long q1), .second, .val (.int p2), .val (.int (8 : Int32)), .val (.ref bq71), .unset, .unset, .unset, .unset] [(.ref bq71), (.long ((((((own_pt ((own_b q1) (0 : Int32).toInt.toNat) (0 : Int32)) ||| (own_pt ((own_b q1) (1 : Int32).toInt.toNat) (1 : Int32))) ||| (own_pt ((own_b q1) (2 : Int32).toInt.toNat) (2 : Int32))) ||| (own_pt ((own_b q1) (3 : Int32).toInt.toNat) (3 : Int32))) ||| (own_pt ((own_b q1) (4 : Int32).toInt.toNat) (4 : Int32))) ||| (own_pt ((own_b q1) (5 : Int32).toInt.toNat) (5 : Int32))))])
    refine own_step (fun t k => XS.bipush X77.here hx rfl (hb hby at_71) k) ?_
    show own_Fin _ _ _ _ _ _ _ _ (mkF m 73 #[.val (.long q1), .second, .val (.int p2), .val (.int (8 : Int32)), .val (.ref bq71), .unset, .unset, .unset, .unset] [(.int (6 : Int32)), (.ref bq71), (.long ((((((own_pt ((own_b q1) (0 : Int32).toInt.toNat) (0 : Int32)) ||| (own_pt ((own_b q1) (1 : Int32).toInt.toNat) (1 : Int32))) ||| (own_pt ((own_b q1) (2 : Int32).toInt.toNat) (2 : Int32))) ||| (own_pt ((own_b q1) (3 : Int32).toInt.toNat) (3 : Int32))) ||| (own_pt ((own_b q1) (4 : Int32).toInt.toNat) (4 : Int32))) ||| (own_pt ((own_b q1) (5 : Int32).toInt.toNat) (5 : Int32))))])
    obtain ⟨_, _, ⟨T78, L78, k78, n78⟩, -, X78, ⟨Lc78, hQ78, l78, y78, z78⟩, st78⟩ := Jvm.LawKit.callS X77 hx (y := (⟨"com/example/kern_tablet/kerntablet/schema/IntegerHandlerLittleEndianPinLaw", "part", "([BI)J"⟩ : MethodName)) hown (mvT hZ (hw _ (List.mem_of_getElem? (i := 5) rfl))) (mvT hZ (hw _ (List.mem_of_getElem? (i := 6) rfl))) (mvT hZ (hw _ (List.mem_of_getElem? (i := 7) rfl))) (mvT hZ (hw _ (List.mem_of_getElem? (i := 8) rfl))) (by decide) (backOf (W := 2) (rm20 l Z a0 hw [] bq71 (6 : Int32) _ _ (8 : Int32) T71.heap n0 Zs V_bq71 rfl (by decide) (by decide)) hZ (hw _ (List.mem_of_getElem? (i := 8) rfl)) (hw _ (List.mem_of_getElem? (i := 7) rfl)) (by decide) (by decide)) (g := (mkF m 73 #[.val (.long q1), .second, .val (.int p2), .val (.int (8 : Int32)), .val (.ref bq71), .unset, .unset, .unset, .unset] [(.int (6 : Int32)), (.ref bq71), (.long ((((((own_pt ((own_b q1) (0 : Int32).toInt.toNat) (0 : Int32)) ||| (own_pt ((own_b q1) (1 : Int32).toInt.toNat) (1 : Int32))) ||| (own_pt ((own_b q1) (2 : Int32).toInt.toNat) (2 : Int32))) ||| (own_pt ((own_b q1) (3 : Int32).toInt.toNat) (3 : Int32))) ||| (own_pt ((own_b q1) (4 : Int32).toInt.toNat) (4 : Int32))) ||| (own_pt ((own_b q1) (5 : Int32).toInt.toNat) (5 : Int32))))])) rfl (by rw [hml]; rfl) (argsL := [(.ref bq71), (.int (6 : Int32))]) (rest := [(.long ((((((own_pt ((own_b q1) (0 : Int32).toInt.toNat) (0 : Int32)) ||| (own_pt ((own_b q1) (1 : Int32).toInt.toNat) (1 : Int32))) ||| (own_pt ((own_b q1) (2 : Int32).toInt.toNat) (2 : Int32))) ||| (own_pt ((own_b q1) (3 : Int32).toInt.toNat) (3 : Int32))) ||| (own_pt ((own_b q1) (4 : Int32).toInt.toNat) (4 : Int32))) ||| (own_pt ((own_b q1) (5 : Int32).toInt.toNat) (5 : Int32))))]) (lenOf own_pd_1 rfl) rfl (by show 2 * 0 + _ ≤ _; exact Nat.le_of_eq rfl) (hb hby at_73) (fun _ _ => ⟨rfl, hh77, (by decide : 1 + 0 ≤ _), (by decide : 8 + 0 ≤ _)⟩)
    dsimp only [Pt.U, Pt.locs, Pt.cells, Pt.slots] at X78 l78 y78 z78 st78 hQ78
    rw [l78, y78, z78] at X78
    obtain ⟨rfl, Nq78, hh78⟩ := hQ78
    replace Nf := Fr.app Nf Nq78
    refine own_step st78 ?_
    show own_Fin _ _ _ _ _ _ _ _ (mkF m 76 #[.val (.long q1), .second, .val (.int p2), .val (.int (8 : Int32)), .val (.ref bq71), .unset, .unset, .unset, .unset] [(.long (own_pt ((own_b q1) (6 : Int32).toInt.toNat) (6 : Int32))), (.long ((((((own_pt ((own_b q1) (0 : Int32).toInt.toNat) (0 : Int32)) ||| (own_pt ((own_b q1) (1 : Int32).toInt.toNat) (1 : Int32))) ||| (own_pt ((own_b q1) (2 : Int32).toInt.toNat) (2 : Int32))) ||| (own_pt ((own_b q1) (3 : Int32).toInt.toNat) (3 : Int32))) ||| (own_pt ((own_b q1) (4 : Int32).toInt.toNat) (4 : Int32))) ||| (own_pt ((own_b q1) (5 : Int32).toInt.toNat) (5 : Int32))))])
    refine own_step (fun t k => XS.lor X78.here hx rfl (hb hby at_76) rfl k) ?_
    show own_Fin _ _ _ _ _ _ _ _ (mkF m 77 #[.val (.long q1), .second, .val (.int p2), .val (.int (8 : Int32)), .val (.ref bq71), .unset, .unset, .unset, .unset] [(.long (((((((own_pt ((own_b q1) (0 : Int32).toInt.toNat) (0 : Int32)) ||| (own_pt ((own_b q1) (1 : Int32).toInt.toNat) (1 : Int32))) ||| (own_pt ((own_b q1) (2 : Int32).toInt.toNat) (2 : Int32))) ||| (own_pt ((own_b q1) (3 : Int32).toInt.toNat) (3 : Int32))) ||| (own_pt ((own_b q1) (4 : Int32).toInt.toNat) (4 : Int32))) ||| (own_pt ((own_b q1) (5 : Int32).toInt.toNat) (5 : Int32))) ||| (own_pt ((own_b q1) (6 : Int32).toInt.toNat) (6 : Int32))))])
    refine own_step (fun t k => XS.aload X78.here hx rfl (hb hby at_77) rfl rfl k) ?_
    show own_Fin _ _ _ _ _ _ _ _ (mkF m 79 #[.val (.long q1), .second, .val (.int p2), .val (.int (8 : Int32)), .val (.ref bq71), .unset, .unset, .unset, .unset] [(.ref bq71), (.long (((((((own_pt ((own_b q1) (0 : Int32).toInt.toNat) (0 : Int32)) ||| (own_pt ((own_b q1) (1 : Int32).toInt.toNat) (1 : Int32))) ||| (own_pt ((own_b q1) (2 : Int32).toInt.toNat) (2 : Int32))) ||| (own_pt ((own_b q1) (3 : Int32).toInt.toNat) (3 : Int32))) ||| (own_pt ((own_b q1) (4 : Int32).toInt.toNat) (4 : Int32))) ||| (own_pt ((own_b q1) (5 : Int32).toInt.toNat) (5 : Int32))) ||| (own_pt ((own_b q1) (6 : Int32).toInt.toNat) (6 : Int32))))])
    refine own_step (fun t k => XS.bipush X78.here hx rfl (hb hby at_79) k) ?_
    show own_Fin _ _ _ _ _ _ _ _ (mkF m 81 #[.val (.long q1), .second, .val (.int p2), .val (.int (8 : Int32)), .val (.ref bq71), .unset, .unset, .unset, .unset] [(.int (7 : Int32)), (.ref bq71), (.long (((((((own_pt ((own_b q1) (0 : Int32).toInt.toNat) (0 : Int32)) ||| (own_pt ((own_b q1) (1 : Int32).toInt.toNat) (1 : Int32))) ||| (own_pt ((own_b q1) (2 : Int32).toInt.toNat) (2 : Int32))) ||| (own_pt ((own_b q1) (3 : Int32).toInt.toNat) (3 : Int32))) ||| (own_pt ((own_b q1) (4 : Int32).toInt.toNat) (4 : Int32))) ||| (own_pt ((own_b q1) (5 : Int32).toInt.toNat) (5 : Int32))) ||| (own_pt ((own_b q1) (6 : Int32).toInt.toNat) (6 : Int32))))])
    obtain ⟨_, _, ⟨T79, L79, k79, n79⟩, -, X79, ⟨Lc79, hQ79, l79, y79, z79⟩, st79⟩ := Jvm.LawKit.callS X78 hx (y := (⟨"com/example/kern_tablet/kerntablet/schema/IntegerHandlerLittleEndianPinLaw", "part", "([BI)J"⟩ : MethodName)) hown (mvT hZ (hw _ (List.mem_of_getElem? (i := 5) rfl))) (mvT hZ (hw _ (List.mem_of_getElem? (i := 6) rfl))) (mvT hZ (hw _ (List.mem_of_getElem? (i := 7) rfl))) (mvT hZ (hw _ (List.mem_of_getElem? (i := 8) rfl))) (by decide) (backOf (W := 2) (rm20 l Z a0 hw [] bq71 (7 : Int32) _ _ (8 : Int32) T71.heap n0 Zs V_bq71 rfl (by decide) (by decide)) hZ (hw _ (List.mem_of_getElem? (i := 8) rfl)) (hw _ (List.mem_of_getElem? (i := 7) rfl)) (by decide) (by decide)) (g := (mkF m 81 #[.val (.long q1), .second, .val (.int p2), .val (.int (8 : Int32)), .val (.ref bq71), .unset, .unset, .unset, .unset] [(.int (7 : Int32)), (.ref bq71), (.long (((((((own_pt ((own_b q1) (0 : Int32).toInt.toNat) (0 : Int32)) ||| (own_pt ((own_b q1) (1 : Int32).toInt.toNat) (1 : Int32))) ||| (own_pt ((own_b q1) (2 : Int32).toInt.toNat) (2 : Int32))) ||| (own_pt ((own_b q1) (3 : Int32).toInt.toNat) (3 : Int32))) ||| (own_pt ((own_b q1) (4 : Int32).toInt.toNat) (4 : Int32))) ||| (own_pt ((own_b q1) (5 : Int32).toInt.toNat) (5 : Int32))) ||| (own_pt ((own_b q1) (6 : Int32).toInt.toNat) (6 : Int32))))])) rfl (by rw [hml]; rfl) (argsL := [(.ref bq71), (.int (7 : Int32))]) (rest := [(.long (((((((own_pt ((own_b q1) (0 : Int32).toInt.toNat) (0 : Int32)) ||| (own_pt ((own_b q1) (1 : Int32).toInt.toNat) (1 : Int32))) ||| (own_pt ((own_b q1) (2 : Int32).toInt.toNat) (2 : Int32))) ||| (own_pt ((own_b q1) (3 : Int32).toInt.toNat) (3 : Int32))) ||| (own_pt ((own_b q1) (4 : Int32).toInt.toNat) (4 : Int32))) ||| (own_pt ((own_b q1) (5 : Int32).toInt.toNat) (5 : Int32))) ||| (own_pt ((own_b q1) (6 : Int32).toInt.toNat) (6 : Int32))))]) (lenOf own_pd_1 rfl) rfl (by show 2 * 0 + _ ≤ _; exact Nat.le_of_eq rfl) (hb hby at_81) (fun _ _ => ⟨rfl, hh78, (by decide : 1 + 0 ≤ _), (by decide : 8 + 0 ≤ _)⟩)
    dsimp only [Pt.U, Pt.locs, Pt.cells, Pt.slots] at X79 l79 y79 z79 st79 hQ79
    rw [l79, y79, z79] at X79
    obtain ⟨rfl, Nq79, hh79⟩ := hQ79
    replace Nf := Fr.app Nf Nq79
    refine own_step st79 ?_
    show own_Fin _ _ _ _ _ _ _ _ (mkF m 84 #[.val (.long q1), .second, .val (.int p2), .val (.int (8 : Int32)), .val (.ref bq71), .unset, .unset, .unset, .unset] [(.long (own_pt ((own_b q1) (7 : Int32).toInt.toNat) (7 : Int32))), (.long (((((((own_pt ((own_b q1) (0 : Int32).toInt.toNat) (0 : Int32)) ||| (own_pt ((own_b q1) (1 : Int32).toInt.toNat) (1 : Int32))) ||| (own_pt ((own_b q1) (2 : Int32).toInt.toNat) (2 : Int32))) ||| (own_pt ((own_b q1) (3 : Int32).toInt.toNat) (3 : Int32))) ||| (own_pt ((own_b q1) (4 : Int32).toInt.toNat) (4 : Int32))) ||| (own_pt ((own_b q1) (5 : Int32).toInt.toNat) (5 : Int32))) ||| (own_pt ((own_b q1) (6 : Int32).toInt.toNat) (6 : Int32))))])
    refine own_step (fun t k => XS.lor X79.here hx rfl (hb hby at_84) rfl k) ?_
    show own_Fin _ _ _ _ _ _ _ _ (mkF m 85 #[.val (.long q1), .second, .val (.int p2), .val (.int (8 : Int32)), .val (.ref bq71), .unset, .unset, .unset, .unset] [(.long ((((((((own_pt ((own_b q1) (0 : Int32).toInt.toNat) (0 : Int32)) ||| (own_pt ((own_b q1) (1 : Int32).toInt.toNat) (1 : Int32))) ||| (own_pt ((own_b q1) (2 : Int32).toInt.toNat) (2 : Int32))) ||| (own_pt ((own_b q1) (3 : Int32).toInt.toNat) (3 : Int32))) ||| (own_pt ((own_b q1) (4 : Int32).toInt.toNat) (4 : Int32))) ||| (own_pt ((own_b q1) (5 : Int32).toInt.toNat) (5 : Int32))) ||| (own_pt ((own_b q1) (6 : Int32).toInt.toNat) (6 : Int32))) ||| (own_pt ((own_b q1) (7 : Int32).toInt.toNat) (7 : Int32))))])
    refine own_step (fun t k => XS.lstore X79.here hx rfl (hb hby at_85) rfl (l' := #[.val (.long q1), .second, .val (.int p2), .val (.int (8 : Int32)), .val (.ref bq71), .val (.long ((((((((own_pt ((own_b q1) (0 : Int32).toInt.toNat) (0 : Int32)) ||| (own_pt ((own_b q1) (1 : Int32).toInt.toNat) (1 : Int32))) ||| (own_pt ((own_b q1) (2 : Int32).toInt.toNat) (2 : Int32))) ||| (own_pt ((own_b q1) (3 : Int32).toInt.toNat) (3 : Int32))) ||| (own_pt ((own_b q1) (4 : Int32).toInt.toNat) (4 : Int32))) ||| (own_pt ((own_b q1) (5 : Int32).toInt.toNat) (5 : Int32))) ||| (own_pt ((own_b q1) (6 : Int32).toInt.toNat) (6 : Int32))) ||| (own_pt ((own_b q1) (7 : Int32).toInt.toNat) (7 : Int32)))), .second, .unset, .unset]) rfl k) ?_
    show own_Fin _ _ _ _ _ _ _ _ (mkF m 87 #[.val (.long q1), .second, .val (.int p2), .val (.int (8 : Int32)), .val (.ref bq71), .val (.long ((((((((own_pt ((own_b q1) (0 : Int32).toInt.toNat) (0 : Int32)) ||| (own_pt ((own_b q1) (1 : Int32).toInt.toNat) (1 : Int32))) ||| (own_pt ((own_b q1) (2 : Int32).toInt.toNat) (2 : Int32))) ||| (own_pt ((own_b q1) (3 : Int32).toInt.toNat) (3 : Int32))) ||| (own_pt ((own_b q1) (4 : Int32).toInt.toNat) (4 : Int32))) ||| (own_pt ((own_b q1) (5 : Int32).toInt.toNat) (5 : Int32))) ||| (own_pt ((own_b q1) (6 : Int32).toInt.toNat) (6 : Int32))) ||| (own_pt ((own_b q1) (7 : Int32).toInt.toNat) (7 : Int32)))), .second, .unset, .unset] [])
    refine own_step (fun t k => XS.iloadN X79.here hx rfl (hb hby at_87) rfl k) ?_
    show own_Fin _ _ _ _ _ _ _ _ (mkF m 88 #[.val (.long q1), .second, .val (.int p2), .val (.int (8 : Int32)), .val (.ref bq71), .val (.long ((((((((own_pt ((own_b q1) (0 : Int32).toInt.toNat) (0 : Int32)) ||| (own_pt ((own_b q1) (1 : Int32).toInt.toNat) (1 : Int32))) ||| (own_pt ((own_b q1) (2 : Int32).toInt.toNat) (2 : Int32))) ||| (own_pt ((own_b q1) (3 : Int32).toInt.toNat) (3 : Int32))) ||| (own_pt ((own_b q1) (4 : Int32).toInt.toNat) (4 : Int32))) ||| (own_pt ((own_b q1) (5 : Int32).toInt.toNat) (5 : Int32))) ||| (own_pt ((own_b q1) (6 : Int32).toInt.toNat) (6 : Int32))) ||| (own_pt ((own_b q1) (7 : Int32).toInt.toNat) (7 : Int32)))), .second, .unset, .unset] [(.int (8 : Int32))])
    refine own_step (fun t k => XS.bipush X79.here hx rfl (hb hby at_88) k) ?_
    show own_Fin _ _ _ _ _ _ _ _ (mkF m 90 #[.val (.long q1), .second, .val (.int p2), .val (.int (8 : Int32)), .val (.ref bq71), .val (.long ((((((((own_pt ((own_b q1) (0 : Int32).toInt.toNat) (0 : Int32)) ||| (own_pt ((own_b q1) (1 : Int32).toInt.toNat) (1 : Int32))) ||| (own_pt ((own_b q1) (2 : Int32).toInt.toNat) (2 : Int32))) ||| (own_pt ((own_b q1) (3 : Int32).toInt.toNat) (3 : Int32))) ||| (own_pt ((own_b q1) (4 : Int32).toInt.toNat) (4 : Int32))) ||| (own_pt ((own_b q1) (5 : Int32).toInt.toNat) (5 : Int32))) ||| (own_pt ((own_b q1) (6 : Int32).toInt.toNat) (6 : Int32))) ||| (own_pt ((own_b q1) (7 : Int32).toInt.toNat) (7 : Int32)))), .second, .unset, .unset] [(.int (8 : Int32)), (.int (8 : Int32))])
    refine own_step (fun t k => XS.icmpNo X79.here hx rfl (hb hby at_90) rfl (by decide) k) ?_
    show own_Fin _ _ _ _ _ _ _ _ (mkF m 93 #[.val (.long q1), .second, .val (.int p2), .val (.int (8 : Int32)), .val (.ref bq71), .val (.long ((((((((own_pt ((own_b q1) (0 : Int32).toInt.toNat) (0 : Int32)) ||| (own_pt ((own_b q1) (1 : Int32).toInt.toNat) (1 : Int32))) ||| (own_pt ((own_b q1) (2 : Int32).toInt.toNat) (2 : Int32))) ||| (own_pt ((own_b q1) (3 : Int32).toInt.toNat) (3 : Int32))) ||| (own_pt ((own_b q1) (4 : Int32).toInt.toNat) (4 : Int32))) ||| (own_pt ((own_b q1) (5 : Int32).toInt.toNat) (5 : Int32))) ||| (own_pt ((own_b q1) (6 : Int32).toInt.toNat) (6 : Int32))) ||| (own_pt ((own_b q1) (7 : Int32).toInt.toNat) (7 : Int32)))), .second, .unset, .unset] [])
    refine own_step (fun t k => X79.ldc2Long hx hown (mvT hZ (hw _ (List.mem_of_getElem? (i := 9) rfl))) (g := (mkF m 93 #[.val (.long q1), .second, .val (.int p2), .val (.int (8 : Int32)), .val (.ref bq71), .val (.long ((((((((own_pt ((own_b q1) (0 : Int32).toInt.toNat) (0 : Int32)) ||| (own_pt ((own_b q1) (1 : Int32).toInt.toNat) (1 : Int32))) ||| (own_pt ((own_b q1) (2 : Int32).toInt.toNat) (2 : Int32))) ||| (own_pt ((own_b q1) (3 : Int32).toInt.toNat) (3 : Int32))) ||| (own_pt ((own_b q1) (4 : Int32).toInt.toNat) (4 : Int32))) ||| (own_pt ((own_b q1) (5 : Int32).toInt.toNat) (5 : Int32))) ||| (own_pt ((own_b q1) (6 : Int32).toInt.toNat) (6 : Int32))) ||| (own_pt ((own_b q1) (7 : Int32).toInt.toNat) (7 : Int32)))), .second, .unset, .unset] [])) rfl (hb hby at_93) _ k) ?_
    show own_Fin _ _ _ _ _ _ _ _ (mkF m 96 #[.val (.long q1), .second, .val (.int p2), .val (.int (8 : Int32)), .val (.ref bq71), .val (.long ((((((((own_pt ((own_b q1) (0 : Int32).toInt.toNat) (0 : Int32)) ||| (own_pt ((own_b q1) (1 : Int32).toInt.toNat) (1 : Int32))) ||| (own_pt ((own_b q1) (2 : Int32).toInt.toNat) (2 : Int32))) ||| (own_pt ((own_b q1) (3 : Int32).toInt.toNat) (3 : Int32))) ||| (own_pt ((own_b q1) (4 : Int32).toInt.toNat) (4 : Int32))) ||| (own_pt ((own_b q1) (5 : Int32).toInt.toNat) (5 : Int32))) ||| (own_pt ((own_b q1) (6 : Int32).toInt.toNat) (6 : Int32))) ||| (own_pt ((own_b q1) (7 : Int32).toInt.toNat) (7 : Int32)))), .second, .unset, .unset] [(.long (-1 : Int64))])
    refine own_step (fun t k => XS.goto X79.here hx rfl (pc0 := 96) (pc' := 107) rfl (hb hby at_96) (by decide) (by decide) k) ?_
    show own_Fin _ _ _ _ _ _ _ _ (mkF m 107 #[.val (.long q1), .second, .val (.int p2), .val (.int (8 : Int32)), .val (.ref bq71), .val (.long ((((((((own_pt ((own_b q1) (0 : Int32).toInt.toNat) (0 : Int32)) ||| (own_pt ((own_b q1) (1 : Int32).toInt.toNat) (1 : Int32))) ||| (own_pt ((own_b q1) (2 : Int32).toInt.toNat) (2 : Int32))) ||| (own_pt ((own_b q1) (3 : Int32).toInt.toNat) (3 : Int32))) ||| (own_pt ((own_b q1) (4 : Int32).toInt.toNat) (4 : Int32))) ||| (own_pt ((own_b q1) (5 : Int32).toInt.toNat) (5 : Int32))) ||| (own_pt ((own_b q1) (6 : Int32).toInt.toNat) (6 : Int32))) ||| (own_pt ((own_b q1) (7 : Int32).toInt.toNat) (7 : Int32)))), .second, .unset, .unset] [(.long (-1 : Int64))])
    refine own_step (fun t k => XS.lstore X79.here hx rfl (hb hby at_107) rfl (l' := #[.val (.long q1), .second, .val (.int p2), .val (.int (8 : Int32)), .val (.ref bq71), .val (.long ((((((((own_pt ((own_b q1) (0 : Int32).toInt.toNat) (0 : Int32)) ||| (own_pt ((own_b q1) (1 : Int32).toInt.toNat) (1 : Int32))) ||| (own_pt ((own_b q1) (2 : Int32).toInt.toNat) (2 : Int32))) ||| (own_pt ((own_b q1) (3 : Int32).toInt.toNat) (3 : Int32))) ||| (own_pt ((own_b q1) (4 : Int32).toInt.toNat) (4 : Int32))) ||| (own_pt ((own_b q1) (5 : Int32).toInt.toNat) (5 : Int32))) ||| (own_pt ((own_b q1) (6 : Int32).toInt.toNat) (6 : Int32))) ||| (own_pt ((own_b q1) (7 : Int32).toInt.toNat) (7 : Int32)))), .second, .val (.long (-1 : Int64)), .second]) rfl k) ?_
    show own_Fin _ _ _ _ _ _ _ _ (mkF m 109 #[.val (.long q1), .second, .val (.int p2), .val (.int (8 : Int32)), .val (.ref bq71), .val (.long ((((((((own_pt ((own_b q1) (0 : Int32).toInt.toNat) (0 : Int32)) ||| (own_pt ((own_b q1) (1 : Int32).toInt.toNat) (1 : Int32))) ||| (own_pt ((own_b q1) (2 : Int32).toInt.toNat) (2 : Int32))) ||| (own_pt ((own_b q1) (3 : Int32).toInt.toNat) (3 : Int32))) ||| (own_pt ((own_b q1) (4 : Int32).toInt.toNat) (4 : Int32))) ||| (own_pt ((own_b q1) (5 : Int32).toInt.toNat) (5 : Int32))) ||| (own_pt ((own_b q1) (6 : Int32).toInt.toNat) (6 : Int32))) ||| (own_pt ((own_b q1) (7 : Int32).toInt.toNat) (7 : Int32)))), .second, .val (.long (-1 : Int64)), .second] [])
    refine own_step (fun t k => XS.lload X79.here hx rfl (hb hby at_109) rfl k) ?_
    show own_Fin _ _ _ _ _ _ _ _ (mkF m 111 #[.val (.long q1), .second, .val (.int p2), .val (.int (8 : Int32)), .val (.ref bq71), .val (.long ((((((((own_pt ((own_b q1) (0 : Int32).toInt.toNat) (0 : Int32)) ||| (own_pt ((own_b q1) (1 : Int32).toInt.toNat) (1 : Int32))) ||| (own_pt ((own_b q1) (2 : Int32).toInt.toNat) (2 : Int32))) ||| (own_pt ((own_b q1) (3 : Int32).toInt.toNat) (3 : Int32))) ||| (own_pt ((own_b q1) (4 : Int32).toInt.toNat) (4 : Int32))) ||| (own_pt ((own_b q1) (5 : Int32).toInt.toNat) (5 : Int32))) ||| (own_pt ((own_b q1) (6 : Int32).toInt.toNat) (6 : Int32))) ||| (own_pt ((own_b q1) (7 : Int32).toInt.toNat) (7 : Int32)))), .second, .val (.long (-1 : Int64)), .second] [(.long ((((((((own_pt ((own_b q1) (0 : Int32).toInt.toNat) (0 : Int32)) ||| (own_pt ((own_b q1) (1 : Int32).toInt.toNat) (1 : Int32))) ||| (own_pt ((own_b q1) (2 : Int32).toInt.toNat) (2 : Int32))) ||| (own_pt ((own_b q1) (3 : Int32).toInt.toNat) (3 : Int32))) ||| (own_pt ((own_b q1) (4 : Int32).toInt.toNat) (4 : Int32))) ||| (own_pt ((own_b q1) (5 : Int32).toInt.toNat) (5 : Int32))) ||| (own_pt ((own_b q1) (6 : Int32).toInt.toNat) (6 : Int32))) ||| (own_pt ((own_b q1) (7 : Int32).toInt.toNat) (7 : Int32))))])
    refine own_step (fun t k => XS.lloadN X79.here hx rfl (hb hby at_111) rfl k) ?_
    show own_Fin _ _ _ _ _ _ _ _ (mkF m 112 #[.val (.long q1), .second, .val (.int p2), .val (.int (8 : Int32)), .val (.ref bq71), .val (.long ((((((((own_pt ((own_b q1) (0 : Int32).toInt.toNat) (0 : Int32)) ||| (own_pt ((own_b q1) (1 : Int32).toInt.toNat) (1 : Int32))) ||| (own_pt ((own_b q1) (2 : Int32).toInt.toNat) (2 : Int32))) ||| (own_pt ((own_b q1) (3 : Int32).toInt.toNat) (3 : Int32))) ||| (own_pt ((own_b q1) (4 : Int32).toInt.toNat) (4 : Int32))) ||| (own_pt ((own_b q1) (5 : Int32).toInt.toNat) (5 : Int32))) ||| (own_pt ((own_b q1) (6 : Int32).toInt.toNat) (6 : Int32))) ||| (own_pt ((own_b q1) (7 : Int32).toInt.toNat) (7 : Int32)))), .second, .val (.long (-1 : Int64)), .second] [(.long q1), (.long ((((((((own_pt ((own_b q1) (0 : Int32).toInt.toNat) (0 : Int32)) ||| (own_pt ((own_b q1) (1 : Int32).toInt.toNat) (1 : Int32))) ||| (own_pt ((own_b q1) (2 : Int32).toInt.toNat) (2 : Int32))) ||| (own_pt ((own_b q1) (3 : Int32).toInt.toNat) (3 : Int32))) ||| (own_pt ((own_b q1) (4 : Int32).toInt.toNat) (4 : Int32))) ||| (own_pt ((own_b q1) (5 : Int32).toInt.toNat) (5 : Int32))) ||| (own_pt ((own_b q1) (6 : Int32).toInt.toNat) (6 : Int32))) ||| (own_pt ((own_b q1) (7 : Int32).toInt.toNat) (7 : Int32))))])
    refine own_step (fun t k => XS.lload X79.here hx rfl (hb hby at_112) rfl k) ?_
    show own_Fin _ _ _ _ _ _ _ _ (mkF m 114 #[.val (.long q1), .second, .val (.int p2), .val (.int (8 : Int32)), .val (.ref bq71), .val (.long ((((((((own_pt ((own_b q1) (0 : Int32).toInt.toNat) (0 : Int32)) ||| (own_pt ((own_b q1) (1 : Int32).toInt.toNat) (1 : Int32))) ||| (own_pt ((own_b q1) (2 : Int32).toInt.toNat) (2 : Int32))) ||| (own_pt ((own_b q1) (3 : Int32).toInt.toNat) (3 : Int32))) ||| (own_pt ((own_b q1) (4 : Int32).toInt.toNat) (4 : Int32))) ||| (own_pt ((own_b q1) (5 : Int32).toInt.toNat) (5 : Int32))) ||| (own_pt ((own_b q1) (6 : Int32).toInt.toNat) (6 : Int32))) ||| (own_pt ((own_b q1) (7 : Int32).toInt.toNat) (7 : Int32)))), .second, .val (.long (-1 : Int64)), .second] [(.long (-1 : Int64)), (.long q1), (.long ((((((((own_pt ((own_b q1) (0 : Int32).toInt.toNat) (0 : Int32)) ||| (own_pt ((own_b q1) (1 : Int32).toInt.toNat) (1 : Int32))) ||| (own_pt ((own_b q1) (2 : Int32).toInt.toNat) (2 : Int32))) ||| (own_pt ((own_b q1) (3 : Int32).toInt.toNat) (3 : Int32))) ||| (own_pt ((own_b q1) (4 : Int32).toInt.toNat) (4 : Int32))) ||| (own_pt ((own_b q1) (5 : Int32).toInt.toNat) (5 : Int32))) ||| (own_pt ((own_b q1) (6 : Int32).toInt.toNat) (6 : Int32))) ||| (own_pt ((own_b q1) (7 : Int32).toInt.toNat) (7 : Int32))))])
    refine own_step (fun t k => XS.land X79.here hx rfl (hb hby at_114) rfl k) ?_
    show own_Fin _ _ _ _ _ _ _ _ (mkF m 115 #[.val (.long q1), .second, .val (.int p2), .val (.int (8 : Int32)), .val (.ref bq71), .val (.long ((((((((own_pt ((own_b q1) (0 : Int32).toInt.toNat) (0 : Int32)) ||| (own_pt ((own_b q1) (1 : Int32).toInt.toNat) (1 : Int32))) ||| (own_pt ((own_b q1) (2 : Int32).toInt.toNat) (2 : Int32))) ||| (own_pt ((own_b q1) (3 : Int32).toInt.toNat) (3 : Int32))) ||| (own_pt ((own_b q1) (4 : Int32).toInt.toNat) (4 : Int32))) ||| (own_pt ((own_b q1) (5 : Int32).toInt.toNat) (5 : Int32))) ||| (own_pt ((own_b q1) (6 : Int32).toInt.toNat) (6 : Int32))) ||| (own_pt ((own_b q1) (7 : Int32).toInt.toNat) (7 : Int32)))), .second, .val (.long (-1 : Int64)), .second] [(.long (q1 &&& (-1 : Int64))), (.long ((((((((own_pt ((own_b q1) (0 : Int32).toInt.toNat) (0 : Int32)) ||| (own_pt ((own_b q1) (1 : Int32).toInt.toNat) (1 : Int32))) ||| (own_pt ((own_b q1) (2 : Int32).toInt.toNat) (2 : Int32))) ||| (own_pt ((own_b q1) (3 : Int32).toInt.toNat) (3 : Int32))) ||| (own_pt ((own_b q1) (4 : Int32).toInt.toNat) (4 : Int32))) ||| (own_pt ((own_b q1) (5 : Int32).toInt.toNat) (5 : Int32))) ||| (own_pt ((own_b q1) (6 : Int32).toInt.toNat) (6 : Int32))) ||| (own_pt ((own_b q1) (7 : Int32).toInt.toNat) (7 : Int32))))])
    refine own_step (fun t k => XS.lcmp X79.here hx rfl (hb hby at_115) rfl k) ?_
    show own_Fin _ _ _ _ _ _ _ _ (mkF m 116 #[.val (.long q1), .second, .val (.int p2), .val (.int (8 : Int32)), .val (.ref bq71), .val (.long ((((((((own_pt ((own_b q1) (0 : Int32).toInt.toNat) (0 : Int32)) ||| (own_pt ((own_b q1) (1 : Int32).toInt.toNat) (1 : Int32))) ||| (own_pt ((own_b q1) (2 : Int32).toInt.toNat) (2 : Int32))) ||| (own_pt ((own_b q1) (3 : Int32).toInt.toNat) (3 : Int32))) ||| (own_pt ((own_b q1) (4 : Int32).toInt.toNat) (4 : Int32))) ||| (own_pt ((own_b q1) (5 : Int32).toInt.toNat) (5 : Int32))) ||| (own_pt ((own_b q1) (6 : Int32).toInt.toNat) (6 : Int32))) ||| (own_pt ((own_b q1) (7 : Int32).toInt.toNat) (7 : Int32)))), .second, .val (.long (-1 : Int64)), .second] [(.int (lcmpW ((((((((own_pt ((own_b q1) (0 : Int32).toInt.toNat) (0 : Int32)) ||| (own_pt ((own_b q1) (1 : Int32).toInt.toNat) (1 : Int32))) ||| (own_pt ((own_b q1) (2 : Int32).toInt.toNat) (2 : Int32))) ||| (own_pt ((own_b q1) (3 : Int32).toInt.toNat) (3 : Int32))) ||| (own_pt ((own_b q1) (4 : Int32).toInt.toNat) (4 : Int32))) ||| (own_pt ((own_b q1) (5 : Int32).toInt.toNat) (5 : Int32))) ||| (own_pt ((own_b q1) (6 : Int32).toInt.toNat) (6 : Int32))) ||| (own_pt ((own_b q1) (7 : Int32).toInt.toNat) (7 : Int32))) (q1 &&& (-1 : Int64))))])
    have hc80 : (((((((((own_pt ((own_b q1) (0 : Int32).toInt.toNat) (0 : Int32)) ||| (own_pt ((own_b q1) (1 : Int32).toInt.toNat) (1 : Int32))) ||| (own_pt ((own_b q1) (2 : Int32).toInt.toNat) (2 : Int32))) ||| (own_pt ((own_b q1) (3 : Int32).toInt.toNat) (3 : Int32))) ||| (own_pt ((own_b q1) (4 : Int32).toInt.toNat) (4 : Int32))) ||| (own_pt ((own_b q1) (5 : Int32).toInt.toNat) (5 : Int32))) ||| (own_pt ((own_b q1) (6 : Int32).toInt.toNat) (6 : Int32))) ||| (own_pt ((own_b q1) (7 : Int32).toInt.toNat) (7 : Int32)))).toInt = ((q1 &&& (-1 : Int64))).toInt := congrArg Int64.toInt (own_fin8 q1)
    refine own_step (fun t k => XS.ifNo X79.here hx rfl (hb hby at_116) rfl (own_le (x := ((((((((own_pt ((own_b q1) (0 : Int32).toInt.toNat) (0 : Int32)) ||| (own_pt ((own_b q1) (1 : Int32).toInt.toNat) (1 : Int32))) ||| (own_pt ((own_b q1) (2 : Int32).toInt.toNat) (2 : Int32))) ||| (own_pt ((own_b q1) (3 : Int32).toInt.toNat) (3 : Int32))) ||| (own_pt ((own_b q1) (4 : Int32).toInt.toNat) (4 : Int32))) ||| (own_pt ((own_b q1) (5 : Int32).toInt.toNat) (5 : Int32))) ||| (own_pt ((own_b q1) (6 : Int32).toInt.toNat) (6 : Int32))) ||| (own_pt ((own_b q1) (7 : Int32).toInt.toNat) (7 : Int32)))) (y := (q1 &&& (-1 : Int64))) rfl rfl hc80).2 k) ?_
    show own_Fin _ _ _ _ _ _ _ _ (mkF m 119 #[.val (.long q1), .second, .val (.int p2), .val (.int (8 : Int32)), .val (.ref bq71), .val (.long ((((((((own_pt ((own_b q1) (0 : Int32).toInt.toNat) (0 : Int32)) ||| (own_pt ((own_b q1) (1 : Int32).toInt.toNat) (1 : Int32))) ||| (own_pt ((own_b q1) (2 : Int32).toInt.toNat) (2 : Int32))) ||| (own_pt ((own_b q1) (3 : Int32).toInt.toNat) (3 : Int32))) ||| (own_pt ((own_b q1) (4 : Int32).toInt.toNat) (4 : Int32))) ||| (own_pt ((own_b q1) (5 : Int32).toInt.toNat) (5 : Int32))) ||| (own_pt ((own_b q1) (6 : Int32).toInt.toNat) (6 : Int32))) ||| (own_pt ((own_b q1) (7 : Int32).toInt.toNat) (7 : Int32)))), .second, .val (.long (-1 : Int64)), .second] [])
    refine own_step (fun t k => XS.iconst X79.here hx rfl (hb hby at_119) k) ?_
    show own_Fin _ _ _ _ _ _ _ _ (mkF m 120 #[.val (.long q1), .second, .val (.int p2), .val (.int (8 : Int32)), .val (.ref bq71), .val (.long ((((((((own_pt ((own_b q1) (0 : Int32).toInt.toNat) (0 : Int32)) ||| (own_pt ((own_b q1) (1 : Int32).toInt.toNat) (1 : Int32))) ||| (own_pt ((own_b q1) (2 : Int32).toInt.toNat) (2 : Int32))) ||| (own_pt ((own_b q1) (3 : Int32).toInt.toNat) (3 : Int32))) ||| (own_pt ((own_b q1) (4 : Int32).toInt.toNat) (4 : Int32))) ||| (own_pt ((own_b q1) (5 : Int32).toInt.toNat) (5 : Int32))) ||| (own_pt ((own_b q1) (6 : Int32).toInt.toNat) (6 : Int32))) ||| (own_pt ((own_b q1) (7 : Int32).toInt.toNat) (7 : Int32)))), .second, .val (.long (-1 : Int64)), .second] [(.int (1 : Int32))])
    refine own_step (fun t k => XS.goto X79.here hx rfl (pc0 := 120) (pc' := 124) rfl (hb hby at_120) (by decide) (by decide) k) ?_
    show own_Fin _ _ _ _ _ _ _ _ (mkF m 124 #[.val (.long q1), .second, .val (.int p2), .val (.int (8 : Int32)), .val (.ref bq71), .val (.long ((((((((own_pt ((own_b q1) (0 : Int32).toInt.toNat) (0 : Int32)) ||| (own_pt ((own_b q1) (1 : Int32).toInt.toNat) (1 : Int32))) ||| (own_pt ((own_b q1) (2 : Int32).toInt.toNat) (2 : Int32))) ||| (own_pt ((own_b q1) (3 : Int32).toInt.toNat) (3 : Int32))) ||| (own_pt ((own_b q1) (4 : Int32).toInt.toNat) (4 : Int32))) ||| (own_pt ((own_b q1) (5 : Int32).toInt.toNat) (5 : Int32))) ||| (own_pt ((own_b q1) (6 : Int32).toInt.toNat) (6 : Int32))) ||| (own_pt ((own_b q1) (7 : Int32).toInt.toNat) (7 : Int32)))), .second, .val (.long (-1 : Int64)), .second] [(.int (1 : Int32))])
    refine own_retZ X79 hx hlk Bd.returns (hb hby at_124) (z' := (1 : Int32)) (by decide) (by decide) (by decide) hh79 ?_
    exact ⟨rfl, Nf⟩
set_option maxRecDepth 65536 in
set_option maxHeartbeats 40000000 in
theorem comes_1 {Post : Tables → Env → Array Value → State → Outcome → State → Prop} (hpost : ∀ tb e args s v u, (limb_1_1.after args s (.returned v) u = true ∧ limb_1_2.after args s (.returned v) u = true ∧ True) → FrameEnd s (.returned v) u (Jvm.fieldLocs frame_1_writes args s ++ Jvm.arrayLocs frame_1_arrays args s ++ Jvm.staticLocs frame_1_statics s) 16 128 → Post tb e args s (.returned v) u) :
    ArmFor flags0 classFile x code maxLocals ret World_1 tables_1 room_1 Calls_1 rest_1 Pre_1 Post := by
  intro l hfl _ _ p e ha hc hk s m args below hf hA hF happ hP
  obtain ⟨hcalls, hrest, hpre⟩ := hP
  obtain ⟨-, -, -, hnamed, -, -, -, hat⟩ := (Spec.applies_iff hf).mp happ
  obtain ⟨hg, hn⟩ := and_e (Cond.before_iff.mp (show (Jvm.Cond.and given_1 narrow_1).before args s = true from hpre))
  obtain ⟨g1, g2⟩ := and_e hg
  obtain ⟨g3, g4⟩ := and_e g2
  obtain ⟨w0, w1, rfl⟩ : ∃ w0 w1 : Value, args = #[w0, w1] := by
    have hs : args.size = 2 := by simpa [Cond.value, given_1] using g1
    obtain ⟨L⟩ := args
    match L, hs with
    | [w0, w1], _ => exact ⟨w0, w1, rfl⟩
  have hw := fun d (hd : d ∈ tables_1) => atoms_spec (ws := Jvm.Cond.code x code maxLocals ret :: tables_1) hat d (List.mem_cons_of_mem _ hd)
  obtain ⟨i0, ei0⟩ := isL_v g3
  obtain rfl : w0 = (.long i0) := Option.some.inj ei0
  obtain ⟨i1, ei1⟩ := is_v g4
  obtain rfl : w1 = (.int i1) := Option.some.inj ei1
  obtain ⟨n, o, h1, h2, h3, _, L, rfl, ⟨rfl, N⟩, hq⟩ := rm0 l s _ hw tables_1 i0 i1 s.heap s.heap.size (Nat.le_refl _) p e ha hc hk s m _ below hf ((Spec.applies_iff_loose hf).mp happ).1 ⟨rfl, State.Warmed39.refl s, rfl⟩ trivial
  refine ⟨n, _, h1, h2, h3, hpost _ _ _ _ _ _ ⟨Cond.after_iff.mpr rfl, Cond.after_iff.mpr (eq_i res_at (Term.int_eval (1)) rfl), trivial⟩ ⟨hq.1, hq.2.1, (hq.2.2.sift fun y hy => Or.inr (N y hy)).mono (by decide) (by decide)⟩⟩
theorem main_1_1 : Claimed_1_1 := comes_1 fun _ _ _ _ _ _ h hF => ⟨h.1, hF⟩
theorem main_1_2 : Claimed_1_2 := comes_1 fun _ _ _ _ _ _ h hF => ⟨h.2.1, hF⟩
end Jvm.Pilot.@@N@@
namespace Jvm.Pilot.@@N@@
open Jvm Jvm.ClassFile Sem Op Lib Jvm.Free Jvm.Stand Jvm.Pilot.@@N@@.Jvm.D
/-! MADE BY PROGRAM (witnessworld.py) out of the Statement's table words and the real class files: 10 classes; the members and pool entries that the words name. The judged class is class 1, her method 1. -/
namespace start1
open Jvm.ClassFile
def u (s : String) : CpInfo := .utf8 (stringToUtf16 s)
/-- a pool by its gaps: so many unusable entries, then the entry; so many at the end -/
def gap : Nat → List CpInfo → List CpInfo
  | 0, r => r
  | n + 1, r => .unusable :: gap n r
def poolList (es : List (Nat × CpInfo)) (last : Nat) : List CpInfo := es.foldr (fun e r => gap e.1 (e.2 :: r)) (gap last [])
def pool (es : List (Nat × CpInfo)) (last : Nat) : Array CpInfo := ⟨poolList es last⟩
def fileOf (pool : Array CpInfo) (this : Nat) (attrs : Array Attribute := #[]) (ms : Array MethodInfo := #[]) (fl : Nat := 33) (sup : Nat := 0) (ifs : Array Nat := #[]) (fds : Array FieldInfo := #[]) : ClassFile where
  minorVersion := 0
  majorVersion := 65
  constantPool := pool
  accessFlags := fl
  thisClass := this
  superClass := sup
  interfaces := ifs
  fields := fds
  methods := ms
  attributes := attrs
def plain (name : String) (sup : Option ClassId) : Class where
  name := name
  kind := .ordinary
  loader := none
  accessFlags := 33
  super := sup
  interfaces := #[]
  cf := none
  fields := #[]
  methods := #[]
  instanceTypes := #[]
  staticTypes := #[]
  resolved := #[]
  callSites := []
  init := .initialized
  statics := none
  mirror := none

def pool0 : Array CpInfo := pool [(5, u "<init>"), (0, u "()V"), (1, .class_ 10), (1, u "java/lang/Object")] 113

def k0m0 : Method := { name := "<init>", desc := "()V", sig := { parameters := [], returnType := none }, accessFlags := 1, code := none }
/-- java/lang/Object -/
def k0 : Class := { plain "java/lang/Object" none with
  accessFlags := 33
  interfaces := #[]
  cf := some (fileOf pool0 8 #[] #[{ accessFlags := 1, nameIndex := 5, descriptorIndex := 6, attributes := #[] }] 33 0 #[] #[])
  fields := #[]
  methods := #[k0m0]
  instanceTypes := #[]
  staticTypes := #[]
  resolved := Array.replicate 124 none
  statics := none }

def pool1 : Array CpInfo := pool [(2, .class_ 4), (1, u "java/lang/Object"), (0, u "<init>"), (0, u "()V"), (0, .methodref 8 9), (0, .class_ 10), (0, .nameAndType 11 12), (0, u "com/example/kern_tablet/kerntablet/schema/IntegerHandler"), (0, u "littleEndian"), (0, u "(JI)[B"), (0, .methodref 14 15), (0, .class_ 16), (0, .nameAndType 17 18), (0, u "com/example/kern_tablet/kerntablet/schema/IntegerHandlerLittleEndianPinLaw"), (0, u "part"), (0, u "([BI)J"), (0, .long 18446744073709551615), (3, u "law"), (0, u "(JI)Z")] 5

def k1m0 : Method := { name := "<init>", desc := "()V", sig := { parameters := [], returnType := none }, accessFlags := 2, code := none }
def k1c1 : Code := { maxStack := 6, maxLocals := 9, code := code, exceptionTable := #[], attributes := #[] }
def k1m1 : Method := { name := "law", desc := "(JI)Z", sig := { parameters := [.long, .int], returnType := some .boolean }, accessFlags := 9, code := some k1c1 }
def k1c2 : Code := { maxStack := 4, maxLocals := 2, code := method_3_code, exceptionTable := #[], attributes := #[] }
def k1m2 : Method := { name := "part", desc := "([BI)J", sig := { parameters := [(.array .byte), .int], returnType := some .long }, accessFlags := 10, code := some k1c2 }
/-- com/example/kern_tablet/kerntablet/schema/IntegerHandlerLittleEndianPinLaw -/
def k1 : Class := { plain "com/example/kern_tablet/kerntablet/schema/IntegerHandlerLittleEndianPinLaw" (some 0) with
  accessFlags := 49
  interfaces := #[]
  cf := some (fileOf pool1 14 #[] #[{ accessFlags := 2, nameIndex := 5, descriptorIndex := 6, attributes := #[] }, { accessFlags := 9, nameIndex := 23, descriptorIndex := 24, attributes := #[] }, { accessFlags := 10, nameIndex := 17, descriptorIndex := 18, attributes := #[] }] 49 2 #[] #[])
  fields := #[]
  methods := #[k1m0, k1m1, k1m2]
  instanceTypes := #[]
  staticTypes := #[]
  resolved := Array.replicate 30 none
  statics := none }

def pool2 : Array CpInfo := pool [(2, .class_ 4), (1, u "com/example/kern_tablet/kerntablet/schema/TypeHandler$1"), (59, .class_ 65), (0, u "com/example/kern_tablet/kerntablet/schema/TypeHandler"), (0, .class_ 67), (0, u "java/lang/Object")] 29

/-- com/example/kern_tablet/kerntablet/schema/TypeHandler -/
def k2 : Class := { plain "com/example/kern_tablet/kerntablet/schema/TypeHandler" (some 0) with
  accessFlags := 1537
  interfaces := #[]
  cf := some (fileOf pool2 64 #[.nestMembers #[2]] #[] 1537 66 #[] #[])
  fields := #[]
  methods := #[]
  instanceTypes := #[]
  staticTypes := #[]
  resolved := Array.replicate 97 none
  statics := none }

def pool3 : Array CpInfo := pool [(2, .class_ 4), (1, u "java/lang/Object"), (3, .class_ 10), (1, u "com/example/kern_tablet/kerntablet/schema/IntegerHandler"), (0, u "type"), (0, u "Lcom/example/kern_tablet/kerntablet/schema/ColumnType;"), (2, u "valueClass"), (0, u "Ljava/lang/Class;"), (2, u "min"), (0, u "J"), (2, u "max"), (2, u "width"), (0, u "I"), (2, u "box"), (0, u "Ljava/util/function/LongFunction;"), (100, u "littleEndian"), (0, u "(JI)[B"), (32, u "INT8"), (12, u "Lcom/example/kern_tablet/kerntablet/schema/IntegerHandler;"), (2, u "INT16"), (9, u "INT32"), (9, u "INT64"), (7, .class_ 211), (0, u "com/example/kern_tablet/kerntablet/schema/TypeHandler")] 73

def k3c0 : Code := { maxStack := 6, maxLocals := 5, code := prog_22_method_2_code, exceptionTable := #[], attributes := #[] }
def k3m0 : Method := { name := "littleEndian", desc := "(JI)[B", sig := { parameters := [.long, .int], returnType := some (.array .byte) }, accessFlags := 8, code := some k3c0 }
/-- com/example/kern_tablet/kerntablet/schema/IntegerHandler -/
def k3 : Class := { plain "com/example/kern_tablet/kerntablet/schema/IntegerHandler" (some 0) with
  accessFlags := 48
  interfaces := #[2]
  cf := some (fileOf pool3 8 #[] #[{ accessFlags := 8, nameIndex := 132, descriptorIndex := 133, attributes := #[] }] 48 2 #[210] #[{ accessFlags := 24, nameIndex := 166, descriptorIndex := 179, attributes := #[] }, { accessFlags := 24, nameIndex := 182, descriptorIndex := 179, attributes := #[] }, { accessFlags := 24, nameIndex := 192, descriptorIndex := 179, attributes := #[] }, { accessFlags := 24, nameIndex := 202, descriptorIndex := 179, attributes := #[] }, { accessFlags := 18, nameIndex := 11, descriptorIndex := 12, attributes := #[] }, { accessFlags := 18, nameIndex := 15, descriptorIndex := 16, attributes := #[] }, { accessFlags := 18, nameIndex := 19, descriptorIndex := 20, attributes := #[] }, { accessFlags := 18, nameIndex := 23, descriptorIndex := 20, attributes := #[] }, { accessFlags := 18, nameIndex := 26, descriptorIndex := 27, attributes := #[] }, { accessFlags := 18, nameIndex := 30, descriptorIndex := 31, attributes := #[] }])
  fields := #[{ name := "INT8", type := (.object "com/example/kern_tablet/kerntablet/schema/IntegerHandler"), accessFlags := 24, slot := 0, constantValue := 0 }, { name := "INT16", type := (.object "com/example/kern_tablet/kerntablet/schema/IntegerHandler"), accessFlags := 24, slot := 1, constantValue := 0 }, { name := "INT32", type := (.object "com/example/kern_tablet/kerntablet/schema/IntegerHandler"), accessFlags := 24, slot := 2, constantValue := 0 }, { name := "INT64", type := (.object "com/example/kern_tablet/kerntablet/schema/IntegerHandler"), accessFlags := 24, slot := 3, constantValue := 0 }, { name := "type", type := (.object "com/example/kern_tablet/kerntablet/schema/ColumnType"), accessFlags := 18, slot := 0, constantValue := 0 }, { name := "valueClass", type := (.object "java/lang/Class"), accessFlags := 18, slot := 1, constantValue := 0 }, { name := "min", type := .long, accessFlags := 18, slot := 2, constantValue := 0 }, { name := "max", type := .long, accessFlags := 18, slot := 3, constantValue := 0 }, { name := "width", type := .int, accessFlags := 18, slot := 4, constantValue := 0 }, { name := "box", type := (.object "java/util/function/LongFunction"), accessFlags := 18, slot := 5, constantValue := 0 }]
  methods := #[k3m0]
  instanceTypes := #[(.object "com/example/kern_tablet/kerntablet/schema/ColumnType"), (.object "java/lang/Class"), .long, .long, .int, (.object "java/util/function/LongFunction")]
  staticTypes := #[(.object "com/example/kern_tablet/kerntablet/schema/IntegerHandler"), (.object "com/example/kern_tablet/kerntablet/schema/IntegerHandler"), (.object "com/example/kern_tablet/kerntablet/schema/IntegerHandler"), (.object "com/example/kern_tablet/kerntablet/schema/IntegerHandler")]
  resolved := Array.replicate 285 none
  statics := none }

def pool4 : Array CpInfo := pool [(1, u "java/lang/Cloneable"), (0, .class_ 1), (0, u "java/lang/Object"), (0, .class_ 3)] 3

/-- java/lang/Cloneable -/
def k4 : Class := { plain "java/lang/Cloneable" (some 0) with
  accessFlags := 1537
  interfaces := #[]
  cf := some (fileOf pool4 2 #[] #[] 1537 4 #[] #[])
  fields := #[]
  methods := #[]
  instanceTypes := #[]
  staticTypes := #[]
  resolved := Array.replicate 8 none
  statics := none }

def pool5 : Array CpInfo := pool [(1, u "java/io/Serializable"), (0, .class_ 1), (0, u "java/lang/Object"), (0, .class_ 3)] 3

/-- java/io/Serializable -/
def k5 : Class := { plain "java/io/Serializable" (some 0) with
  accessFlags := 1537
  interfaces := #[]
  cf := some (fileOf pool5 2 #[] #[] 1537 4 #[] #[])
  fields := #[]
  methods := #[]
  instanceTypes := #[]
  staticTypes := #[]
  resolved := Array.replicate 8 none
  statics := none }

/-- the primitive byte -/
def k6 : Class := { plain "byte" none with kind := .primitive 'B', accessFlags := 0x411 }
/-- [B -/
def k7 : Class := { plain "[B" (some 0) with kind := .array 6 .byte, interfaces := #[4, 5], accessFlags := 1041 }

/-- the primitive int -/
def k8 : Class := { plain "int" none with kind := .primitive 'I', accessFlags := 0x411 }
/-- [I -/
def k9 : Class := { plain "[I" (some 0) with kind := .array 8 .int, interfaces := #[4, 5], accessFlags := 1041 }

def heap : Heap := #[]
def classes : Array Class := #[k0, k1, k2, k3, k4, k5, k6, k7, k8, k9]
def interned : List (Array UInt16 × Addr) := []
def slotsUsed : Nat := 0
def theMethod : MethodId := ⟨1, 1⟩
def args0 : Array Value := #[.long 7, .int 5]
def aboutOver (below : List Frame) : State where
  vm := { classes := classes, interned := interned.toArray }
  heap := heap
  slotsUsed := slotsUsed
  threads := #[{ frames := .invoking theMethod args0 :: below }]
def below0 : List Frame := [.native { method := ⟨0, 0⟩, args := #[] }]
def about1 : State := aboutOver below0
def p0 : Program := .bare "" "" ""
def e0 : Env := launch0.env 0 0 0
theorem w_frames : about1.frames = Frame.invoking theMethod args0 :: below0 := rfl
set_option maxRecDepth 65536 in
theorem w_args : argsFit about1.vm theMethod args0 = true := by decide +kernel
set_option maxRecDepth 65536 in
theorem w_heap : heapFits about1 = true := by decide +kernel
set_option maxRecDepth 65536 in
theorem w_runnable : about1.curStatus? = some .runnable := by decide +kernel
set_option maxRecDepth 65536 in
theorem w_alone : about1.alone = true := by decide +kernel
set_option maxRecDepth 65536 in
theorem w_named : about1.methodNamed? x = some theMethod := by decide +kernel
set_option maxRecDepth 65536 in
theorem w_hears : about1.hears theMethod below0 = true := by decide +kernel
set_option maxRecDepth 65536 in
theorem w_ripe : about1.ripe theMethod args0 below0 = true := by decide +kernel
theorem w_running : about1.status = .running := rfl
set_option maxRecDepth 65536 in
theorem w_room : about1.hasRoom e0.platform room_1 = true :=
  launch0.hasRoom_least _ room_1 (by decide +kernel) (by decide +kernel) (by decide +kernel) (by decide +kernel) (by decide +kernel) (by decide +kernel)
theorem allAtoms_all (ts : List Jvm.Cond) (a : Array Jvm.Value) (st : Jvm.State) : (allAtoms ts).before a st = ts.all (fun c => c.before a st) := by
  induction ts with
  | nil => rfl
  | cons c t ih =>
    show (Jvm.Cond.and c (allAtoms t)).before a st = _
    rw [Jvm.Cond.before_and, ih, List.all_cons]
def words1 : List Jvm.Cond := Jvm.Cond.code x code maxLocals ret :: tables_1
/-- a 'code' word, met by the world's own term for the bytes: nothing is compared byte by byte -/
theorem code_word {y : MethodName} {bytes : ByteArray} {mx : Nat} {rt : Option FieldType} {a : Array Value} {s : State} {m : MethodId} {meth : Method} {c : Code} (h1 : s.methodNamed? y = some m) (h2 : s.vm.method? m = some meth) (h3 : meth.code = some c) (h4 : c.code = bytes)
    (h5 : (c.maxLocals == mx && c.exceptionTable.isEmpty && decide (c.maxStack ≤ mostOperands) && decide (meth.sig.returnType = rt) && !meth.locks && decide (parseMethodDescriptor y.desc = some meth.sig)) = true) : (Jvm.Cond.code y bytes mx rt).before a s = true := by
  simp only [Bool.and_eq_true, beq_iff_eq, Bool.not_eq_true', decide_eq_true_eq] at h5
  obtain ⟨⟨⟨⟨⟨g1, g2⟩, g3⟩, g4⟩, g5⟩, g6⟩ := h5
  simp [Cond.before, Cond.holds, Cond.value, h1, h2, h3, h4, g1, g2, g3, g4, g5, g6]
def isCode : Jvm.Cond → Bool
  | .code _ _ _ _ => true
  | _ => false
theorem all_split {L : List Jvm.Cond} {P : Jvm.Cond → Bool} (h1 : L.all (fun c => isCode c || P c) = true) (h2 : ∀ c ∈ L.filter isCode, P c = true) : L.all P = true := by
  refine List.all_eq_true.mpr fun c hc => ?_
  have h := List.all_eq_true.mp h1 c hc
  rcases Bool.eq_false_or_eq_true (isCode c) with hi | hi
  · exact h2 c (List.mem_filter.mpr ⟨hc, hi⟩)
  · simpa [hi] using h
set_option maxRecDepth 65536 in
theorem w_c0 : (Jvm.Cond.code x code maxLocals ret).before args0 about1 = true := code_word (m := ⟨1, 1⟩) (meth := k1m1) (c := k1c1) (by decide +kernel) rfl rfl rfl (by decide +kernel)
set_option maxRecDepth 65536 in
theorem w_c1 : (Jvm.Cond.code ({ cls := "com/example/kern_tablet/kerntablet/schema/IntegerHandler", name := "littleEndian", desc := "(JI)[B" } : Jvm.MethodName) prog_22_method_2_code (5 : Nat) (Option.some (Jvm.ClassFile.FieldType.array Jvm.ClassFile.FieldType.byte))).before args0 about1 = true := code_word (m := ⟨3, 0⟩) (meth := k3m0) (c := k3c0) (by decide +kernel) rfl rfl rfl (by decide +kernel)
set_option maxRecDepth 65536 in
theorem w_c2 : (Jvm.Cond.code ({ cls := "com/example/kern_tablet/kerntablet/schema/IntegerHandlerLittleEndianPinLaw", name := "part", desc := "([BI)J" } : Jvm.MethodName) method_3_code (2 : Nat) (Option.some Jvm.ClassFile.FieldType.long)).before args0 about1 = true := code_word (m := ⟨1, 2⟩) (meth := k1m2) (c := k1c2) (by decide +kernel) rfl rfl rfl (by decide +kernel)
def codes1 : List Jvm.Cond := [Jvm.Cond.code x code maxLocals ret, Jvm.Cond.code ({ cls := "com/example/kern_tablet/kerntablet/schema/IntegerHandler", name := "littleEndian", desc := "(JI)[B" } : Jvm.MethodName) prog_22_method_2_code (5 : Nat) (Option.some (Jvm.ClassFile.FieldType.array Jvm.ClassFile.FieldType.byte)), Jvm.Cond.code ({ cls := "com/example/kern_tablet/kerntablet/schema/IntegerHandlerLittleEndianPinLaw", name := "part", desc := "([BI)J" } : Jvm.MethodName) method_3_code (2 : Nat) (Option.some Jvm.ClassFile.FieldType.long)]
set_option maxRecDepth 65536 in
theorem codes_eq : words1.filter isCode = codes1 := rfl
theorem w_codes : ∀ c ∈ words1.filter isCode, c.before args0 about1 = true := by
  rw [codes_eq]
  intro c hc
  simp only [codes1, List.mem_cons, List.not_mem_nil, or_false] at hc
  rcases hc with rfl | rfl | rfl
  · exact w_c0
  · exact w_c1
  · exact w_c2
set_option maxRecDepth 65536 in
theorem w_t1 : words1.all (fun c => isCode c || c.before args0 about1) = true := by decide +kernel
theorem w_tables : (allAtoms (Jvm.Cond.code x code maxLocals ret :: tables_1)).before args0 about1 = true := by
  rw [allAtoms_all]
  show words1.all (fun c => c.before args0 about1) = true
  refine all_split ?_ w_codes
  rw [w_t1]
set_option maxRecDepth 65536 in
theorem w_case : (Jvm.Cond.and given_1 narrow_1).before args0 about1 = true := by decide +kernel
theorem w_applies : (headSpec (Jvm.Cond.code x code maxLocals ret :: tables_1) room_1).applies x e0.platform about1 = true :=
  (Spec.applies_iff w_frames).mpr ⟨w_running, w_runnable, w_alone, w_named, w_hears, w_ripe, w_room, w_tables⟩
theorem atStart : AtStart classFile x code maxLocals ret World_1 tables_1 room_1 Calls_1 rest_1 Pre_1 launch0 p0 e0 about1 theMethod args0 below0 :=
  ⟨lists_1, trivial, launch0.admits_env _ _ _, launch0.least_env, fairChoices_fair.cas, fairChoices_fair.clock, w_frames, w_args, w_heap, w_applies, trivial, trivial, w_case⟩
end start1
theorem witness_1 : WitnessClaimed_1 := ⟨start1.p0, start1.e0, start1.about1, start1.theMethod, start1.args0, start1.below0, start1.atStart⟩
end Jvm.Pilot.@@N@@
